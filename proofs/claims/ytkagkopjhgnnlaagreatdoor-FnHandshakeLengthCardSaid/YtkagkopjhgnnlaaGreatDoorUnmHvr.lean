/- handshake.Handshake.Unmarshal of a HelloVerifyRequest. -/
import Derived.Test.YtkagkopjhgnnlaaGreatDoorHvr
namespace Go.Proofs.YtkagkopjhgnnlaaGreatDoor
open Go.RowKit

theorem Hs.other {t : TypeId} {g b n q : Nat} {d : Nat → UInt8} {w0 w w1 : World} {cs : Array Value} (h : Hs t g b n d w0 w cs) (hc : Chg w w1 (fun i => i = q)) (hq : w0.heap.size ≤ q) (hg : g ≠ q) (hb : b ≠ q) : Hs t g b n d w0 w1 cs :=
  ⟨hc.blk h.blk hg, fun j hj => hc.cell (h.dat j hj) hb, h.ne, h.chg.trans hc (fun i hi h1 => by omega)⟩

/-- The bytes of a cookie that is read. -/
abbrev ck (d : Nat → UInt8) (k : Nat) : Array Value := ((List.range k).map fun j => Value.int .u8 (d (15 + j)).toNat).toArray

set_option maxHeartbeats 1000000 in
set_option maxRecDepth 100000 in
theorem unm_hvr (g b n k c : Nat) (d : Nat → UInt8) (x0 x1 x2 x3 x4 x5 x6 : Value) (w0 w : World) (hn : n = 15 + k) (hc : n ≤ c) (H : Hs 50 g b n d w0 w #[x0, x1, x2, x3, x4, x5, x6])
    (hL : Lib.beNat [d 1, d 2, d 3] = n - 12) (hF : Lib.beNat [d 9, d 10, d 11] = n - 12) (hk : (d 0).toNat = 3) (hkk : (d 14).toNat = k) (hm : k ≤ 255) :
    Calls Tryz.prog 9 #[.pointer (some ⟨g, 0, none⟩), .slice (some ⟨b, 0, none⟩) n c] w fun e w' => e = .returned .nilIface ∧ ∃ q z, w0.heap.size ≤ q ∧ w0.heap.size ≤ z ∧
      Hs 50 g b n d w0 w' (hcells d (.iface 68 (.pointer (some ⟨q, 0, none⟩))) x6) ∧
      w'.heap[q]? = some (.cells #[.int .u8 (d 12).toNat, .int .u8 (d 13).toNat, .slice (some ⟨z, 0, none⟩) k k] 70 (0, 0)) ∧ w'.heap[z]? = some (.cells (ck d k) 5 (0, 0)) := by
  have hm' : (n : Int) ≤ 1000000 := by omega
  have hc1 : ¬ c = 1 := by omega
  have hc12 : ¬ c = 12 := by omega
  have hi0 : (0 : Int) < (n : Int) := by omega
  have hn12 : 12 ≤ n := by omega
  have HN := Lib.hid hn
  have HKK := Lib.hid hkk
  clear hn hkk
  go_enter Tryz.func9, Tryz.ntmps9
  go_wp2_with fail
  refine (hdr g b n c d x0 x1 x2 x3 x4 x5 x6 w0 w hn12 hc (by unfold maxLen; omega) H).mono ?_
  rintro e w1 ⟨rfl, H1⟩
  clear H
  go_wp2_with fail
  refine (u24 b 1 (n - 1) (c - 1) (d 1) (d 2) (d 3) _ (by omega) (by unfold maxLen; omega) (H1.dat 1 (by omega)) (H1.dat 2 (by omega)) (H1.dat 3 (by omega))).mono ?_
  rintro e w2 ⟨rfl, hb2⟩
  have H2 := H1.below hb2
  clear H1 hb2
  have c0 := H2.dat 0 (by omega)
  rw [hk] at c0
  have k4 := (bcell H2.blk 4).trans rfl
  have hql := blt H2.blk
  have hb2 := H2.chg.size
  have hbl := World.block_lt_of_cell? _ _ (H2.dat 0 (by omega))
  have H3 := H2.below ((Below.refl _ _).alloc (Nat.le_refl _) (.cells #[.int .u8 0, .int .u8 0, .slice none 0 0] 70))
  have k5 := bcell H3.blk 5
  have f5 := bfrozen H3.blk 5
  have H4 := (H2.set 5 (.iface 68 (.pointer (some ⟨w2.heap.size, 0, none⟩)))).below ((Below.refl _ _).alloc (Nat.le_refl _) (.cells #[.int .u8 0, .int .u8 0, .slice none 0 0] 70))
  have hq := heap_alloc_new (w2.setCell ⟨g, 5, none⟩ (.iface 68 (.pointer (some ⟨w2.heap.size, 0, none⟩)))) (.cells #[.int .u8 0, .int .u8 0, .slice none 0 0] 70)
  rw [show (w2.setCell ⟨g, 5, none⟩ (.iface 68 (.pointer (some ⟨w2.heap.size, 0, none⟩)))).heap.size = w2.heap.size by simp [World.setCell]] at hq
  have HQ4 := Lib.hid hq
  clear H2 H3 hq
  have t1 : ((n : Int) - 12 != ((n - 12 : Nat) : Int)) = false := by rw [bne_eq_false_iff_eq]; omega
  go_wp2_with fail
  obtain ⟨X, hX⟩ : ∃ X : World, Hid (X = (w2.setCell ⟨g, 5, none⟩ (.iface 68 (.pointer (some ⟨w2.heap.size, 0, none⟩)))).alloc (.cells #[.int .u8 0, .int .u8 0, .slice none 0 0] 70)) := ⟨_, Lib.hid rfl⟩
  rw [← hX.out]
  rw [← hX.out] at H4
  have HQ := HQ4.out
  rw [← hX.out] at HQ
  have H5 := H4.drew
  have hlt12 : (12 : Int) ≤ n := by omega
  have k5' : X.cell? ⟨g, 5, none⟩ = _ := (bcell H4.blk 5).trans rfl
  have hmeth : ∀ (a : Addr) (W : World), (method 434 68 (.pointer (some a)) "Unmarshal").run Tryz.prog W = .ok (82, .pointer (some a)) W := fun a W => by kernel_rfl
  have hkk := HKK.out
  have hn := HN.out
  have HC := hvr_unm w2.heap.size b 12 k (c - 12) (fun j => d (12 + j)) X.drew HQ (fun j hj => H5.dat (12 + j) (by omega)) hkk hm (by show b ≠ _; omega) (by omega)
  rw [show 3 + k = n - 12 by omega] at HC
  have HH5 := Lib.hid H5
  clear H4 H5 hkk hn HQ4 HQ hX
  go_region_with (go_at_call 82; (refine (HC).mono ?_); rintro e w3 ⟨rfl, z, hz0, hz1, hz2, hz3⟩)
  all_goals
    rw [show (fun j => Value.int .u8 (d (12 + (3 + j))).toNat) = fun j => Value.int .u8 (d (15 + j)).toNat from funext fun j => by rw [show 12 + (3 + j) = 15 + j by omega]] at hz2
    have hz4 : w0.heap.size ≤ z := Nat.le_trans HH5.out.chg.size hz0
    have HF := Lib.hid (HH5.out.other hz3 hb2 (by omega) (by omega))
    have HZ1 := Lib.hid hz1
    have HZ2 := Lib.hid hz2
    clear hz0 hz1 hz2 hz3 HC c0 k4 k5 f5 k5' hmeth HH5
    go_wp2
    go_ret
    exact ⟨rfl, w2.heap.size, z, hb2, hz4, HF.out, HZ1.out, HZ2.out⟩
end Go.Proofs.YtkagkopjhgnnlaaGreatDoor
