/- impl.HandshakeRead of bytes whose header tells another length than that of what follows: false, and nothing else. -/
import Derived.Test.YtkagkopjhgnnlaaGreatDoorRead1
namespace Go.Proofs.YtkagkopjhgnnlaaGreatDoor
open Go.RowKit

set_option maxHeartbeats 1000000 in
set_option maxRecDepth 100000 in
/-- A header with another length. -/
theorem unm_bad (g b n c : Nat) (d : Nat → UInt8) (x0 x1 x2 x3 x4 x5 x6 : Value) (tp : TypeId) (ep : Option Addr) (w0 w : World) (hn : 12 ≤ n) (hc : n ≤ c) (hm : n ≤ 1000000) (H : Hs 50 g b n d w0 w #[x0, x1, x2, x3, x4, x5, x6])
    (hE : w0.cell? ⟨0, 0, none⟩ = some (.iface tp (.pointer ep))) (hg0 : g ≠ 0) (hX : ¬ (Lib.beNat [d 1, d 2, d 3] = n - 12 ∧ Lib.beNat [d 9, d 10, d 11] = n - 12)) :
    Calls Tryz.prog 9 #[.pointer (some ⟨g, 0, none⟩), .slice (some ⟨b, 0, none⟩) n c] w fun e w' => e = .returned (.iface tp (.pointer ep)) ∧ Hs 50 g b n d w0 w' (hcells d x5 x6) := by
  have hm' : (n : Int) ≤ 1000000 := by omega
  have hc1 : ¬ c = 1 := by omega
  have hi0 : (0 : Int) < (n : Int) := by omega
  go_enter Tryz.func9, Tryz.ntmps9
  go_wp2_with fail
  refine (hdr g b n c d x0 x1 x2 x3 x4 x5 x6 w0 w hn hc (by unfold maxLen; omega) H).mono ?_
  rintro e w1 ⟨rfl, H1⟩
  clear H
  go_wp2_with fail
  refine (u24 b 1 (n - 1) (c - 1) (d 1) (d 2) (d 3) _ (by omega) (by unfold maxLen; omega) (H1.dat 1 (by omega)) (H1.dat 2 (by omega)) (H1.dat 3 (by omega))).mono ?_
  rintro e w2 ⟨rfl, hb2⟩
  have H2 := H1.below hb2
  clear H1 hb2
  have c0 := H2.dat 0 (by omega)
  have k4 := (bcell H2.blk 4).trans rfl
  have e1 := H2.chg.cell hE (fun h => hg0 h.symm)
  clear hE
  by_cases hL : Lib.beNat [d 1, d 2, d 3] = n - 12
  · have hF : Lib.beNat [d 9, d 10, d 11] ≠ n - 12 := fun h => hX ⟨hL, h⟩
    clear hX
    have t1 : ((n : Int) - 12 != ((n - 12 : Nat) : Int)) = false := by rw [bne_eq_false_iff_eq]; omega
    have t2 : (((n - 12 : Nat) : Int) != ((Lib.beNat [d 9, d 10, d 11] : Nat) : Int)) = true := by rw [bne_iff_ne]; omega
    go_wp2_with fail
    go_ret
    exact ⟨rfl, H2⟩
  · clear hX
    have t1 : ((n : Int) - 12 != ((Lib.beNat [d 1, d 2, d 3] : Nat) : Int)) = true := by rw [bne_iff_ne]; omega
    go_wp2_with fail
    go_ret
    exact ⟨rfl, H2⟩

set_option maxHeartbeats 1000000 in
set_option maxRecDepth 100000 in
theorem read_bad (s : ByteArray) (kx : Int) (tp : TypeId) (ep : Option Addr) (w : World) (hn : 12 ≤ s.size) (hm : s.size ≤ 1000000)
    (hE : w.cell? ⟨0, 0, none⟩ = some (.iface tp (.pointer ep))) (hX : ¬ (Lib.beNat [sb s 1, sb s 2, sb s 3] = s.size - 12 ∧ Lib.beNat [sb s 9, sb s 10, sb s 11] = s.size - 12)) :
    Calls Tryz.prog 7 #[.string s, .int .i64 kx] w fun e w' => e = .returned (.tuple #[.agg hz, .agg mz, .bool false]) ∧ Below w.heap.size w w' := by
  have hcv : ∀ W : World, (convert 9 30 (.string s)).run Tryz.prog W = .ok (.slice (some ⟨W.heap.size, 0, none⟩) s.size (grownCap W s.size 0 5)) (Lib.bytesWorld W 5 s) := fun W => Lib.run_convert_string_bytes W 9 30 5 s Tryz.underlying9 Tryz.underlying30 Tryz.underlying5
  have HX := Lib.hid hX
  clear hX
  go_enter Tryz.func7, Tryz.ntmps7
  go_wp2_with fail
  have hs0 := hs_start (W3 w kx) s _ _ (W3_g w kx)
  rw [W3_size] at hs0
  refine (unm_bad (w.heap.size + 1 + 1) (w.heap.size + 1 + 1 + 1) s.size _ (sb s) _ _ _ _ _ _ _ tp ep _ _ hn (grownCap_ge _ _ _ _) hm hs0 ?he (by omega) HX.out).mono ?_
  case he => exact (conv_chg _ _ (fun _ => False)).cell (bcellv (W3_below w kx) hE) (fun h => h)
  rintro e w1 ⟨rfl, H1⟩
  clear hs0 HX hE hcv
  have hh := (H1.chg.blk ((conv_chg _ s (fun _ => False)).blk (W3_h w kx) (fun h => h)) (fun h => by omega))
  have hm1 := (H1.chg.blk ((conv_chg _ s (fun _ => False)).blk (W3_m w kx) (fun h => h)) (fun h => by omega))
  go_wp2_with (first | (refine wpList_store_row (o := ⟨none, .store 26 (.tmp 4) (.tmp 16), _, _, _, _⟩) rfl 26 (.tmp 4) (.tmp 16) rfl w.heap.size hz rfl rfl 26 hz hh (by kernel_rfl) rfl hz_one ?_; rw [setRow_self _ _ _ _ _ hh]) | (refine wpList_store_row (o := ⟨none, .store 36 (.tmp 5) (.tmp 17), _, _, _, _⟩) rfl 36 (.tmp 5) (.tmp 17) rfl (w.heap.size + 1) mz rfl rfl 36 mz hm1 (by kernel_rfl) rfl mz_one ?_; rw [setRow_self _ _ _ _ _ hm1]))
  refine bodyPost_ret (results_cct rfl _ _ w.heap.size (w.heap.size + 1) 26 36 hz mz (0, 0) (0, 0) _ _ rfl hh Tryz.underlying26 rfl (by kernel_rfl) rfl hm1 Tryz.underlying36 rfl (by kernel_rfl)) rfl ?_
  exact ⟨rfl, ((W3_below w kx).trans ((conv_chg (W3 w kx) s (fun _ => False)).to_below (by rw [W3_size]; omega) (fun _ h => h.elim))).trans (H1.chg.to_below (by rw [Lib.bytesWorld_size, W3_size]; omega) (fun i h => by omega))⟩
end Go.Proofs.YtkagkopjhgnnlaaGreatDoor
