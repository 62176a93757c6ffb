/- handshake.Header.Unmarshal of at least twelve bytes, the header lying at the begin of a Handshake of the call's own. -/
import Derived.Test.YtkagkopjhgnnlaaGreatDoorU24
import Derived.Test.YtkagkopjhgnnlaaGreatDoorChg
import Derived.Deep.RegionWith
import Derived.Deep.RegionHeld3
namespace Go.Proofs.YtkagkopjhgnnlaaGreatDoor
open Go.RowKit

/-- The bytes d 0, d 1, .. (n of them) lie in block b; the block g of type t holds cs; nothing else that was in w0 has changed. -/
structure Hs (t : TypeId) (g b n : Nat) (d : Nat → UInt8) (w0 w : World) (cs : Array Value) : Prop where
  blk : w.heap[g]? = some (.cells cs t (0, 0))
  dat : ∀ j, j < n → w.cell? ⟨b, j, none⟩ = some (.int .u8 ((d j).toNat : Int))
  ne : b ≠ g
  chg : Chg w0 w (fun k => k = g)
theorem Hs.below {t : TypeId} {g b n : Nat} {d : Nat → UInt8} {w0 w w1 : World} {cs : Array Value} (h : Hs t g b n d w0 w cs) (hb : Below w.heap.size w w1) : Hs t g b n d w0 w1 cs :=
  ⟨bblk hb h.blk, fun j hj => bcellv hb (h.dat j hj), h.ne, h.chg.below hb⟩
theorem Hs.set {t : TypeId} {g b n : Nat} {d : Nat → UInt8} {w0 w : World} {cs : Array Value} (h : Hs t g b n d w0 w cs) (i : Nat) (u : Value) : Hs t g b n d w0 (w.setCell ⟨g, i, none⟩ u) (cs.setIfInBounds i u) :=
  ⟨bset h.blk i u, fun j hj => by
    have := Below.heap_setCell w ⟨g, i, none⟩ u b h.ne
    have hd := h.dat j hj
    simp only [World.cell?] at hd ⊢
    rw [this]; exact hd, h.ne, h.chg.setCell (.inl rfl) u⟩
theorem Hs.drew {t : TypeId} {g b n : Nat} {d : Nat → UInt8} {w0 w : World} {cs : Array Value} (h : Hs t g b n d w0 w cs) : Hs t g b n d w0 w.drew cs := ⟨h.blk, h.dat, h.ne, h.chg.drew⟩

set_option maxHeartbeats 1000000 in
set_option maxRecDepth 100000 in
theorem hdr (g b n c : Nat) (d : Nat → UInt8) (x0 x1 x2 x3 x4 x5 x6 : Value) (w0 w : World) (hn : 12 ≤ n) (hc : n ≤ c) (hm : n ≤ maxLen) (H : Hs 50 g b n d w0 w #[x0, x1, x2, x3, x4, x5, x6]) :
    Calls Tryz.prog 12 #[.pointer (some ⟨g, 0, none⟩), .slice (some ⟨b, 0, none⟩) n c] w fun e w' => e = .returned .nilIface ∧
      Hs 50 g b n d w0 w' #[.int .u8 (d 0).toNat, .int .u32 (Lib.beNat [d 1, d 2, d 3]), .int .u16 (Lib.beNat [d 4, d 5]), .int .u32 (Lib.beNat [d 6, d 7, d 8]), .int .u32 (Lib.beNat [d 9, d 10, d 11]), x5, x6] := by
  have hM := hm
  unfold maxLen at hm
  have hm' : (n : Int) ≤ 9223372036854775807 := by omega
  have hc1 : ¬ c = 1 := by omega
  have hc4 : ¬ c = 4 := by omega
  have hc6 : ¬ c = 6 := by omega
  have hc9 : ¬ c = 9 := by omega
  have h12 : ((n : Int) < 12) = False := eq_false (by omega)
  have f0 := bfrozen H.blk 0
  have k0 := bcell H.blk 0
  have c0 := H.dat 0 (by omega)
  have hi0 : (0 : Int) < (n : Int) := by omega
  have H1 := H.set 0 (.int .u8 ((d 0).toNat : Int))
  clear H
  go_enter Tryz.func12, Tryz.ntmps12
  go_wp2_with fail
  refine (u24 b 1 (n - 1) (c - 1) (d 1) (d 2) (d 3) _ (by omega) (by omega) (H1.dat 1 (by omega)) (H1.dat 2 (by omega)) (H1.dat 3 (by omega))).mono ?_
  rintro e w1 ⟨rfl, hb1⟩
  have H2 := H1.below hb1
  clear H1 hb1 c0 k0 f0
  have f1 := bfrozen H2.blk 1
  have k1 := bcell H2.blk 1
  have H3 := H2.set 1 (.int .u32 (Lib.beNat [d 1, d 2, d 3]))
  clear H2
  go_wp2_with fail
  have H4 := H3.drew
  clear H3 k1 f1
  go_region_with (go_at_call 25; (refine (Tryz.binary_BE_Uint16 b 4 (n - 4) (c - 4) (d 4) (d 5) _ (by omega) (H4.dat 4 (by omega)) (H4.dat 5 (by omega))).mono ?_); rintro e w2 ⟨rfl, hb2⟩; have H5 := H4.below hb2; have k2 := bcell H5.blk 2; have f2 := bfrozen H5.blk 2)
  all_goals
    have H6 := H5.set 2 (.int .u16 (Lib.beNat [d 4, d 5]))
    clear H4 H5 k2 f2 hb2
    go_wp2_with fail
    refine (u24 b 6 (n - 6) (c - 6) (d 6) (d 7) (d 8) _ (by omega) (by omega) (H6.dat 6 (by omega)) (H6.dat 7 (by omega)) (H6.dat 8 (by omega))).mono ?_
    rintro e w3 ⟨rfl, hb3⟩
    have H7 := H6.below hb3
    clear H6 hb3
    have k3 := bcell H7.blk 3
    have f3 := bfrozen H7.blk 3
    have H8 := H7.set 3 (.int .u32 (Lib.beNat [d 6, d 7, d 8]))
    clear H7
    go_wp2_with fail
    refine (u24 b 9 (n - 9) (c - 9) (d 9) (d 10) (d 11) _ (by omega) (by omega) (H8.dat 9 (by omega)) (H8.dat 10 (by omega)) (H8.dat 11 (by omega))).mono ?_
    rintro e w4 ⟨rfl, hb4⟩
    have H9 := H8.below hb4
    clear H8 hb4 k3 f3
    have k4 := bcell H9.blk 4
    have f4 := bfrozen H9.blk 4
    have H10 := H9.set 4 (.int .u32 (Lib.beNat [d 9, d 10, d 11]))
    clear H9
    go_wp2
    go_ret
    exact ⟨rfl, H10⟩
end Go.Proofs.YtkagkopjhgnnlaaGreatDoor
