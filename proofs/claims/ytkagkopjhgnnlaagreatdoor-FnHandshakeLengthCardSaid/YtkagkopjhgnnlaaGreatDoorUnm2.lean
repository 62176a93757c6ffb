/- handshake.Handshake.Unmarshal of a ServerHelloDone. -/
import Derived.Test.YtkagkopjhgnnlaaGreatDoorUnm
import Derived.Deep.QuietTactic
import Derived.BigQuiet
namespace Go.Proofs.YtkagkopjhgnnlaaGreatDoor
open Go.RowKit

theorem done_unm (a : Addr) (v : Value) (w : World) : Calls Tryz.prog 106 #[.pointer (some a), v] w fun e w' => e = .returned .nilIface ∧ w = w' := by
  go_enter Tryz.func106, Tryz.ntmps106
  go_wp2
  go_ret
  exact ⟨rfl, rfl⟩

set_option maxHeartbeats 1000000 in
set_option maxRecDepth 100000 in
theorem unm_done (g b c : Nat) (d : Nat → UInt8) (x0 x1 x2 x3 x4 x5 x6 : Value) (w0 w : World) (hc : 12 ≤ c) (H : Hs 50 g b 12 d w0 w #[x0, x1, x2, x3, x4, x5, x6])
    (hL : Lib.beNat [d 1, d 2, d 3] = 0) (hF : Lib.beNat [d 9, d 10, d 11] = 0) (hk : (d 0).toNat = 14) :
    Calls Tryz.prog 9 #[.pointer (some ⟨g, 0, none⟩), .slice (some ⟨b, 0, none⟩) 12 c] w fun e w' => e = .returned .nilIface ∧ ∃ q, Hs 50 g b 12 d w0 w' (hcells d (.iface 92 (.pointer (some q))) x6) := by
  have hc1 : ¬ c = 1 := by omega
  go_enter Tryz.func9, Tryz.ntmps9
  go_wp2_with fail
  refine (hdr g b 12 c d x0 x1 x2 x3 x4 x5 x6 w0 w (by omega) hc (by unfold maxLen; omega) H).mono ?_
  rintro e w1 ⟨rfl, H1⟩
  clear H
  go_wp2_with fail
  refine (u24 b 1 11 (c - 1) (d 1) (d 2) (d 3) _ (by omega) (by unfold maxLen; omega) (H1.dat 1 (by omega)) (H1.dat 2 (by omega)) (H1.dat 3 (by omega))).mono ?_
  rintro e w2 ⟨rfl, hb2⟩
  have H2 := H1.below hb2
  clear H1 hb2
  have c0 := H2.dat 0 (by omega)
  rw [hk] at c0
  have k4 := (bcell H2.blk 4).trans rfl
  have H3 := H2.below ((Below.refl _ _).alloc (Nat.le_refl _) (.cells #[] 94))
  have k5 := bcell H3.blk 5
  have f5 := bfrozen H3.blk 5
  have H4 := H3.set 5 (.iface 92 (.pointer (some ⟨w2.heap.size, 0, none⟩)))
  clear H2 H3
  go_wp2_with fail
  have k5' := (bcell H4.blk 5).trans rfl
  have hmeth : ∀ (a : Addr) (W : World), (method 434 92 (.pointer (some a)) "Unmarshal").run Tryz.prog W = .ok (106, .pointer (some a)) W := fun a W => by kernel_rfl
  by_cases hc12 : c = 12
  all_goals
    go_region_with (go_at_call 106; (refine (done_unm _ _ _).mono ?_); rintro e w3 ⟨rfl, rfl⟩)
    go_wp2
    go_ret
    exact ⟨rfl, _, H4.drew⟩
end Go.Proofs.YtkagkopjhgnnlaaGreatDoor
