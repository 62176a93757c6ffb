/- What laws.FnHandshakeLength's walk rests on. -/
import Derived.Test.YtkagkopjhgnnlaaGreatDoorLenFacts
namespace Go.Proofs.YtkagkopjhgnnlaaGreatDoor
open Go.RowKit Go.Proofs.YtkagkopjhgnnlaaGreatDoorW.PrintWords Go.Proofs.YtkagkopjhgnnlaaGreatDoorW.PrintLast Go.Proofs.YtkagkopjhgnnlaaGreatDoorW.PrintMore Go.Proofs.YtkagkopjhgnnlaaGreatDoor.PFnHandshakeKind

/-- A header's cells. -/
abbrev hc5 (l s f : Int) : Array Value := #[.int .u8 3, .int .u32 l, .int .u16 s, .int .u32 0, .int .u32 f]
theorem hc5_one (l s f : Int) : (hc5 l s f).all (·.oneCell') = true := by kernel_rfl

/-- Two results that are laid into blocks of the call's own. -/
theorem laid2 {w w3 : World} {g : Nat} {R : Array Value} (H M : Array Value) (hb : Below w.heap.size w w3) (hg : w3.heap[g]? = some (.cells R 26 (0, 0))) :
    ∃ W1 W2 : World, Hid (W1 = ((w3.alloc (.cells hz 26)).alloc (.cells mz 36)).setRow w3.heap.size H) ∧ Hid (W2 = W1.setRow (w3.heap.size + 1) M) ∧
      Hid (((w3.alloc (.cells hz 26)).alloc (.cells mz 36)).heap[w3.heap.size]? = some (.cells hz 26 (0, 0))) ∧ Hid (W1.heap[w3.heap.size + 1]? = some (.cells mz 36 (0, 0))) ∧
      Hid (W2.heap[w3.heap.size + 1]? = some (.cells M 36 (0, 0))) ∧ Hid (W2.heap[g]? = some (.cells R 26 (0, 0))) ∧ Hid (Below w.heap.size w W2) ∧ Hid (Below w3.heap.size w3 W2) := by
  have hlt := blt hg
  have a0 : ((w3.alloc (.cells hz 26)).alloc (.cells mz 36)).heap[w3.heap.size]? = some (.cells hz 26 (0, 0)) := bblk ((Below.refl _ _).alloc (Nat.le_refl _) _) (heap_alloc_new _ _)
  have a1 : ((w3.alloc (.cells hz 26)).alloc (.cells mz 36)).heap[w3.heap.size + 1]? = some (.cells mz 36 (0, 0)) := by
    have h := heap_alloc_new (w3.alloc (.cells hz 26)) (.cells mz 36)
    rw [World.size_alloc] at h
    exact h
  have a2 : ((w3.alloc (.cells hz 26)).alloc (.cells mz 36)).heap[g]? = some (.cells R 26 (0, 0)) := bblk ((Below.refl _ _).alloc (Nat.le_refl _) _) (bblk ((Below.refl _ _).alloc (Nat.le_refl _) _) hg)
  have hb2 : Below w3.heap.size w3 ((w3.alloc (.cells hz 26)).alloc (.cells mz 36)) := ((Below.refl _ _).alloc (Nat.le_refl _) _).alloc (by simp) _
  have hb3 := below_setRow (below_setRow hb2 (Nat.le_refl _) H) (Nat.le_succ _) M
  have hle := hb.size
  generalize (w3.alloc (.cells hz 26)).alloc (.cells mz 36) = W0 at *
  have b1 := (setRow_other W0 w3.heap.size (w3.heap.size + 1) H (by omega)).trans a1
  have b2 := (setRow_other W0 w3.heap.size g H (by omega)).trans a2
  exact ⟨_, _, Lib.hid rfl, Lib.hid rfl, Lib.hid a0, Lib.hid b1, Lib.hid (setRow_heap _ _ _ _ _ _ b1), Lib.hid ((setRow_other _ _ _ _ (by omega)).trans b2), Lib.hid (hb.trans (hb3.mono hle)), Lib.hid hb3⟩

end Go.Proofs.YtkagkopjhgnnlaaGreatDoor
