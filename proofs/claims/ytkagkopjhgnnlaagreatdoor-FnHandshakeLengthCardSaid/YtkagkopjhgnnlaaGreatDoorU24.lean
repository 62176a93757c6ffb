/- util.BigEndianUint24 of a slice of at least three bytes: the number that they spell. -/
import Derived.Test.YtkagkopjhgnnlaaGreatDoorShelf
import Derived.WalkKit
import Derived.Outline
import Derived.Laws.CopyOwn
import Derived.Lib.Hide
namespace Go.Proofs.YtkagkopjhgnnlaaGreatDoor
open Go.RowKit

theorem setRow_alloc (w : World) (c c' : Array Value) (t : TypeId) : (w.alloc (.cells c t)).setRow w.heap.size c' = w.alloc (.cells c' t) := by
  have e : (w.heap.push (.cells c t)).modify w.heap.size (fun | .cells _ elem frozen => .cells c' elem frozen | o => o) = w.heap.push (.cells c' t) := by
    apply Array.ext
    · simp
    · intro i h1 h2
      rw [Array.getElem_modify, Array.getElem_push, Array.getElem_push]
      by_cases hi : w.heap.size = i
      · subst hi; simp
      · have hlt : i < w.heap.size := by simp at h2; omega
        simp [hi, hlt]
  unfold World.setRow
  show ({ w with heap := (w.heap.push (.cells c t)).modify w.heap.size _ } : World) = { w with heap := w.heap.push (.cells c' t) }
  rw [← e]
  congr 1

theorem copy3 (w : World) (b o n c : Nat) (b0 b1 b2 : UInt8) (hn : 3 ≤ n) (c0 : w.cell? ⟨b, o, none⟩ = some (.int .u8 b0.toNat)) (c1 : w.cell? ⟨b, o + 1, none⟩ = some (.int .u8 b1.toNat)) (c2 : w.cell? ⟨b, o + 2, none⟩ = some (.int .u8 b2.toNat)) :
    (Builtin.copy_ #[30, 30] 3 #[.slice (some ⟨w.heap.size, 1, none⟩) 3 3, .slice (some ⟨b, o, none⟩) n c]).run Tryz.prog (w.alloc (.cells #[.int .u8 0, .int .u8 0, .int .u8 0, .int .u8 0] 5)) =
      .ok (.int .i64 3) (w.alloc (.cells #[.int .u8 0, .int .u8 b0.toNat, .int .u8 b1.toNat, .int .u8 b2.toNat] 5)) := by
  have hb : ∀ a : Addr, ∀ v, w.cell? a = some v → (w.alloc (.cells #[.int .u8 0, .int .u8 0, .int .u8 0, .int .u8 0] 5)).cell? a = some v := fun a v h => by
    rw [World.cell?_alloc_lt]
    · exact h
    · exact World.block_lt_of_cell? w a h
  have h := run_copy_row (P := Tryz.prog) (w.alloc (.cells #[.int .u8 0, .int .u8 0, .int .u8 0, .int .u8 0] 5)) 30 30 3 5 w.heap.size 1 3 3 ⟨b, o, none⟩ n c
    #[.int .u8 0, .int .u8 0, .int .u8 0, .int .u8 0] 5 [.int .u8 b0.toNat, .int .u8 b1.toNat, .int .u8 b2.toNat] Tryz.underlying30 (by kernel_rfl) (heap_alloc_new _ _)
    (by show 3 = Nat.min n 3; exact (Nat.min_eq_right hn).symm) (fun j v hj => by
      match j, hj with
      | 0, hj => simp at hj; subst hj; exact hb _ _ (by simpa [Addr.add] using c0)
      | 1, hj => simp at hj; subst hj; exact hb _ _ (by simpa [Addr.add] using c1)
      | 2, hj => simp at hj; subst hj; exact hb _ _ (by simpa [Addr.add] using c2)
      | j + 3, hj => simp at hj) (by simp) (by intro v hv; simp at hv; rcases hv with rfl | rfl | rfl <;> rfl)
  rw [h, setRow_alloc]
  rfl

set_option maxHeartbeats 400000 in
set_option maxRecDepth 100000 in
theorem u24 (b o n c : Nat) (b0 b1 b2 : UInt8) (w : World) (hn : 3 ≤ n) (hm : n ≤ maxLen) (c0 : w.cell? ⟨b, o, none⟩ = some (.int .u8 b0.toNat)) (c1 : w.cell? ⟨b, o + 1, none⟩ = some (.int .u8 b1.toNat)) (c2 : w.cell? ⟨b, o + 2, none⟩ = some (.int .u8 b2.toNat)) :
    Calls Tryz.prog 13 #[.slice (some ⟨b, o, none⟩) n c] w fun e w' => e = .returned (.int .u32 (Lib.beNat [b0, b1, b2])) ∧ Below w.heap.size w w' := by
  unfold maxLen at hm
  have h3 : ((n : Int) < 3) = False := eq_false (by omega)
  have hcp := copy3 w b o n c b0 b1 b2 hn c0 c1 c2
  have hmk : ∀ W : World, (Instr.makeSlice 30 (.int .i64 4) (.int .i64 4)).run Tryz.prog W = .ok (.slice (some ⟨W.heap.size, 0, none⟩) 4 4) (W.alloc (.cells #[.int .u8 0, .int .u8 0, .int .u8 0, .int .u8 0] 5)) := fun _ => by kernel_rfl
  go_enter Tryz.func13, Tryz.ntmps13
  go_wp2_with (go_at_call 26; refine (Tryz.binary_BE_Uint32 w.heap.size 0 4 4 0 b0 b1 b2 _ (by omega) ?h0 ?h1 ?h2 ?h3).mono ?_)
  case h0 => rw [World.cell?_alloc_at _ _ _ _ rfl]; rfl
  case h1 => rw [World.cell?_alloc_at _ _ _ _ rfl]; rfl
  case h2 => rw [World.cell?_alloc_at _ _ _ _ rfl]; rfl
  case h3 => rw [World.cell?_alloc_at _ _ _ _ rfl]; rfl
  rintro e w' ⟨rfl, hb⟩
  go_wp2
  go_ret
  exact ⟨rfl, ((Below.refl _ _).alloc (Nat.le_refl _) _).trans (hb.mono (by simp))⟩
end Go.Proofs.YtkagkopjhgnnlaaGreatDoor
