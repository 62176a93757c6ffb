/- laws.plainExt: what it says yes to is of a known type. -/
import Derived.Test.YtgnmgkpfgmpdfaaGreatDoorSPlB
import Derived.Test.YtgnmgkpfgmpdfaaGreatDoorSLds
set_option linter.unusedVariables false
set_option linter.unusedSimpArgs false
namespace Go.Proofs.YtgnmgkpfgmpdfaaGreatDoor
open Go.RowKit

/-- The types that the reference knows. -/
def Known (x : Int) : Prop := x ∈ ([0, 10, 11, 13, 50, 14, 16, 47, 23, 49, 42, 65281, 41, 43, 44, 45, 48, 51, 54] : List Int)
set_option maxHeartbeats 4000000 in
set_option maxRecDepth 100000 in
theorem plain_else (d : ED) (w : World) (h : ¬ Known d.x0) : Tell 29 #[.agg d.es] w (Known d.x0) := by
  obtain ⟨x, hx⟩ : ∃ x, d.x0 = x := ⟨_, rfl⟩
  rw [hx] at h ⊢
  have H0 := Lib.hid hx
  simp only [Known, List.mem_cons, List.not_mem_nil, or_false, not_or] at h
  obtain ⟨n0, n1, n2, n3, n4, n5, n6, n7, n8, n9, n10, n11, n12, n13, n14, n15, n16, n17, n18⟩ := h
  have hB1 : Below w.heap.size w (w.alloc (Obj.cells d.es 69)) := (Below.refl _ _).alloc (Nat.le_refl _) _
  unfold Tell
  clear hx
  go_enter Tryz.func29, Tryz.ntmps29
  go_upto_region 1 with fail
  change Code.wp _ _ _ _ (w.alloc (Obj.cells d.es 69))
  have hM1 := heap_alloc_new w (Obj.cells d.es 69)
  generalize w.alloc (Obj.cells d.es 69) = w1 at hB1 hM1 ⊢
  have k0 := (bcell hM1 0).trans (es0 d H0.out)
  have HB1 := Lib.hid hB1
  clear hB1 hM1
  go_wp2_with fail
  go_ret
  exact Told.no HB1.out
theorem Told.mp {B B' : Prop} {w w' : World} {e : Ending} (h : B → B') (ht : Told B w e w') : Told B' w e w' := by
  obtain ⟨b, h1, h2, h3⟩ := ht
  exact ⟨b, h1, fun hb => h (h2 hb), h3⟩
theorem plain_any (d : ED) (w : World) (hx : Ext w d) (hf : Fit d) : Tell 29 #[.agg d.es] w (Known d.x0) := by
  by_cases hk : Known d.x0
  · have hk2 := hk
    simp only [Known, List.mem_cons, List.not_mem_nil, or_false] at hk2
    rcases hk2 with h | h | h | h | h | h | h | h | h | h | h | h | h | h | h | h | h | h | h
    · exact Calls.mono (plain_0 d w hx hf h) fun _ _ ht => ht.mp fun _ => hk
    · exact Calls.mono (plain_10 d w hx hf h) fun _ _ ht => ht.mp fun _ => hk
    · exact Calls.mono (plain_11 d w hx hf h) fun _ _ ht => ht.mp fun _ => hk
    · exact Calls.mono (plain_13 d w hx hf h) fun _ _ ht => ht.mp fun _ => hk
    · exact Calls.mono (plain_50 d w hx hf h) fun _ _ ht => ht.mp fun _ => hk
    · exact Calls.mono (plain_14 d w hx hf h) fun _ _ ht => ht.mp fun _ => hk
    · exact Calls.mono (plain_16 d w hx hf h) fun _ _ ht => ht.mp fun _ => hk
    · exact Calls.mono (plain_47 d w hx hf h) fun _ _ ht => ht.mp fun _ => hk
    · exact Calls.mono (plain_23 d w hx hf h) fun _ _ ht => ht.mp fun _ => hk
    · exact Calls.mono (plain_49 d w hx hf h) fun _ _ ht => ht.mp fun _ => hk
    · exact Calls.mono (plain_42 d w hx hf h) fun _ _ ht => ht.mp fun _ => hk
    · exact Calls.mono (plain_65281 d w hx hf h) fun _ _ ht => ht.mp fun _ => hk
    · exact Calls.mono (plain_41 d w hx hf h) fun _ _ ht => ht.mp fun _ => hk
    · exact Calls.mono (plain_43 d w hx hf h) fun _ _ ht => ht.mp fun _ => hk
    · exact Calls.mono (plain_44 d w hx hf h) fun _ _ ht => ht.mp fun _ => hk
    · exact Calls.mono (plain_45 d w hx hf h) fun _ _ ht => ht.mp fun _ => hk
    · exact Calls.mono (plain_48 d w hx hf h) fun _ _ ht => ht.mp fun _ => hk
    · exact Calls.mono (plain_51 d w hx hf h) fun _ _ ht => ht.mp fun _ => hk
    · exact Calls.mono (plain_54 d w hx hf h) fun _ _ ht => ht.mp fun _ => hk
  · exact plain_else d w hk
end Go.Proofs.YtgnmgkpfgmpdfaaGreatDoor
