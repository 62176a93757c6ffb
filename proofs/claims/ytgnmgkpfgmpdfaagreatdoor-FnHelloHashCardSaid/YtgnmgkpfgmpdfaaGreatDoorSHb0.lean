/- spec.helloTurn by the counts that the block uses. -/
import Derived.Test.YtgnmgkpfgmpdfaaGreatDoorSSum256
import Derived.Test.YtgnmgkpfgmpdfaaGreatDoorSSpC
import Derived.Test.YtgnmgkpfgmpdfaaGreatDoorSLate
import Derived.LoopTactic
import Derived.StillTailTactics
set_option linter.unusedVariables false
set_option linter.unusedSimpArgs false
section
namespace Go.Proofs.YtgnmgkpfgmpdfaaGreatDoor
open Go.RowKit

theorem or_comm32 (x y : Int) : bits .or .u32 x y = bits .or .u32 y x := by simp only [bits, BitVec.or_comm]
theorem turn2 (x : Int) (w : World) : Calls Tryz.prog 83 #[.int .u32 x, .int .i64 2] w fun e w' => e = .returned (.int .u32 (ror 1073741824 4 x)) ∧ Below w.heap.size w w' := by
  have hB1 := (Below.refl w.heap.size w).drew
  go_enter Tryz.func83, Tryz.ntmps83
  go_wp2_with fail
  refine wp_region_any (by kernel_rfl) ?_
  change wpAny _ _ _ _ _ _ _ w.drew
  generalize w.drew = w1 at hB1 ⊢
  refine wpAny_take1 (i := 0) (d := 5) (v := .int .u32 x) (fun _ _ _ _ _ h => h) (by kernel_rfl) (by kernel_rfl) (by kernel_rfl) (fun _ => by kernel_rfl) ?_
  refine wpAny_take1 (i := 1) (d := 6) (v := .int .i64 2) (fun _ _ _ _ _ h => h) (by kernel_rfl) (by kernel_rfl) (by kernel_rfl) (fun _ => by kernel_rfl) ?_
  refine wpAny_take1 (i := 2) (d := 7) (v := .int .u32 (Int.fdiv x 4)) (fun _ _ _ _ _ h => h) (by kernel_rfl) (by kernel_rfl) (by kernel_rfl) (fun _ => by kernel_rfl) ?_
  refine wpAny_take1 (i := 3) (d := 8) (v := .int .u32 x) (fun _ _ _ _ _ h => h) (by kernel_rfl) (by kernel_rfl) (by kernel_rfl) (fun _ => by kernel_rfl) ?_
  refine wpAny_take1 (i := 4) (d := 9) (v := .int .i64 2) (fun _ _ _ _ _ h => h) (by kernel_rfl) (by kernel_rfl) (by kernel_rfl) (fun _ => by kernel_rfl) ?_
  refine wpAny_tail 5 _ rfl rfl (by kernel_rfl) ?_
  simp only [Act.put, List.setIfInBounds_toArray, List.set_cons_zero, List.set_cons_succ, List.drop_succ_cons, List.drop_zero]
  go_wp2_with fail
  go_ret
  exact ⟨congrArg (fun z => Ending.returned (.int .u32 z)) ((congrArg (fun y => bits .or .u32 y (x * 1073741824 % 4294967296)) (Int.fdiv_eq_ediv_of_nonneg x (by decide : (0 : Int) ≤ 4))).trans (or_comm32 _ _)), hB1⟩
theorem turn6 (x : Int) (w : World) : Calls Tryz.prog 83 #[.int .u32 x, .int .i64 6] w fun e w' => e = .returned (.int .u32 (ror 67108864 64 x)) ∧ Below w.heap.size w w' := by
  have hB1 := (Below.refl w.heap.size w).drew
  go_enter Tryz.func83, Tryz.ntmps83
  go_wp2_with fail
  refine wp_region_any (by kernel_rfl) ?_
  change wpAny _ _ _ _ _ _ _ w.drew
  generalize w.drew = w1 at hB1 ⊢
  refine wpAny_take1 (i := 0) (d := 5) (v := .int .u32 x) (fun _ _ _ _ _ h => h) (by kernel_rfl) (by kernel_rfl) (by kernel_rfl) (fun _ => by kernel_rfl) ?_
  refine wpAny_take1 (i := 1) (d := 6) (v := .int .i64 6) (fun _ _ _ _ _ h => h) (by kernel_rfl) (by kernel_rfl) (by kernel_rfl) (fun _ => by kernel_rfl) ?_
  refine wpAny_take1 (i := 2) (d := 7) (v := .int .u32 (Int.fdiv x 64)) (fun _ _ _ _ _ h => h) (by kernel_rfl) (by kernel_rfl) (by kernel_rfl) (fun _ => by kernel_rfl) ?_
  refine wpAny_take1 (i := 3) (d := 8) (v := .int .u32 x) (fun _ _ _ _ _ h => h) (by kernel_rfl) (by kernel_rfl) (by kernel_rfl) (fun _ => by kernel_rfl) ?_
  refine wpAny_take1 (i := 4) (d := 9) (v := .int .i64 6) (fun _ _ _ _ _ h => h) (by kernel_rfl) (by kernel_rfl) (by kernel_rfl) (fun _ => by kernel_rfl) ?_
  refine wpAny_tail 5 _ rfl rfl (by kernel_rfl) ?_
  simp only [Act.put, List.setIfInBounds_toArray, List.set_cons_zero, List.set_cons_succ, List.drop_succ_cons, List.drop_zero]
  go_wp2_with fail
  go_ret
  exact ⟨congrArg (fun z => Ending.returned (.int .u32 z)) ((congrArg (fun y => bits .or .u32 y (x * 67108864 % 4294967296)) (Int.fdiv_eq_ediv_of_nonneg x (by decide : (0 : Int) ≤ 64))).trans (or_comm32 _ _)), hB1⟩
theorem turn7 (x : Int) (w : World) : Calls Tryz.prog 83 #[.int .u32 x, .int .i64 7] w fun e w' => e = .returned (.int .u32 (ror 33554432 128 x)) ∧ Below w.heap.size w w' := by
  have hB1 := (Below.refl w.heap.size w).drew
  go_enter Tryz.func83, Tryz.ntmps83
  go_wp2_with fail
  refine wp_region_any (by kernel_rfl) ?_
  change wpAny _ _ _ _ _ _ _ w.drew
  generalize w.drew = w1 at hB1 ⊢
  refine wpAny_take1 (i := 0) (d := 5) (v := .int .u32 x) (fun _ _ _ _ _ h => h) (by kernel_rfl) (by kernel_rfl) (by kernel_rfl) (fun _ => by kernel_rfl) ?_
  refine wpAny_take1 (i := 1) (d := 6) (v := .int .i64 7) (fun _ _ _ _ _ h => h) (by kernel_rfl) (by kernel_rfl) (by kernel_rfl) (fun _ => by kernel_rfl) ?_
  refine wpAny_take1 (i := 2) (d := 7) (v := .int .u32 (Int.fdiv x 128)) (fun _ _ _ _ _ h => h) (by kernel_rfl) (by kernel_rfl) (by kernel_rfl) (fun _ => by kernel_rfl) ?_
  refine wpAny_take1 (i := 3) (d := 8) (v := .int .u32 x) (fun _ _ _ _ _ h => h) (by kernel_rfl) (by kernel_rfl) (by kernel_rfl) (fun _ => by kernel_rfl) ?_
  refine wpAny_take1 (i := 4) (d := 9) (v := .int .i64 7) (fun _ _ _ _ _ h => h) (by kernel_rfl) (by kernel_rfl) (by kernel_rfl) (fun _ => by kernel_rfl) ?_
  refine wpAny_tail 5 _ rfl rfl (by kernel_rfl) ?_
  simp only [Act.put, List.setIfInBounds_toArray, List.set_cons_zero, List.set_cons_succ, List.drop_succ_cons, List.drop_zero]
  go_wp2_with fail
  go_ret
  exact ⟨congrArg (fun z => Ending.returned (.int .u32 z)) ((congrArg (fun y => bits .or .u32 y (x * 33554432 % 4294967296)) (Int.fdiv_eq_ediv_of_nonneg x (by decide : (0 : Int) ≤ 128))).trans (or_comm32 _ _)), hB1⟩
theorem turn11 (x : Int) (w : World) : Calls Tryz.prog 83 #[.int .u32 x, .int .i64 11] w fun e w' => e = .returned (.int .u32 (ror 2097152 2048 x)) ∧ Below w.heap.size w w' := by
  have hB1 := (Below.refl w.heap.size w).drew
  go_enter Tryz.func83, Tryz.ntmps83
  go_wp2_with fail
  refine wp_region_any (by kernel_rfl) ?_
  change wpAny _ _ _ _ _ _ _ w.drew
  generalize w.drew = w1 at hB1 ⊢
  refine wpAny_take1 (i := 0) (d := 5) (v := .int .u32 x) (fun _ _ _ _ _ h => h) (by kernel_rfl) (by kernel_rfl) (by kernel_rfl) (fun _ => by kernel_rfl) ?_
  refine wpAny_take1 (i := 1) (d := 6) (v := .int .i64 11) (fun _ _ _ _ _ h => h) (by kernel_rfl) (by kernel_rfl) (by kernel_rfl) (fun _ => by kernel_rfl) ?_
  refine wpAny_take1 (i := 2) (d := 7) (v := .int .u32 (Int.fdiv x 2048)) (fun _ _ _ _ _ h => h) (by kernel_rfl) (by kernel_rfl) (by kernel_rfl) (fun _ => by kernel_rfl) ?_
  refine wpAny_take1 (i := 3) (d := 8) (v := .int .u32 x) (fun _ _ _ _ _ h => h) (by kernel_rfl) (by kernel_rfl) (by kernel_rfl) (fun _ => by kernel_rfl) ?_
  refine wpAny_take1 (i := 4) (d := 9) (v := .int .i64 11) (fun _ _ _ _ _ h => h) (by kernel_rfl) (by kernel_rfl) (by kernel_rfl) (fun _ => by kernel_rfl) ?_
  refine wpAny_tail 5 _ rfl rfl (by kernel_rfl) ?_
  simp only [Act.put, List.setIfInBounds_toArray, List.set_cons_zero, List.set_cons_succ, List.drop_succ_cons, List.drop_zero]
  go_wp2_with fail
  go_ret
  exact ⟨congrArg (fun z => Ending.returned (.int .u32 z)) ((congrArg (fun y => bits .or .u32 y (x * 2097152 % 4294967296)) (Int.fdiv_eq_ediv_of_nonneg x (by decide : (0 : Int) ≤ 2048))).trans (or_comm32 _ _)), hB1⟩
theorem turn13 (x : Int) (w : World) : Calls Tryz.prog 83 #[.int .u32 x, .int .i64 13] w fun e w' => e = .returned (.int .u32 (ror 524288 8192 x)) ∧ Below w.heap.size w w' := by
  have hB1 := (Below.refl w.heap.size w).drew
  go_enter Tryz.func83, Tryz.ntmps83
  go_wp2_with fail
  refine wp_region_any (by kernel_rfl) ?_
  change wpAny _ _ _ _ _ _ _ w.drew
  generalize w.drew = w1 at hB1 ⊢
  refine wpAny_take1 (i := 0) (d := 5) (v := .int .u32 x) (fun _ _ _ _ _ h => h) (by kernel_rfl) (by kernel_rfl) (by kernel_rfl) (fun _ => by kernel_rfl) ?_
  refine wpAny_take1 (i := 1) (d := 6) (v := .int .i64 13) (fun _ _ _ _ _ h => h) (by kernel_rfl) (by kernel_rfl) (by kernel_rfl) (fun _ => by kernel_rfl) ?_
  refine wpAny_take1 (i := 2) (d := 7) (v := .int .u32 (Int.fdiv x 8192)) (fun _ _ _ _ _ h => h) (by kernel_rfl) (by kernel_rfl) (by kernel_rfl) (fun _ => by kernel_rfl) ?_
  refine wpAny_take1 (i := 3) (d := 8) (v := .int .u32 x) (fun _ _ _ _ _ h => h) (by kernel_rfl) (by kernel_rfl) (by kernel_rfl) (fun _ => by kernel_rfl) ?_
  refine wpAny_take1 (i := 4) (d := 9) (v := .int .i64 13) (fun _ _ _ _ _ h => h) (by kernel_rfl) (by kernel_rfl) (by kernel_rfl) (fun _ => by kernel_rfl) ?_
  refine wpAny_tail 5 _ rfl rfl (by kernel_rfl) ?_
  simp only [Act.put, List.setIfInBounds_toArray, List.set_cons_zero, List.set_cons_succ, List.drop_succ_cons, List.drop_zero]
  go_wp2_with fail
  go_ret
  exact ⟨congrArg (fun z => Ending.returned (.int .u32 z)) ((congrArg (fun y => bits .or .u32 y (x * 524288 % 4294967296)) (Int.fdiv_eq_ediv_of_nonneg x (by decide : (0 : Int) ≤ 8192))).trans (or_comm32 _ _)), hB1⟩
theorem turn17 (x : Int) (w : World) : Calls Tryz.prog 83 #[.int .u32 x, .int .i64 17] w fun e w' => e = .returned (.int .u32 (ror 32768 131072 x)) ∧ Below w.heap.size w w' := by
  have hB1 := (Below.refl w.heap.size w).drew
  go_enter Tryz.func83, Tryz.ntmps83
  go_wp2_with fail
  refine wp_region_any (by kernel_rfl) ?_
  change wpAny _ _ _ _ _ _ _ w.drew
  generalize w.drew = w1 at hB1 ⊢
  refine wpAny_take1 (i := 0) (d := 5) (v := .int .u32 x) (fun _ _ _ _ _ h => h) (by kernel_rfl) (by kernel_rfl) (by kernel_rfl) (fun _ => by kernel_rfl) ?_
  refine wpAny_take1 (i := 1) (d := 6) (v := .int .i64 17) (fun _ _ _ _ _ h => h) (by kernel_rfl) (by kernel_rfl) (by kernel_rfl) (fun _ => by kernel_rfl) ?_
  refine wpAny_take1 (i := 2) (d := 7) (v := .int .u32 (Int.fdiv x 131072)) (fun _ _ _ _ _ h => h) (by kernel_rfl) (by kernel_rfl) (by kernel_rfl) (fun _ => by kernel_rfl) ?_
  refine wpAny_take1 (i := 3) (d := 8) (v := .int .u32 x) (fun _ _ _ _ _ h => h) (by kernel_rfl) (by kernel_rfl) (by kernel_rfl) (fun _ => by kernel_rfl) ?_
  refine wpAny_take1 (i := 4) (d := 9) (v := .int .i64 17) (fun _ _ _ _ _ h => h) (by kernel_rfl) (by kernel_rfl) (by kernel_rfl) (fun _ => by kernel_rfl) ?_
  refine wpAny_tail 5 _ rfl rfl (by kernel_rfl) ?_
  simp only [Act.put, List.setIfInBounds_toArray, List.set_cons_zero, List.set_cons_succ, List.drop_succ_cons, List.drop_zero]
  go_wp2_with fail
  go_ret
  exact ⟨congrArg (fun z => Ending.returned (.int .u32 z)) ((congrArg (fun y => bits .or .u32 y (x * 32768 % 4294967296)) (Int.fdiv_eq_ediv_of_nonneg x (by decide : (0 : Int) ≤ 131072))).trans (or_comm32 _ _)), hB1⟩
theorem turn18 (x : Int) (w : World) : Calls Tryz.prog 83 #[.int .u32 x, .int .i64 18] w fun e w' => e = .returned (.int .u32 (ror 16384 262144 x)) ∧ Below w.heap.size w w' := by
  have hB1 := (Below.refl w.heap.size w).drew
  go_enter Tryz.func83, Tryz.ntmps83
  go_wp2_with fail
  refine wp_region_any (by kernel_rfl) ?_
  change wpAny _ _ _ _ _ _ _ w.drew
  generalize w.drew = w1 at hB1 ⊢
  refine wpAny_take1 (i := 0) (d := 5) (v := .int .u32 x) (fun _ _ _ _ _ h => h) (by kernel_rfl) (by kernel_rfl) (by kernel_rfl) (fun _ => by kernel_rfl) ?_
  refine wpAny_take1 (i := 1) (d := 6) (v := .int .i64 18) (fun _ _ _ _ _ h => h) (by kernel_rfl) (by kernel_rfl) (by kernel_rfl) (fun _ => by kernel_rfl) ?_
  refine wpAny_take1 (i := 2) (d := 7) (v := .int .u32 (Int.fdiv x 262144)) (fun _ _ _ _ _ h => h) (by kernel_rfl) (by kernel_rfl) (by kernel_rfl) (fun _ => by kernel_rfl) ?_
  refine wpAny_take1 (i := 3) (d := 8) (v := .int .u32 x) (fun _ _ _ _ _ h => h) (by kernel_rfl) (by kernel_rfl) (by kernel_rfl) (fun _ => by kernel_rfl) ?_
  refine wpAny_take1 (i := 4) (d := 9) (v := .int .i64 18) (fun _ _ _ _ _ h => h) (by kernel_rfl) (by kernel_rfl) (by kernel_rfl) (fun _ => by kernel_rfl) ?_
  refine wpAny_tail 5 _ rfl rfl (by kernel_rfl) ?_
  simp only [Act.put, List.setIfInBounds_toArray, List.set_cons_zero, List.set_cons_succ, List.drop_succ_cons, List.drop_zero]
  go_wp2_with fail
  go_ret
  exact ⟨congrArg (fun z => Ending.returned (.int .u32 z)) ((congrArg (fun y => bits .or .u32 y (x * 16384 % 4294967296)) (Int.fdiv_eq_ediv_of_nonneg x (by decide : (0 : Int) ≤ 262144))).trans (or_comm32 _ _)), hB1⟩
theorem turn19 (x : Int) (w : World) : Calls Tryz.prog 83 #[.int .u32 x, .int .i64 19] w fun e w' => e = .returned (.int .u32 (ror 8192 524288 x)) ∧ Below w.heap.size w w' := by
  have hB1 := (Below.refl w.heap.size w).drew
  go_enter Tryz.func83, Tryz.ntmps83
  go_wp2_with fail
  refine wp_region_any (by kernel_rfl) ?_
  change wpAny _ _ _ _ _ _ _ w.drew
  generalize w.drew = w1 at hB1 ⊢
  refine wpAny_take1 (i := 0) (d := 5) (v := .int .u32 x) (fun _ _ _ _ _ h => h) (by kernel_rfl) (by kernel_rfl) (by kernel_rfl) (fun _ => by kernel_rfl) ?_
  refine wpAny_take1 (i := 1) (d := 6) (v := .int .i64 19) (fun _ _ _ _ _ h => h) (by kernel_rfl) (by kernel_rfl) (by kernel_rfl) (fun _ => by kernel_rfl) ?_
  refine wpAny_take1 (i := 2) (d := 7) (v := .int .u32 (Int.fdiv x 524288)) (fun _ _ _ _ _ h => h) (by kernel_rfl) (by kernel_rfl) (by kernel_rfl) (fun _ => by kernel_rfl) ?_
  refine wpAny_take1 (i := 3) (d := 8) (v := .int .u32 x) (fun _ _ _ _ _ h => h) (by kernel_rfl) (by kernel_rfl) (by kernel_rfl) (fun _ => by kernel_rfl) ?_
  refine wpAny_take1 (i := 4) (d := 9) (v := .int .i64 19) (fun _ _ _ _ _ h => h) (by kernel_rfl) (by kernel_rfl) (by kernel_rfl) (fun _ => by kernel_rfl) ?_
  refine wpAny_tail 5 _ rfl rfl (by kernel_rfl) ?_
  simp only [Act.put, List.setIfInBounds_toArray, List.set_cons_zero, List.set_cons_succ, List.drop_succ_cons, List.drop_zero]
  go_wp2_with fail
  go_ret
  exact ⟨congrArg (fun z => Ending.returned (.int .u32 z)) ((congrArg (fun y => bits .or .u32 y (x * 8192 % 4294967296)) (Int.fdiv_eq_ediv_of_nonneg x (by decide : (0 : Int) ≤ 524288))).trans (or_comm32 _ _)), hB1⟩
theorem turn22 (x : Int) (w : World) : Calls Tryz.prog 83 #[.int .u32 x, .int .i64 22] w fun e w' => e = .returned (.int .u32 (ror 1024 4194304 x)) ∧ Below w.heap.size w w' := by
  have hB1 := (Below.refl w.heap.size w).drew
  go_enter Tryz.func83, Tryz.ntmps83
  go_wp2_with fail
  refine wp_region_any (by kernel_rfl) ?_
  change wpAny _ _ _ _ _ _ _ w.drew
  generalize w.drew = w1 at hB1 ⊢
  refine wpAny_take1 (i := 0) (d := 5) (v := .int .u32 x) (fun _ _ _ _ _ h => h) (by kernel_rfl) (by kernel_rfl) (by kernel_rfl) (fun _ => by kernel_rfl) ?_
  refine wpAny_take1 (i := 1) (d := 6) (v := .int .i64 22) (fun _ _ _ _ _ h => h) (by kernel_rfl) (by kernel_rfl) (by kernel_rfl) (fun _ => by kernel_rfl) ?_
  refine wpAny_take1 (i := 2) (d := 7) (v := .int .u32 (Int.fdiv x 4194304)) (fun _ _ _ _ _ h => h) (by kernel_rfl) (by kernel_rfl) (by kernel_rfl) (fun _ => by kernel_rfl) ?_
  refine wpAny_take1 (i := 3) (d := 8) (v := .int .u32 x) (fun _ _ _ _ _ h => h) (by kernel_rfl) (by kernel_rfl) (by kernel_rfl) (fun _ => by kernel_rfl) ?_
  refine wpAny_take1 (i := 4) (d := 9) (v := .int .i64 22) (fun _ _ _ _ _ h => h) (by kernel_rfl) (by kernel_rfl) (by kernel_rfl) (fun _ => by kernel_rfl) ?_
  refine wpAny_tail 5 _ rfl rfl (by kernel_rfl) ?_
  simp only [Act.put, List.setIfInBounds_toArray, List.set_cons_zero, List.set_cons_succ, List.drop_succ_cons, List.drop_zero]
  go_wp2_with fail
  go_ret
  exact ⟨congrArg (fun z => Ending.returned (.int .u32 z)) ((congrArg (fun y => bits .or .u32 y (x * 1024 % 4294967296)) (Int.fdiv_eq_ediv_of_nonneg x (by decide : (0 : Int) ≤ 4194304))).trans (or_comm32 _ _)), hB1⟩
theorem turn25 (x : Int) (w : World) : Calls Tryz.prog 83 #[.int .u32 x, .int .i64 25] w fun e w' => e = .returned (.int .u32 (ror 128 33554432 x)) ∧ Below w.heap.size w w' := by
  have hB1 := (Below.refl w.heap.size w).drew
  go_enter Tryz.func83, Tryz.ntmps83
  go_wp2_with fail
  refine wp_region_any (by kernel_rfl) ?_
  change wpAny _ _ _ _ _ _ _ w.drew
  generalize w.drew = w1 at hB1 ⊢
  refine wpAny_take1 (i := 0) (d := 5) (v := .int .u32 x) (fun _ _ _ _ _ h => h) (by kernel_rfl) (by kernel_rfl) (by kernel_rfl) (fun _ => by kernel_rfl) ?_
  refine wpAny_take1 (i := 1) (d := 6) (v := .int .i64 25) (fun _ _ _ _ _ h => h) (by kernel_rfl) (by kernel_rfl) (by kernel_rfl) (fun _ => by kernel_rfl) ?_
  refine wpAny_take1 (i := 2) (d := 7) (v := .int .u32 (Int.fdiv x 33554432)) (fun _ _ _ _ _ h => h) (by kernel_rfl) (by kernel_rfl) (by kernel_rfl) (fun _ => by kernel_rfl) ?_
  refine wpAny_take1 (i := 3) (d := 8) (v := .int .u32 x) (fun _ _ _ _ _ h => h) (by kernel_rfl) (by kernel_rfl) (by kernel_rfl) (fun _ => by kernel_rfl) ?_
  refine wpAny_take1 (i := 4) (d := 9) (v := .int .i64 25) (fun _ _ _ _ _ h => h) (by kernel_rfl) (by kernel_rfl) (by kernel_rfl) (fun _ => by kernel_rfl) ?_
  refine wpAny_tail 5 _ rfl rfl (by kernel_rfl) ?_
  simp only [Act.put, List.setIfInBounds_toArray, List.set_cons_zero, List.set_cons_succ, List.drop_succ_cons, List.drop_zero]
  go_wp2_with fail
  go_ret
  exact ⟨congrArg (fun z => Ending.returned (.int .u32 z)) ((congrArg (fun y => bits .or .u32 y (x * 128 % 4294967296)) (Int.fdiv_eq_ediv_of_nonneg x (by decide : (0 : Int) ≤ 33554432))).trans (or_comm32 _ _)), hB1⟩
end Go.Proofs.YtgnmgkpfgmpdfaaGreatDoor
end

/- spec.helloBlock: its loops' bodies, the frame told slot by slot, single operations. -/
section
namespace Go.Proofs.YtgnmgkpfgmpdfaaGreatDoor
open Go.RowKit

def loopsOf : Code → List Code
  | .loop c => [c]
  | .seq a b => loopsOf a ++ loopsOf b
  | .block _ c => loopsOf c
  | .scope c => loopsOf c
  | .cond _ a b => loopsOf a ++ loopsOf b
  | _ => []
/-- The loops' bodies. -/
noncomputable def hbBody (i : Nat) : Code := (((Tryz.f60.body.map loopsOf).getD []).getD i .skip)
set_option maxRecDepth 1000000 in
theorem frame252 (t : Array Value) (h : t.size = 252) : t = #[t.getD 0 undef, t.getD 1 undef, t.getD 2 undef, t.getD 3 undef, t.getD 4 undef, t.getD 5 undef, t.getD 6 undef, t.getD 7 undef, t.getD 8 undef, t.getD 9 undef, t.getD 10 undef, t.getD 11 undef, t.getD 12 undef, t.getD 13 undef, t.getD 14 undef, t.getD 15 undef, t.getD 16 undef, t.getD 17 undef, t.getD 18 undef, t.getD 19 undef, t.getD 20 undef, t.getD 21 undef, t.getD 22 undef, t.getD 23 undef, t.getD 24 undef, t.getD 25 undef, t.getD 26 undef, t.getD 27 undef, t.getD 28 undef, t.getD 29 undef, t.getD 30 undef, t.getD 31 undef, t.getD 32 undef, t.getD 33 undef, t.getD 34 undef, t.getD 35 undef, t.getD 36 undef, t.getD 37 undef, t.getD 38 undef, t.getD 39 undef, t.getD 40 undef, t.getD 41 undef, t.getD 42 undef, t.getD 43 undef, t.getD 44 undef, t.getD 45 undef, t.getD 46 undef, t.getD 47 undef, t.getD 48 undef, t.getD 49 undef, t.getD 50 undef, t.getD 51 undef, t.getD 52 undef, t.getD 53 undef, t.getD 54 undef, t.getD 55 undef, t.getD 56 undef, t.getD 57 undef, t.getD 58 undef, t.getD 59 undef, t.getD 60 undef, t.getD 61 undef, t.getD 62 undef, t.getD 63 undef, t.getD 64 undef, t.getD 65 undef, t.getD 66 undef, t.getD 67 undef, t.getD 68 undef, t.getD 69 undef, t.getD 70 undef, t.getD 71 undef, t.getD 72 undef, t.getD 73 undef, t.getD 74 undef, t.getD 75 undef, t.getD 76 undef, t.getD 77 undef, t.getD 78 undef, t.getD 79 undef, t.getD 80 undef, t.getD 81 undef, t.getD 82 undef, t.getD 83 undef, t.getD 84 undef, t.getD 85 undef, t.getD 86 undef, t.getD 87 undef, t.getD 88 undef, t.getD 89 undef, t.getD 90 undef, t.getD 91 undef, t.getD 92 undef, t.getD 93 undef, t.getD 94 undef, t.getD 95 undef, t.getD 96 undef, t.getD 97 undef, t.getD 98 undef, t.getD 99 undef, t.getD 100 undef, t.getD 101 undef, t.getD 102 undef, t.getD 103 undef, t.getD 104 undef, t.getD 105 undef, t.getD 106 undef, t.getD 107 undef, t.getD 108 undef, t.getD 109 undef, t.getD 110 undef, t.getD 111 undef, t.getD 112 undef, t.getD 113 undef, t.getD 114 undef, t.getD 115 undef, t.getD 116 undef, t.getD 117 undef, t.getD 118 undef, t.getD 119 undef, t.getD 120 undef, t.getD 121 undef, t.getD 122 undef, t.getD 123 undef, t.getD 124 undef, t.getD 125 undef, t.getD 126 undef, t.getD 127 undef, t.getD 128 undef, t.getD 129 undef, t.getD 130 undef, t.getD 131 undef, t.getD 132 undef, t.getD 133 undef, t.getD 134 undef, t.getD 135 undef, t.getD 136 undef, t.getD 137 undef, t.getD 138 undef, t.getD 139 undef, t.getD 140 undef, t.getD 141 undef, t.getD 142 undef, t.getD 143 undef, t.getD 144 undef, t.getD 145 undef, t.getD 146 undef, t.getD 147 undef, t.getD 148 undef, t.getD 149 undef, t.getD 150 undef, t.getD 151 undef, t.getD 152 undef, t.getD 153 undef, t.getD 154 undef, t.getD 155 undef, t.getD 156 undef, t.getD 157 undef, t.getD 158 undef, t.getD 159 undef, t.getD 160 undef, t.getD 161 undef, t.getD 162 undef, t.getD 163 undef, t.getD 164 undef, t.getD 165 undef, t.getD 166 undef, t.getD 167 undef, t.getD 168 undef, t.getD 169 undef, t.getD 170 undef, t.getD 171 undef, t.getD 172 undef, t.getD 173 undef, t.getD 174 undef, t.getD 175 undef, t.getD 176 undef, t.getD 177 undef, t.getD 178 undef, t.getD 179 undef, t.getD 180 undef, t.getD 181 undef, t.getD 182 undef, t.getD 183 undef, t.getD 184 undef, t.getD 185 undef, t.getD 186 undef, t.getD 187 undef, t.getD 188 undef, t.getD 189 undef, t.getD 190 undef, t.getD 191 undef, t.getD 192 undef, t.getD 193 undef, t.getD 194 undef, t.getD 195 undef, t.getD 196 undef, t.getD 197 undef, t.getD 198 undef, t.getD 199 undef, t.getD 200 undef, t.getD 201 undef, t.getD 202 undef, t.getD 203 undef, t.getD 204 undef, t.getD 205 undef, t.getD 206 undef, t.getD 207 undef, t.getD 208 undef, t.getD 209 undef, t.getD 210 undef, t.getD 211 undef, t.getD 212 undef, t.getD 213 undef, t.getD 214 undef, t.getD 215 undef, t.getD 216 undef, t.getD 217 undef, t.getD 218 undef, t.getD 219 undef, t.getD 220 undef, t.getD 221 undef, t.getD 222 undef, t.getD 223 undef, t.getD 224 undef, t.getD 225 undef, t.getD 226 undef, t.getD 227 undef, t.getD 228 undef, t.getD 229 undef, t.getD 230 undef, t.getD 231 undef, t.getD 232 undef, t.getD 233 undef, t.getD 234 undef, t.getD 235 undef, t.getD 236 undef, t.getD 237 undef, t.getD 238 undef, t.getD 239 undef, t.getD 240 undef, t.getD 241 undef, t.getD 242 undef, t.getD 243 undef, t.getD 244 undef, t.getD 245 undef, t.getD 246 undef, t.getD 247 undef, t.getD 248 undef, t.getD 249 undef, t.getD 250 undef, t.getD 251 undef] := (arr_of 252 t h).trans (by kernel_rfl)
/-- The frame in the first loop. -/
structure Hb1A (q : Nat) (s : ByteArray) (g k : Nat) (a : Act) : Prop where
  df : a.defers = []
  sz : a.tmps.size = 252
  e0 : a.tmps.getD 0 undef = .slice (some ⟨q, 0, none⟩) 8 8
  e1 : a.tmps.getD 1 undef = .string s
  e5 : a.tmps.getD 5 undef = .slice (some ⟨g, 0, none⟩) 64 64
  e6 : a.tmps.getD 6 undef = .int .i64 (k : Int)
set_option maxRecDepth 1000000 in
theorem Hb1A.elim {q : Nat} {s : ByteArray} {g k : Nat} {C : Act → Prop} (H : ∀ (u2 u3 u4 u7 u8 u9 u10 u11 u12 u13 u14 u15 u16 u17 u18 u19 u20 u21 u22 u23 u24 u25 u26 u27 u28 u29 u30 u31 u32 u33 u34 u35 u36 u37 u38 u39 u40 u41 u42 u43 u44 u45 u46 u47 u48 u49 u50 u51 u52 u53 u54 u55 u56 u57 u58 u59 u60 u61 u62 u63 u64 u65 u66 u67 u68 u69 u70 u71 u72 u73 u74 u75 u76 u77 u78 u79 u80 u81 u82 u83 u84 u85 u86 u87 u88 u89 u90 u91 u92 u93 u94 u95 u96 u97 u98 u99 u100 u101 u102 u103 u104 u105 u106 u107 u108 u109 u110 u111 u112 u113 u114 u115 u116 u117 u118 u119 u120 u121 u122 u123 u124 u125 u126 u127 u128 u129 u130 u131 u132 u133 u134 u135 u136 u137 u138 u139 u140 u141 u142 u143 u144 u145 u146 u147 u148 u149 u150 u151 u152 u153 u154 u155 u156 u157 u158 u159 u160 u161 u162 u163 u164 u165 u166 u167 u168 u169 u170 u171 u172 u173 u174 u175 u176 u177 u178 u179 u180 u181 u182 u183 u184 u185 u186 u187 u188 u189 u190 u191 u192 u193 u194 u195 u196 u197 u198 u199 u200 u201 u202 u203 u204 u205 u206 u207 u208 u209 u210 u211 u212 u213 u214 u215 u216 u217 u218 u219 u220 u221 u222 u223 u224 u225 u226 u227 u228 u229 u230 u231 u232 u233 u234 u235 u236 u237 u238 u239 u240 u241 u242 u243 u244 u245 u246 u247 u248 u249 u250 u251 : Value), C ⟨#[.slice (some ⟨q, 0, none⟩) 8 8, .string s, u2, u3, u4, .slice (some ⟨g, 0, none⟩) 64 64, .int .i64 (k : Int), u7, u8, u9, u10, u11, u12, u13, u14, u15, u16, u17, u18, u19, u20, u21, u22, u23, u24, u25, u26, u27, u28, u29, u30, u31, u32, u33, u34, u35, u36, u37, u38, u39, u40, u41, u42, u43, u44, u45, u46, u47, u48, u49, u50, u51, u52, u53, u54, u55, u56, u57, u58, u59, u60, u61, u62, u63, u64, u65, u66, u67, u68, u69, u70, u71, u72, u73, u74, u75, u76, u77, u78, u79, u80, u81, u82, u83, u84, u85, u86, u87, u88, u89, u90, u91, u92, u93, u94, u95, u96, u97, u98, u99, u100, u101, u102, u103, u104, u105, u106, u107, u108, u109, u110, u111, u112, u113, u114, u115, u116, u117, u118, u119, u120, u121, u122, u123, u124, u125, u126, u127, u128, u129, u130, u131, u132, u133, u134, u135, u136, u137, u138, u139, u140, u141, u142, u143, u144, u145, u146, u147, u148, u149, u150, u151, u152, u153, u154, u155, u156, u157, u158, u159, u160, u161, u162, u163, u164, u165, u166, u167, u168, u169, u170, u171, u172, u173, u174, u175, u176, u177, u178, u179, u180, u181, u182, u183, u184, u185, u186, u187, u188, u189, u190, u191, u192, u193, u194, u195, u196, u197, u198, u199, u200, u201, u202, u203, u204, u205, u206, u207, u208, u209, u210, u211, u212, u213, u214, u215, u216, u217, u218, u219, u220, u221, u222, u223, u224, u225, u226, u227, u228, u229, u230, u231, u232, u233, u234, u235, u236, u237, u238, u239, u240, u241, u242, u243, u244, u245, u246, u247, u248, u249, u250, u251], []⟩) {a : Act} (hA : Hb1A q s g k a) : C a := by
  obtain ⟨t, df⟩ := a
  obtain ⟨d, sz, e0, e1, e5, e6⟩ := hA
  simp only at d sz e0 e1 e5 e6
  subst d
  have e := frame252 t sz
  rw [e0, e1, e5, e6] at e
  rw [e]
  exact H _ _ _ _ _ _ _ _ _ _ _ _ _ _ _ _ _ _ _ _ _ _ _ _ _ _ _ _ _ _ _ _ _ _ _ _ _ _ _ _ _ _ _ _ _ _ _ _ _ _ _ _ _ _ _ _ _ _ _ _ _ _ _ _ _ _ _ _ _ _ _ _ _ _ _ _ _ _ _ _ _ _ _ _ _ _ _ _ _ _ _ _ _ _ _ _ _ _ _ _ _ _ _ _ _ _ _ _ _ _ _ _ _ _ _ _ _ _ _ _ _ _ _ _ _ _ _ _ _ _ _ _ _ _ _ _ _ _ _ _ _ _ _ _ _ _ _ _ _ _ _ _ _ _ _ _ _ _ _ _ _ _ _ _ _ _ _ _ _ _ _ _ _ _ _ _ _ _ _ _ _ _ _ _ _ _ _ _ _ _ _ _ _ _ _ _ _ _ _ _ _ _ _ _ _ _ _ _ _ _ _ _ _ _ _ _ _ _ _ _ _ _ _ _ _ _ _ _ _ _ _ _ _ _ _ _ _ _ _ _ _ _ _ _ _ _ _ _
/-- The frame in the second loop. -/
structure Hb2A (q g k : Nat) (a : Act) : Prop where
  df : a.defers = []
  sz : a.tmps.size = 252
  e0 : a.tmps.getD 0 undef = .slice (some ⟨q, 0, none⟩) 8 8
  e5 : a.tmps.getD 5 undef = .slice (some ⟨g, 0, none⟩) 64 64
  e7 : a.tmps.getD 7 undef = .int .i64 (k : Int)
set_option maxRecDepth 1000000 in
theorem Hb2A.elim {q g k : Nat} {C : Act → Prop} (H : ∀ (u1 u2 u3 u4 u6 u8 u9 u10 u11 u12 u13 u14 u15 u16 u17 u18 u19 u20 u21 u22 u23 u24 u25 u26 u27 u28 u29 u30 u31 u32 u33 u34 u35 u36 u37 u38 u39 u40 u41 u42 u43 u44 u45 u46 u47 u48 u49 u50 u51 u52 u53 u54 u55 u56 u57 u58 u59 u60 u61 u62 u63 u64 u65 u66 u67 u68 u69 u70 u71 u72 u73 u74 u75 u76 u77 u78 u79 u80 u81 u82 u83 u84 u85 u86 u87 u88 u89 u90 u91 u92 u93 u94 u95 u96 u97 u98 u99 u100 u101 u102 u103 u104 u105 u106 u107 u108 u109 u110 u111 u112 u113 u114 u115 u116 u117 u118 u119 u120 u121 u122 u123 u124 u125 u126 u127 u128 u129 u130 u131 u132 u133 u134 u135 u136 u137 u138 u139 u140 u141 u142 u143 u144 u145 u146 u147 u148 u149 u150 u151 u152 u153 u154 u155 u156 u157 u158 u159 u160 u161 u162 u163 u164 u165 u166 u167 u168 u169 u170 u171 u172 u173 u174 u175 u176 u177 u178 u179 u180 u181 u182 u183 u184 u185 u186 u187 u188 u189 u190 u191 u192 u193 u194 u195 u196 u197 u198 u199 u200 u201 u202 u203 u204 u205 u206 u207 u208 u209 u210 u211 u212 u213 u214 u215 u216 u217 u218 u219 u220 u221 u222 u223 u224 u225 u226 u227 u228 u229 u230 u231 u232 u233 u234 u235 u236 u237 u238 u239 u240 u241 u242 u243 u244 u245 u246 u247 u248 u249 u250 u251 : Value), C ⟨#[.slice (some ⟨q, 0, none⟩) 8 8, u1, u2, u3, u4, .slice (some ⟨g, 0, none⟩) 64 64, u6, .int .i64 (k : Int), u8, u9, u10, u11, u12, u13, u14, u15, u16, u17, u18, u19, u20, u21, u22, u23, u24, u25, u26, u27, u28, u29, u30, u31, u32, u33, u34, u35, u36, u37, u38, u39, u40, u41, u42, u43, u44, u45, u46, u47, u48, u49, u50, u51, u52, u53, u54, u55, u56, u57, u58, u59, u60, u61, u62, u63, u64, u65, u66, u67, u68, u69, u70, u71, u72, u73, u74, u75, u76, u77, u78, u79, u80, u81, u82, u83, u84, u85, u86, u87, u88, u89, u90, u91, u92, u93, u94, u95, u96, u97, u98, u99, u100, u101, u102, u103, u104, u105, u106, u107, u108, u109, u110, u111, u112, u113, u114, u115, u116, u117, u118, u119, u120, u121, u122, u123, u124, u125, u126, u127, u128, u129, u130, u131, u132, u133, u134, u135, u136, u137, u138, u139, u140, u141, u142, u143, u144, u145, u146, u147, u148, u149, u150, u151, u152, u153, u154, u155, u156, u157, u158, u159, u160, u161, u162, u163, u164, u165, u166, u167, u168, u169, u170, u171, u172, u173, u174, u175, u176, u177, u178, u179, u180, u181, u182, u183, u184, u185, u186, u187, u188, u189, u190, u191, u192, u193, u194, u195, u196, u197, u198, u199, u200, u201, u202, u203, u204, u205, u206, u207, u208, u209, u210, u211, u212, u213, u214, u215, u216, u217, u218, u219, u220, u221, u222, u223, u224, u225, u226, u227, u228, u229, u230, u231, u232, u233, u234, u235, u236, u237, u238, u239, u240, u241, u242, u243, u244, u245, u246, u247, u248, u249, u250, u251], []⟩) {a : Act} (hA : Hb2A q g k a) : C a := by
  obtain ⟨t, df⟩ := a
  obtain ⟨d, sz, e0, e5, e7⟩ := hA
  simp only at d sz e0 e5 e7
  subst d
  have e := frame252 t sz
  rw [e0, e5, e7] at e
  rw [e]
  exact H _ _ _ _ _ _ _ _ _ _ _ _ _ _ _ _ _ _ _ _ _ _ _ _ _ _ _ _ _ _ _ _ _ _ _ _ _ _ _ _ _ _ _ _ _ _ _ _ _ _ _ _ _ _ _ _ _ _ _ _ _ _ _ _ _ _ _ _ _ _ _ _ _ _ _ _ _ _ _ _ _ _ _ _ _ _ _ _ _ _ _ _ _ _ _ _ _ _ _ _ _ _ _ _ _ _ _ _ _ _ _ _ _ _ _ _ _ _ _ _ _ _ _ _ _ _ _ _ _ _ _ _ _ _ _ _ _ _ _ _ _ _ _ _ _ _ _ _ _ _ _ _ _ _ _ _ _ _ _ _ _ _ _ _ _ _ _ _ _ _ _ _ _ _ _ _ _ _ _ _ _ _ _ _ _ _ _ _ _ _ _ _ _ _ _ _ _ _ _ _ _ _ _ _ _ _ _ _ _ _ _ _ _ _ _ _ _ _ _ _ _ _ _ _ _ _ _ _ _ _ _ _ _ _ _ _ _ _ _ _ _ _ _ _ _ _ _ _ _
/-- The frame in the third loop. -/
structure Hb3A (q g kk k : Nat) (s : St8) (a : Act) : Prop where
  df : a.defers = []
  sz : a.tmps.size = 252
  e0 : a.tmps.getD 0 undef = .slice (some ⟨q, 0, none⟩) 8 8
  e5 : a.tmps.getD 5 undef = .slice (some ⟨g, 0, none⟩) 64 64
  e10 : a.tmps.getD 10 undef = .slice (some ⟨kk, 0, none⟩) 64 64
  e11 : a.tmps.getD 11 undef = .int .u32 s.a
  e12 : a.tmps.getD 12 undef = .int .u32 s.b
  e13 : a.tmps.getD 13 undef = .int .u32 s.c
  e14 : a.tmps.getD 14 undef = .int .u32 s.d
  e15 : a.tmps.getD 15 undef = .int .u32 s.e
  e16 : a.tmps.getD 16 undef = .int .u32 s.f
  e17 : a.tmps.getD 17 undef = .int .u32 s.g
  e18 : a.tmps.getD 18 undef = .int .u32 s.h
  e19 : a.tmps.getD 19 undef = .int .i64 (k : Int)
set_option maxRecDepth 1000000 in
theorem Hb3A.elim {q g kk k : Nat} {s : St8} {C : Act → Prop} (H : ∀ (u1 u2 u3 u4 u6 u7 u8 u9 u20 u21 u22 u23 u24 u25 u26 u27 u28 u29 u30 u31 u32 u33 u34 u35 u36 u37 u38 u39 u40 u41 u42 u43 u44 u45 u46 u47 u48 u49 u50 u51 u52 u53 u54 u55 u56 u57 u58 u59 u60 u61 u62 u63 u64 u65 u66 u67 u68 u69 u70 u71 u72 u73 u74 u75 u76 u77 u78 u79 u80 u81 u82 u83 u84 u85 u86 u87 u88 u89 u90 u91 u92 u93 u94 u95 u96 u97 u98 u99 u100 u101 u102 u103 u104 u105 u106 u107 u108 u109 u110 u111 u112 u113 u114 u115 u116 u117 u118 u119 u120 u121 u122 u123 u124 u125 u126 u127 u128 u129 u130 u131 u132 u133 u134 u135 u136 u137 u138 u139 u140 u141 u142 u143 u144 u145 u146 u147 u148 u149 u150 u151 u152 u153 u154 u155 u156 u157 u158 u159 u160 u161 u162 u163 u164 u165 u166 u167 u168 u169 u170 u171 u172 u173 u174 u175 u176 u177 u178 u179 u180 u181 u182 u183 u184 u185 u186 u187 u188 u189 u190 u191 u192 u193 u194 u195 u196 u197 u198 u199 u200 u201 u202 u203 u204 u205 u206 u207 u208 u209 u210 u211 u212 u213 u214 u215 u216 u217 u218 u219 u220 u221 u222 u223 u224 u225 u226 u227 u228 u229 u230 u231 u232 u233 u234 u235 u236 u237 u238 u239 u240 u241 u242 u243 u244 u245 u246 u247 u248 u249 u250 u251 : Value), C ⟨#[.slice (some ⟨q, 0, none⟩) 8 8, u1, u2, u3, u4, .slice (some ⟨g, 0, none⟩) 64 64, u6, u7, u8, u9, .slice (some ⟨kk, 0, none⟩) 64 64, .int .u32 s.a, .int .u32 s.b, .int .u32 s.c, .int .u32 s.d, .int .u32 s.e, .int .u32 s.f, .int .u32 s.g, .int .u32 s.h, .int .i64 (k : Int), u20, u21, u22, u23, u24, u25, u26, u27, u28, u29, u30, u31, u32, u33, u34, u35, u36, u37, u38, u39, u40, u41, u42, u43, u44, u45, u46, u47, u48, u49, u50, u51, u52, u53, u54, u55, u56, u57, u58, u59, u60, u61, u62, u63, u64, u65, u66, u67, u68, u69, u70, u71, u72, u73, u74, u75, u76, u77, u78, u79, u80, u81, u82, u83, u84, u85, u86, u87, u88, u89, u90, u91, u92, u93, u94, u95, u96, u97, u98, u99, u100, u101, u102, u103, u104, u105, u106, u107, u108, u109, u110, u111, u112, u113, u114, u115, u116, u117, u118, u119, u120, u121, u122, u123, u124, u125, u126, u127, u128, u129, u130, u131, u132, u133, u134, u135, u136, u137, u138, u139, u140, u141, u142, u143, u144, u145, u146, u147, u148, u149, u150, u151, u152, u153, u154, u155, u156, u157, u158, u159, u160, u161, u162, u163, u164, u165, u166, u167, u168, u169, u170, u171, u172, u173, u174, u175, u176, u177, u178, u179, u180, u181, u182, u183, u184, u185, u186, u187, u188, u189, u190, u191, u192, u193, u194, u195, u196, u197, u198, u199, u200, u201, u202, u203, u204, u205, u206, u207, u208, u209, u210, u211, u212, u213, u214, u215, u216, u217, u218, u219, u220, u221, u222, u223, u224, u225, u226, u227, u228, u229, u230, u231, u232, u233, u234, u235, u236, u237, u238, u239, u240, u241, u242, u243, u244, u245, u246, u247, u248, u249, u250, u251], []⟩) {a : Act} (hA : Hb3A q g kk k s a) : C a := by
  obtain ⟨t, df⟩ := a
  obtain ⟨d, sz, e0, e5, e10, e11, e12, e13, e14, e15, e16, e17, e18, e19⟩ := hA
  simp only at d sz e0 e5 e10 e11 e12 e13 e14 e15 e16 e17 e18 e19
  subst d
  have e := frame252 t sz
  rw [e0, e5, e10, e11, e12, e13, e14, e15, e16, e17, e18, e19] at e
  rw [e]
  exact H _ _ _ _ _ _ _ _ _ _ _ _ _ _ _ _ _ _ _ _ _ _ _ _ _ _ _ _ _ _ _ _ _ _ _ _ _ _ _ _ _ _ _ _ _ _ _ _ _ _ _ _ _ _ _ _ _ _ _ _ _ _ _ _ _ _ _ _ _ _ _ _ _ _ _ _ _ _ _ _ _ _ _ _ _ _ _ _ _ _ _ _ _ _ _ _ _ _ _ _ _ _ _ _ _ _ _ _ _ _ _ _ _ _ _ _ _ _ _ _ _ _ _ _ _ _ _ _ _ _ _ _ _ _ _ _ _ _ _ _ _ _ _ _ _ _ _ _ _ _ _ _ _ _ _ _ _ _ _ _ _ _ _ _ _ _ _ _ _ _ _ _ _ _ _ _ _ _ _ _ _ _ _ _ _ _ _ _ _ _ _ _ _ _ _ _ _ _ _ _ _ _ _ _ _ _ _ _ _ _ _ _ _ _ _ _ _ _ _ _ _ _ _ _ _ _ _ _ _ _ _ _ _ _ _ _ _ _ _ _

theorem idxh_run {a : Act} {t : TypeId} {x y : Operand} {v i u : Value} {d : Nat} {g : Option (Nat × Bool)} (ty : TypeId) (pos : String) (af : Array Edge) (hx : a.eval x = v) (hy : a.eval y = i) (w : World) (h : (Instr.indexAt t v i).run Tryz.prog w = .ok u w) :
    (execOp a.eval ⟨some d, .indexAddr t x y, ty, pos, af, g⟩).run Tryz.prog w = .ok (.value u) w := by
  unfold execOp
  simp only [hx, hy, Sem.run_bind, h, Result.andThen_ok, Sem.run_pure]
theorem ld22h (W : World) (p : Addr) (u : Value) (h : W.cell? p = some u) : (Instr.loadAt 22 (.pointer (some p))).run Tryz.prog W = .ok u W := by
  simp [go_sem, Instr.loadAt, Instr.sureAddr, loadVar, h]
theorem ix_run {a : Act} {t : TypeId} {x y : Operand} {v i u : Value} {d : Nat} {g : Option (Nat × Bool)} (ty : TypeId) (pos : String) (af : Array Edge) (hx : a.eval x = v) (hy : a.eval y = i) (w : World) (h : (Instr.index t v i).run Tryz.prog w = .ok u w) :
    (execOp a.eval ⟨some d, .index t x y, ty, pos, af, g⟩).run Tryz.prog w = .ok (.value u) w := by
  unfold execOp
  simp only [hx, hy, Sem.run_bind, h, Result.andThen_ok, Sem.run_pure]
theorem u9 : Tryz.prog.underlying 9 = some .string := by kernel_rfl
theorem strix (s : ByteArray) (i : Nat) (h : i < s.size) (w : World) : (Instr.index 9 (.string s) (.int .i64 (i : Int))).run Tryz.prog w = .ok (.int .u8 ((sby s i).toNat : Int)) w := by
  rw [run_index_string w 9 s .i64 (i : Int) u9, dif_pos (by omega)]
  have hl : i < s.data.toList.length := by rw [Array.length_toList]; exact h
  have e : sby s i = s[i]'h := by
    unfold sby
    rw [List.getD_eq_getElem?_getD, List.getElem?_eq_getElem hl]
    rfl
  simp only [Int.toNat_natCast]
  rw [e]
theorem idx106 {b n k : Nat} (c : Nat) (hk : k < n) (w : World) : (Instr.indexAt 106 (.slice (some ⟨b, 0, none⟩) n c) (.int .i64 (k : Int))).run Tryz.prog w = .ok (.pointer (some ⟨b, k, none⟩)) w := by
  simp [Instr.indexAt, go_sem, hk, addr_add]
theorem mul_run {a : Act} {x y : Operand} {m n r : Int} {d : Nat} {g : Option (Nat × Bool)} (ty : TypeId) (pos : String) (af : Array Edge) (hx : a.eval x = .int .i64 m) (hy : a.eval y = .int .i64 n) (h : IntKind.i64.wrap (m * n) = r) (w : World) :
    (execOp a.eval ⟨some d, .binOp .mul 3 x y 3, ty, pos, af, g⟩).run Tryz.prog w = .ok (.value (.int .i64 r)) w := by
  unfold execOp
  simp only [hx, hy]
  simp [go_sem, h]
theorem add_run {a : Act} {x y : Operand} {m n r : Int} {d : Nat} {g : Option (Nat × Bool)} (ty : TypeId) (pos : String) (af : Array Edge) (hx : a.eval x = .int .i64 m) (hy : a.eval y = .int .i64 n) (h : IntKind.i64.wrap (m + n) = r) (w : World) :
    (execOp a.eval ⟨some d, .binOp .add 3 x y 3, ty, pos, af, g⟩).run Tryz.prog w = .ok (.value (.int .i64 r)) w := by
  unfold execOp
  simp only [hx, hy]
  simp [go_sem, h]
theorem sub_run {a : Act} {x y : Operand} {m n r : Int} {d : Nat} {g : Option (Nat × Bool)} (ty : TypeId) (pos : String) (af : Array Edge) (hx : a.eval x = .int .i64 m) (hy : a.eval y = .int .i64 n) (h : IntKind.i64.wrap (m - n) = r) (w : World) :
    (execOp a.eval ⟨some d, .binOp .sub 3 x y 3, ty, pos, af, g⟩).run Tryz.prog w = .ok (.value (.int .i64 r)) w := by
  unfold execOp
  simp only [hx, hy]
  simp [go_sem, h]
theorem st_run0 {P : Program} {a : Act} {x y : Operand} {b o : Nat} {r : Value} {kd : IntKind} {n : Int} (hi : (P.info? 22).map (·.size) = some 1) (ty : TypeId) (pos : String) (af : Array Edge) (hx : a.eval x = .pointer (some ⟨b, o, none⟩)) (hy : a.eval y = .int kd n) {w : World} (hc : w.cell? ⟨b, o, none⟩ = some r) (hf : w.frozen? ⟨b, o, none⟩ = false) :
    (execOp a.eval ⟨none, .store 22 x y, ty, pos, af, none⟩).run P w = .ok .skip (w.setCell ⟨b, o, none⟩ (.int kd n)) := by
  unfold execOp
  cases hq : P.info? 22 with
  | none => simp [hq] at hi
  | some i =>
    have hs : i.size = 1 := by simpa [hq] using hi
    have hr : (Instr.storeAt 22 (.pointer (some ⟨b, o, none⟩)) (.int kd n)).run P w = .ok () (w.setCell ⟨b, o, none⟩ (.int kd n)) := by
      simp [Instr.storeAt, Instr.sureAddr, storeVar, sizeOf, typeInfo, hq, hs, Value.cells, storeCells, Addr.add, Sem.run, store, hc, hf]
    simp only [hx, hy, Sem.run_bind, hr, Result.andThen_ok, Sem.run_pure]
theorem st_run {a : Act} {x y : Operand} {b o : Nat} {r : Value} {kd : IntKind} {n : Int} (ty : TypeId) (pos : String) (af : Array Edge) (hx : a.eval x = .pointer (some ⟨b, o, none⟩)) (hy : a.eval y = .int kd n) {w : World} (hc : w.cell? ⟨b, o, none⟩ = some r) (hf : w.frozen? ⟨b, o, none⟩ = false) :
    (execOp a.eval ⟨none, .store 22 x y, ty, pos, af, none⟩).run Tryz.prog w = .ok .skip (w.setCell ⟨b, o, none⟩ (.int kd n)) := st_run0 size22 ty pos af hx hy hc hf
section
variable {P : Program} {md : Region.Mode} {ops : Array Oper} {Q : Exit → Act → World → Prop} {S : World → Prop} {n i d : Nat} {listed : Array Bool} {a : Act} {w w' : World}
/-- One operation that turns the world, the only one that may come up. -/
theorem wpAnyH_seq1 {op : Op} {v : Value} (hr : Region.ready md ops listed = [i]) (ho : (ops[i]?.map fun o => (o.guard, o.dst, o.op)) = some (none, some d, op)) (hrun : ∀ ty pos after, (execOp a.eval ⟨some d, op, ty, pos, after, none⟩).run P w = .ok (.value v) w') (hS : S w')
    (h : wpAnyH P md ops Q S n (listed.setIfInBounds i true) (a.put (some d) v) w') : wpAnyH P md ops Q S (n + 1) listed a w := by
  refine wpAnyH_all hr (by simp) fun k hk => ?_
  obtain rfl := List.mem_singleton.1 hk
  cases hq : ops[k]? with
  | none => simp [hq] at ho
  | some o =>
    obtain ⟨dst, op', ty, pos, after, guard⟩ := o
    simp only [hq, Option.map_some, Option.some.injEq, Prod.mk.injEq] at ho
    obtain ⟨rfl, rfl, rfl⟩ := ho
    unfold wpOp
    simp only [hq]
    rw [if_pos (by simp [Region.wanted])]
    refine .inl ?_
    unfold Oper.wp
    rw [hrun]
    exact ⟨hS, h⟩
end
/-- The words laid behind k rounds: the first k. -/
def hwC (m : Nat → Int) (k : Nat) : List Value := (List.range 64).map fun j => .int .u32 (if j < k then wd m j else 0)
theorem hwC_length (m : Nat → Int) (k : Nat) : (hwC m k).length = 64 := by simp [hwC]
theorem hwC_get (m : Nat → Int) (k j : Nat) (h : j < 64) : (hwC m k)[j]? = some (.int .u32 (if j < k then wd m j else 0)) := by simp [hwC, h]
theorem hwC_put (m : Nat → Int) (k : Nat) (hk : k < 64) : (hwC m k).set k (.int .u32 (wd m k)) = hwC m (k + 1) := by
  refine List.ext_getElem (by simp [hwC]) fun j h1 h2 => ?_
  rw [List.getElem_set]
  by_cases h : k = j
  · subst h
    simp [hwC]
  · rw [if_neg h]
    simp only [hwC, List.getElem_map, List.getElem_range]
    by_cases h3 : j < k
    · rw [if_pos h3, if_pos (by omega)]
    · rw [if_neg h3, if_neg (by omega)]
/-- The words' block behind k rounds. -/
structure HwM (w0 : World) (g : Nat) (m : Nat → Int) (k : Nat) (w : World) : Prop where
  blk : w.heap[g]? = some (.cells (hwC m k).toArray 22 (0, 0))
  low : Below g w0 w
theorem HwM.word {w0 w : World} {g k j : Nat} {m : Nat → Int} (h : HwM w0 g m k w) (hj : j < k) (hk : k ≤ 64) : w.cell? ⟨g, j, none⟩ = some (.int .u32 (wd m j)) := by
  rw [bcell h.blk, List.getElem?_toArray, hwC_get m k j (by omega), if_pos hj]
theorem HwM.any {w0 w : World} {g k j : Nat} {m : Nat → Int} (h : HwM w0 g m k w) (hj : j < 64) : ∃ r, w.cell? ⟨g, j, none⟩ = some r := by
  rw [bcell h.blk, List.getElem?_toArray, hwC_get m k j hj]
  exact ⟨_, rfl⟩
theorem HwM.free {w0 w : World} {g k : Nat} {m : Nat → Int} (h : HwM w0 g m k w) (j : Nat) : w.frozen? ⟨g, j, none⟩ = false := bfrozen h.blk j
theorem HwM.step {w0 w wx : World} {g k : Nat} {m : Nat → Int} (h : HwM w0 g m k w) (hk : k < 64) (hx : Below w.heap.size w wx) : HwM w0 g m (k + 1) (wx.setCell ⟨g, k, none⟩ (.int .u32 (wd m k))) := by
  have hb := bblk hx h.blk
  refine ⟨?_, ?_⟩
  · have h2 := bset hb k (.int .u32 (wd m k))
    rw [List.setIfInBounds_toArray, hwC_put m k hk] at h2
    exact h2
  · have hg : g ≤ w.heap.size := Nat.le_of_lt (blt h.blk)
    exact (h.low.trans (hx.mono hg)).setCell (p := ⟨g, k, none⟩) (Nat.le_refl _) _
end Go.Proofs.YtgnmgkpfgmpdfaaGreatDoor
end
