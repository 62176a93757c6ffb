-- spec.HandshakeHeaderWrite: printed by the kit's printer for laws.FnHandshakeKind, and mended by hand in six lines (the sums of lengths, laid out as the walk writes them).
import Derived.Test.YtkagkopjhgnnlaaGreatDoorPFnHandshakeKindx0
import Derived.Test.YtkagkopjhgnnlaaGreatDoorPFnHandshakeKindx1
namespace Go.Proofs.YtkagkopjhgnnlaaGreatDoor.PFnHandshakeKind
open Go.RowKit Go.Proofs.YtkagkopjhgnnlaaGreatDoorW.PrintWords Go.Proofs.YtkagkopjhgnnlaaGreatDoorW.PrintLast Go.Proofs.YtkagkopjhgnnlaaGreatDoorW.PrintMore
attribute [local go_sem] max2_int min2_int max_two min_two max_three min_three max_four min_four   -- for this text's walks alone
set_option linter.unusedVariables false
set_option linter.unusedSimpArgs false

/-! ### spec_HandshakeHeaderWrite: function 6 -/
def spec_HandshakeHeaderWrite.j0 : Nat → Bool → Int → Int → Int → Int → Int → Option (ByteArray × Bool)
  | 0, _, _, _, _, _, _ => none
  | k + 1, x16, x106000, x106001, x106002, x106003, x106004 => if x16 = true then (some ((⟨#[]⟩ : ByteArray), false)) else ((some (([x106000] : List Int) : List Int)).bind fun y106 => ((spec_recNum.f k (IntKind.u64.wrap (x106001)) 3).bind fun t109 => (if (strOfNums y106).size + t109.size ≤ 9223372036854775807 then ((spec_recNum.f k (IntKind.u64.wrap (x106002)) 2).bind fun t110 => (if ((strOfNums y106) ++ t109).size + t110.size ≤ 9223372036854775807 then ((spec_recNum.f k (IntKind.u64.wrap (x106003)) 3).bind fun t111 => (if (((strOfNums y106) ++ t109) ++ t110).size + t111.size ≤ 9223372036854775807 then ((spec_recNum.f k (IntKind.u64.wrap (x106004)) 3).bind fun t112 => (if ((((strOfNums y106) ++ t109) ++ t110) ++ t111).size + t112.size ≤ 9223372036854775807 then (some (((((strOfNums y106) ++ t109) ++ t110) ++ t111) ++ t112, true)) else (none))) else (none))) else (none))) else (none))))
def spec_HandshakeHeaderWrite.f (k : Nat) (a0_0 : Int) (a0_1 : Int) (a0_2 : Int) (a0_3 : Int) (a0_4 : Int) : Option (ByteArray × Bool) := if a0_1 ≥ 16777216 then (spec_HandshakeHeaderWrite.j0 k true a0_0 a0_1 a0_2 a0_3 a0_4) else (if a0_3 ≥ 16777216 then (spec_HandshakeHeaderWrite.j0 k true a0_0 a0_1 a0_2 a0_3 a0_4) else (spec_HandshakeHeaderWrite.j0 k (decide (a0_4 ≥ 16777216)) a0_0 a0_1 a0_2 a0_3 a0_4))
theorem spec_HandshakeHeaderWrite.mono_l : ∀ k, (∀ y0 y1 y2 y3 y4 y5, LeO (spec_HandshakeHeaderWrite.j0 k y0 y1 y2 y3 y4 y5) (spec_HandshakeHeaderWrite.j0 (k + 1) y0 y1 y2 y3 y4 y5))
  | 0 => fun _ _ _ _ _ _ r h => by simp [spec_HandshakeHeaderWrite.j0] at h
  | k + 1 => by
    have ih0 := spec_HandshakeHeaderWrite.mono_l k
    · intro y0 y1 y2 y3 y4 y5
      unfold spec_HandshakeHeaderWrite.j0
      repeat' first
      | (with_reducible exact ih0 _ _ _ _ _ _)
      | (with_reducible exact spec_recNum.mono _ _ _)
      | (with_reducible exact LeO.refl _)
      | (with_reducible exact LeO.none _)
      | (with_reducible refine LeO.ite ?_ ?_)
      | (with_reducible refine LeO.bind ?_ (fun _ => ?_))
      | exact ih0 _ _ _ _ _ _
      | exact spec_recNum.mono _ _ _
      | exact LeO.none _
      | refine LeO.ite ?_ ?_
      | refine LeO.bind ?_ (fun _ => ?_)
theorem spec_HandshakeHeaderWrite.mono : ∀ a0 a1 a2 a3 a4 k, LeO (spec_HandshakeHeaderWrite.f k a0 a1 a2 a3 a4) (spec_HandshakeHeaderWrite.f (k + 1) a0 a1 a2 a3 a4) := by
  intro a0 a1 a2 a3 a4 k
  have ih0 := spec_HandshakeHeaderWrite.mono_l k
  unfold spec_HandshakeHeaderWrite.f
  repeat' first
      | (with_reducible exact ih0 _ _ _ _ _ _)
      | (with_reducible exact spec_recNum.mono _ _ _)
      | (with_reducible exact LeO.refl _)
      | (with_reducible exact LeO.none _)
      | (with_reducible refine LeO.ite ?_ ?_)
      | (with_reducible refine LeO.bind ?_ (fun _ => ?_))
      | exact ih0 _ _ _ _ _ _
      | exact spec_recNum.mono _ _ _
      | exact LeO.none _
      | refine LeO.ite ?_ ?_
      | refine LeO.bind ?_ (fun _ => ?_)
def spec_HandshakeHeaderWrite.T3 : Bool × List (List Nat × List Nat) := (true, [([], []), ([0], [0]), ([1], [1]), ([2], [2]), ([], []), ([4], [4]), ([5], [5]), ([6], [6]), ([3, 7], [3, 7]), ([], []), ([9], [9]), ([10], [10]), ([11, 7], [11]), ([8, 12], [8, 12]), ([], []), ([14], [14]), ([15], [15]), ([16, 12], [16]), ([13, 17], [13, 17]), ([], []), ([19], [19]), ([20], [20]), ([21, 17], [21]), ([18, 22], [18, 22]), ([23, 22, 0, 1, 2, 3, 4, 5, 6, 7, 8, 9, 10, 11, 12, 13, 14, 15, 16, 17, 18, 19, 20, 21, 22, 23], [23]), ([24, 0, 1, 2, 3, 4, 5, 6, 7, 8, 9, 10, 11, 12, 13, 14, 15, 16, 17, 18, 19, 20, 21, 22, 23, 24], [])])
def spec_HandshakeHeaderWrite.B3 : List Nat := [0, 1, 3, 7, 0, 16, 48, 112, 255, 0, 512, 1536, 3824, 8191, 0, 16384, 49152, 122608, 262143, 0, 524288, 1572864, 3923696, 8388607, 16777215, 33554431]
theorem spec_HandshakeHeaderWrite.tab3 : rtab .any (opsOf Tryz.f6 3) = spec_HandshakeHeaderWrite.T3 := by kernel_rfl
theorem spec_HandshakeHeaderWrite.bits3 : waitsOk spec_HandshakeHeaderWrite.T3.2 spec_HandshakeHeaderWrite.B3 = true := by kernel_rfl
set_option maxHeartbeats 8000000 in
set_option maxRecDepth 100000 in
theorem spec_HandshakeHeaderWrite.calls (k : Nat) (a0_0 : Int) (a0_1 : Int) (a0_2 : Int) (a0_3 : Int) (a0_4 : Int) (r1 : ByteArray) (r2 : Bool) (w : World) (h : spec_HandshakeHeaderWrite.f k a0_0 a0_1 a0_2 a0_3 a0_4 = some (r1, r2)) :
    Calls Tryz.prog 6 #[.agg #[.int .u8 a0_0, .int .u32 a0_1, .int .u16 a0_2, .int .u32 a0_3, .int .u32 a0_4]] w fun e w' => e = .returned (.tuple #[.string r1, .bool r2]) ∧ Below w.heap.size w w' := by
  have hu26 := Tryz.underlying26
  have HB := Aside0.mk (Below.refl w.heap.size w)
  have H : (if a0_1 ≥ 16777216 then (spec_HandshakeHeaderWrite.j0 k true a0_0 a0_1 a0_2 a0_3 a0_4) else (if a0_3 ≥ 16777216 then (spec_HandshakeHeaderWrite.j0 k true a0_0 a0_1 a0_2 a0_3 a0_4) else (spec_HandshakeHeaderWrite.j0 k (decide (a0_4 ≥ 16777216)) a0_0 a0_1 a0_2 a0_3 a0_4))) = some (r1, r2) := h
  clear h
  have HC2 := Aside0.mk H
  clear H
  go_enter Tryz.func6, Tryz.ntmps6
  go_upto_region 1 with (first | ((with_reducible refine gate_dst (N := 1) rfl ?_); refine box_event ?hg (N := 1) ?hd (cs := #[.int .u8 a0_0, .int .u32 a0_1, .int .u16 a0_2, .int .u32 a0_3, .int .u32 a0_4]) (t := 26) ?hr ?_; (case hd => rfl); (case hg => rfl); (case hr => first | (go_simp; done) | (go_simp; rfl)); intro gb105 hg w3 hbox hb; have n0_ := Aside0.mk (below_step (by repeat (first | (with_reducible first | exact HB.out | apply below_alloc | apply pw_below_drewN | apply below_drew1) | exact HB.out)) hb); have n1_ := Aside0.mk (hbox); have n2_ := Aside0.mk ((by rw [hg]; exact (below_size (by repeat (first | (with_reducible first | exact HB.out | apply below_alloc | apply pw_below_drewN | apply below_drew1) | exact HB.out))) : w.heap.size ≤ gb105)); have n3_ := Aside0.mk ((by rw [hg]; exact (below_size (by repeat (first | (with_reducible first | exact HB.out | apply below_alloc | apply pw_below_drewN | apply below_drew1) | exact HB.out))) : w.heap.size ≤ gb105)); clear HB; have HB := n0_; have BK105 := n1_; have GW105 := n2_; have GE105 := n3_; clear n0_ n1_ n2_ n3_; clear hb hbox hg))
  (try simp only [Act.put, List.setIfInBounds_toArray, List.set_cons_zero, List.set_cons_succ])
  go_cut [16] (fun v16 wc => ∃ (kq : Nat) (x16_1 : Bool), v16 = .bool x16_1 ∧ Aside0 (spec_HandshakeHeaderWrite.j0 kq x16_1 a0_0 a0_1 a0_2 a0_3 a0_4 = some (r1, r2)) ∧ Aside0 (kq ≤ k) ∧ Aside0 (wc.heap[gb105]? = some (.cells #[.int .u8 a0_0, .int .u32 a0_1, .int .u16 a0_2, .int .u32 a0_3, .int .u32 a0_4] 26 (0, 0))) ∧ Aside0 (Below w.heap.size w wc))
  case first =>
    have H := HC2.out
    clear HC2
    by_cases c4 : a0_1 ≥ 16777216
    · rw [if_pos c4] at H
      have c4b0 : decide (16777216 ≤ a0_1) = true := decide_eq_true c4
      clear c4
      (first | rw [c4b0] | (simp only [i64_w, i32_w]; rw [c4b0]) | skip)
      have H' := Aside0.mk H
      clear H
      have hcz5_0 : w3.cell? ⟨gb105, 0, none⟩ = some (.int .u8 a0_0) := (blk_cell BK105.out 0).trans rfl
      have hcz5_1 : w3.cell? ⟨gb105, 1, none⟩ = some (.int .u32 a0_1) := (blk_cell BK105.out 1).trans rfl
      have hcz5_2 : w3.cell? ⟨gb105, 2, none⟩ = some (.int .u16 a0_2) := (blk_cell BK105.out 2).trans rfl
      have hcz5_3 : w3.cell? ⟨gb105, 3, none⟩ = some (.int .u32 a0_3) := (blk_cell BK105.out 3).trans rfl
      have hcz5_4 : w3.cell? ⟨gb105, 4, none⟩ = some (.int .u32 a0_4) := (blk_cell BK105.out 4).trans rfl
      have hfz5_0 := blk_frozen BK105.out 0
      have hfz5_1 := blk_frozen BK105.out 1
      have hfz5_2 := blk_frozen BK105.out 2
      have hfz5_3 := blk_frozen BK105.out 3
      have hfz5_4 := blk_frozen BK105.out 4
      go_wp2
      go_meet
      case rel => exact ⟨_, (true), (by first | rfl | (simp; done) | (simp [*]; done)), H', ⟨by first | omega | exact Nat.le_refl _⟩, ⟨by (with_reducible repeat (first | refine blk_drewN ?_ _ | refine blk_drew ?_ | refine blk_alloc ?_ _)); exact BK105.out⟩, ⟨by repeat (first | (with_reducible first | exact HB.out | apply below_alloc | apply pw_below_drewN | apply below_drew1 | refine below_set ?_ GE105.out) | exact HB.out)⟩⟩
    · rw [if_neg c4] at H
      have c4b0 : decide (16777216 ≤ a0_1) = false := decide_eq_false c4
      clear c4
      (first | rw [c4b0] | (simp only [i64_w, i32_w]; rw [c4b0]) | skip)
      by_cases c6 : a0_3 ≥ 16777216
      · rw [if_pos c6] at H
        have c6b0 : decide (16777216 ≤ a0_3) = true := decide_eq_true c6
        clear c6
        have H' := Aside0.mk H
        clear H
        have hcz7_0 : w3.cell? ⟨gb105, 0, none⟩ = some (.int .u8 a0_0) := (blk_cell BK105.out 0).trans rfl
        have hcz7_1 : w3.cell? ⟨gb105, 1, none⟩ = some (.int .u32 a0_1) := (blk_cell BK105.out 1).trans rfl
        have hcz7_2 : w3.cell? ⟨gb105, 2, none⟩ = some (.int .u16 a0_2) := (blk_cell BK105.out 2).trans rfl
        have hcz7_3 : w3.cell? ⟨gb105, 3, none⟩ = some (.int .u32 a0_3) := (blk_cell BK105.out 3).trans rfl
        have hcz7_4 : w3.cell? ⟨gb105, 4, none⟩ = some (.int .u32 a0_4) := (blk_cell BK105.out 4).trans rfl
        have hfz7_0 := blk_frozen BK105.out 0
        have hfz7_1 := blk_frozen BK105.out 1
        have hfz7_2 := blk_frozen BK105.out 2
        have hfz7_3 := blk_frozen BK105.out 3
        have hfz7_4 := blk_frozen BK105.out 4
        go_wp2
        go_meet
        case rel => exact ⟨_, (true), (by first | rfl | (simp; done) | (simp [*]; done)), H', ⟨by first | omega | exact Nat.le_refl _⟩, ⟨by (with_reducible repeat (first | refine blk_drewN ?_ _ | refine blk_drew ?_ | refine blk_alloc ?_ _)); exact BK105.out⟩, ⟨by repeat (first | (with_reducible first | exact HB.out | apply below_alloc | apply pw_below_drewN | apply below_drew1 | refine below_set ?_ GE105.out) | exact HB.out)⟩⟩
      · rw [if_neg c6] at H
        have c6b0 : decide (16777216 ≤ a0_3) = false := decide_eq_false c6
        clear c6
        have H' := Aside0.mk H
        clear H
        have hcz8_0 : w3.cell? ⟨gb105, 0, none⟩ = some (.int .u8 a0_0) := (blk_cell BK105.out 0).trans rfl
        have hcz8_1 : w3.cell? ⟨gb105, 1, none⟩ = some (.int .u32 a0_1) := (blk_cell BK105.out 1).trans rfl
        have hcz8_2 : w3.cell? ⟨gb105, 2, none⟩ = some (.int .u16 a0_2) := (blk_cell BK105.out 2).trans rfl
        have hcz8_3 : w3.cell? ⟨gb105, 3, none⟩ = some (.int .u32 a0_3) := (blk_cell BK105.out 3).trans rfl
        have hcz8_4 : w3.cell? ⟨gb105, 4, none⟩ = some (.int .u32 a0_4) := (blk_cell BK105.out 4).trans rfl
        have hfz8_0 := blk_frozen BK105.out 0
        have hfz8_1 := blk_frozen BK105.out 1
        have hfz8_2 := blk_frozen BK105.out 2
        have hfz8_3 := blk_frozen BK105.out 3
        have hfz8_4 := blk_frozen BK105.out 4
        go_wp2
        go_meet
        case rel => exact ⟨_, (decide (a0_4 ≥ 16777216)), (by first | rfl | (simp; done) | (simp [*]; done)), H', ⟨by first | omega | exact Nat.le_refl _⟩, ⟨by (with_reducible repeat (first | refine blk_drewN ?_ _ | refine blk_drew ?_ | refine blk_alloc ?_ _)); exact BK105.out⟩, ⟨by repeat (first | (with_reducible first | exact HB.out | apply below_alloc | apply pw_below_drewN | apply below_drew1 | refine below_set ?_ GE105.out) | exact HB.out)⟩⟩
  case rest =>
    clear HC2
    try clear p2
    try clear c4
    try clear c4b0
    try clear c6
    try clear c6b0
    try clear hcz5_0
    try clear hcz5_1
    try clear hcz5_2
    try clear hcz5_3
    try clear hcz5_4
    try clear hcz7_0
    try clear hcz7_1
    try clear hcz7_2
    try clear hcz7_3
    try clear hcz7_4
    try clear hcz8_0
    try clear hcz8_1
    try clear hcz8_2
    try clear hcz8_3
    try clear hcz8_4
    try clear hfz5_0
    try clear hfz5_1
    try clear hfz5_2
    try clear hfz5_3
    try clear hfz5_4
    try clear hfz7_0
    try clear hfz7_1
    try clear hfz7_2
    try clear hfz7_3
    try clear hfz7_4
    try clear hfz8_0
    try clear hfz8_1
    try clear hfz8_2
    try clear hfz8_3
    try clear hfz8_4
    obtain ⟨kq, x16_1, rfl, HA, HJ1, BK105, HB⟩ := hcut
    cases kq with
    | zero => exact absurd HA.out (by simp [spec_HandshakeHeaderWrite.j0])
    | succ kj1 =>
      have H := HA.out
      clear HA
      simp only [spec_HandshakeHeaderWrite.j0] at H
      by_cases c9 : x16_1 = true
      · subst c9
        have H1 : (some ((⟨#[]⟩ : ByteArray), false)) = some (r1, r2) := by rw [if_pos rfl] at H; exact H
        clear H
        have H := H1
        clear H1
        simp only [Option.some.injEq, Prod.mk.injEq] at H
        obtain ⟨rfl, rfl⟩ := H
        go_wp2
        go_ret2
        exact ⟨by first | rfl | (simp [errW_none, errW_some] <;> rfl) | (simp [*, errW_none, errW_some] <;> rfl), by repeat (first | (with_reducible first | exact HB.out | apply below_alloc | apply pw_below_drewN | apply below_drew1 | refine below_set ?_ GE105.out) | exact HB.out)⟩
      · replace c9 := Bool.eq_false_iff.mpr c9
        subst c9
        have H1 : ((some (([a0_0] : List Int) : List Int)).bind fun y106 => ((spec_recNum.f kj1 (IntKind.u64.wrap (a0_1)) 3).bind fun t109 => (if (strOfNums y106).size + t109.size ≤ 9223372036854775807 then ((spec_recNum.f kj1 (IntKind.u64.wrap (a0_2)) 2).bind fun t110 => (if ((strOfNums y106) ++ t109).size + t110.size ≤ 9223372036854775807 then ((spec_recNum.f kj1 (IntKind.u64.wrap (a0_3)) 3).bind fun t111 => (if (((strOfNums y106) ++ t109) ++ t110).size + t111.size ≤ 9223372036854775807 then ((spec_recNum.f kj1 (IntKind.u64.wrap (a0_4)) 3).bind fun t112 => (if ((((strOfNums y106) ++ t109) ++ t110) ++ t111).size + t112.size ≤ 9223372036854775807 then (some (((((strOfNums y106) ++ t109) ++ t110) ++ t111) ++ t112, true)) else (none))) else (none))) else (none))) else (none)))) = some (r1, r2) := by rw [if_neg (show ¬ (false = true) by decide)] at H; exact H
        clear H
        have H := H1
        clear H1
        obtain ⟨y106, hy106⟩ : ∃ y_ : List Int, y_ = (([a0_0] : List Int)) := ⟨_, rfl⟩
        replace H : ((spec_recNum.f kj1 (IntKind.u64.wrap (a0_1)) 3).bind fun t109 => (if (strOfNums y106).size + t109.size ≤ 9223372036854775807 then ((spec_recNum.f kj1 (IntKind.u64.wrap (a0_2)) 2).bind fun t110 => (if ((strOfNums y106) ++ t109).size + t110.size ≤ 9223372036854775807 then ((spec_recNum.f kj1 (IntKind.u64.wrap (a0_3)) 3).bind fun t111 => (if (((strOfNums y106) ++ t109) ++ t110).size + t111.size ≤ 9223372036854775807 then ((spec_recNum.f kj1 (IntKind.u64.wrap (a0_4)) 3).bind fun t112 => (if ((((strOfNums y106) ++ t109) ++ t110) ++ t111).size + t112.size ≤ 9223372036854775807 then (some (((((strOfNums y106) ++ t109) ++ t110) ++ t111) ++ t112, true)) else (none))) else (none))) else (none))) else (none))) = some (r1, r2) := by first | (rw [hy106]; with_reducible exact H) | (have H2_ := (Option.bind_some _ _).symm.trans H; rw [hy106]; with_reducible exact H2_) | (have H2_ := (Option.bind_some _ _).symm.trans H; with_reducible exact H2_) | with_reducible exact H | (rw [hy106]; exact H) | exact H
        have Ny106 := Aside0.mk hy106
        clear hy106
        replace H := Option.bind_eq_some_iff.mp H
        obtain ⟨t109, A100, H⟩ := H
        replace H : (if (strOfNums y106).size + t109.size ≤ 9223372036854775807 then ((spec_recNum.f kj1 (IntKind.u64.wrap (a0_2)) 2).bind fun t110 => (if ((strOfNums y106) ++ t109).size + t110.size ≤ 9223372036854775807 then ((spec_recNum.f kj1 (IntKind.u64.wrap (a0_3)) 3).bind fun t111 => (if (((strOfNums y106) ++ t109) ++ t110).size + t111.size ≤ 9223372036854775807 then ((spec_recNum.f kj1 (IntKind.u64.wrap (a0_4)) 3).bind fun t112 => (if ((((strOfNums y106) ++ t109) ++ t110) ++ t111).size + t112.size ≤ 9223372036854775807 then (some (((((strOfNums y106) ++ t109) ++ t110) ++ t111) ++ t112, true)) else (none))) else (none))) else (none))) else (none)) = some (r1, r2) := H
        have A10 := Aside0.mk A100
        clear A100
        by_cases c11 : (strOfNums y106).size + t109.size ≤ 9223372036854775807
        · rw [if_pos c11] at H
          have c11b0 := eq_true c11
          have c11b1 : decide ((strOfNums y106).size + t109.size ≤ 9223372036854775807) = true := decide_eq_true c11
          try have c11b2 : (9223372036854775807 < (strOfNums y106).size + t109.size) = False := eq_false (Nat.not_lt.2 c11)
          replace H := Option.bind_eq_some_iff.mp H
          obtain ⟨t110, A120, H⟩ := H
          replace H : (if ((strOfNums y106) ++ t109).size + t110.size ≤ 9223372036854775807 then ((spec_recNum.f kj1 (IntKind.u64.wrap (a0_3)) 3).bind fun t111 => (if (((strOfNums y106) ++ t109) ++ t110).size + t111.size ≤ 9223372036854775807 then ((spec_recNum.f kj1 (IntKind.u64.wrap (a0_4)) 3).bind fun t112 => (if ((((strOfNums y106) ++ t109) ++ t110) ++ t111).size + t112.size ≤ 9223372036854775807 then (some (((((strOfNums y106) ++ t109) ++ t110) ++ t111) ++ t112, true)) else (none))) else (none))) else (none)) = some (r1, r2) := H
          have A12 := Aside0.mk A120
          clear A120
          by_cases c13 : ((strOfNums y106) ++ t109).size + t110.size ≤ 9223372036854775807
          · rw [if_pos c13] at H
            have c13b0 := eq_true c13
            have c13b1 : decide (((strOfNums y106) ++ t109).size + t110.size ≤ 9223372036854775807) = true := decide_eq_true c13
            try have c13b2 : (9223372036854775807 < ((strOfNums y106) ++ t109).size + t110.size) = False := eq_false (Nat.not_lt.2 c13)
            have c13b3 : (9223372036854775807 < (strOfNums y106).size + t109.size + t110.size) = False := by simpa only [ByteArray.size_append] using c13b2
            have c13b4 : ((strOfNums y106).size + t109.size + t110.size ≤ 9223372036854775807) = True := by simpa only [ByteArray.size_append] using c13b0
            replace H := Option.bind_eq_some_iff.mp H
            obtain ⟨t111, A140, H⟩ := H
            replace H : (if (((strOfNums y106) ++ t109) ++ t110).size + t111.size ≤ 9223372036854775807 then ((spec_recNum.f kj1 (IntKind.u64.wrap (a0_4)) 3).bind fun t112 => (if ((((strOfNums y106) ++ t109) ++ t110) ++ t111).size + t112.size ≤ 9223372036854775807 then (some (((((strOfNums y106) ++ t109) ++ t110) ++ t111) ++ t112, true)) else (none))) else (none)) = some (r1, r2) := H
            have A14 := Aside0.mk A140
            clear A140
            by_cases c15 : (((strOfNums y106) ++ t109) ++ t110).size + t111.size ≤ 9223372036854775807
            · rw [if_pos c15] at H
              have c15b0 := eq_true c15
              have c15b1 : decide ((((strOfNums y106) ++ t109) ++ t110).size + t111.size ≤ 9223372036854775807) = true := decide_eq_true c15
              try have c15b2 : (9223372036854775807 < (((strOfNums y106) ++ t109) ++ t110).size + t111.size) = False := eq_false (Nat.not_lt.2 c15)
              have c15b3 : (9223372036854775807 < (strOfNums y106).size + t109.size + t110.size + t111.size) = False := by simpa only [ByteArray.size_append] using c15b2
              have c15b4 : ((strOfNums y106).size + t109.size + t110.size + t111.size ≤ 9223372036854775807) = True := by simpa only [ByteArray.size_append] using c15b0
              replace H := Option.bind_eq_some_iff.mp H
              obtain ⟨t112, A160, H⟩ := H
              replace H : (if ((((strOfNums y106) ++ t109) ++ t110) ++ t111).size + t112.size ≤ 9223372036854775807 then (some (((((strOfNums y106) ++ t109) ++ t110) ++ t111) ++ t112, true)) else (none)) = some (r1, r2) := H
              have A16 := Aside0.mk A160
              clear A160
              by_cases c17 : ((((strOfNums y106) ++ t109) ++ t110) ++ t111).size + t112.size ≤ 9223372036854775807
              · rw [if_pos c17] at H
                have c17b0 := eq_true c17
                have c17b1 : decide (((((strOfNums y106) ++ t109) ++ t110) ++ t111).size + t112.size ≤ 9223372036854775807) = true := decide_eq_true c17
                try have c17b2 : (9223372036854775807 < ((((strOfNums y106) ++ t109) ++ t110) ++ t111).size + t112.size) = False := eq_false (Nat.not_lt.2 c17)
                have c17b3 : (9223372036854775807 < (strOfNums y106).size + t109.size + t110.size + t111.size + t112.size) = False := by simpa only [ByteArray.size_append] using c17b2
                have c17b4 : ((strOfNums y106).size + t109.size + t110.size + t111.size + t112.size ≤ 9223372036854775807) = True := by simpa only [ByteArray.size_append] using c17b0
                simp only [Option.some.injEq, Prod.mk.injEq] at H
                obtain ⟨rfl, rfl⟩ := H
                try go_wp2
                have n0_ := Aside0.mk (blk_drew BK105.out)
                have n1_ := Aside0.mk (below_drew1 HB.out)
                clear BK105
                clear HB
                have BK105 := n0_
                have HB := n1_
                clear n0_ n1_
                refine start_ (n := 26) (S := fun w' => w'.cell? ⟨gb105, 0, none⟩ = some (.int .u8 a0_0) ∧ w'.cell? ⟨gb105, 1, none⟩ = some (.int .u32 a0_1) ∧ w'.cell? ⟨gb105, 2, none⟩ = some (.int .u16 a0_2) ∧ w'.cell? ⟨gb105, 3, none⟩ = some (.int .u32 a0_3) ∧ w'.cell? ⟨gb105, 4, none⟩ = some (.int .u32 a0_4)) (ds := []) #[false, false, false, false, false, false, false, false, false, false, false, false, false, false, false, false, false, false, false, false, false, false, false, false, false, false] (by kernel_rfl) rfl rfl ⟨(blk_cell BK105.out 0).trans rfl, (blk_cell BK105.out 1).trans rfl, (blk_cell BK105.out 2).trans rfl, (blk_cell BK105.out 3).trans rfl, (blk_cell BK105.out 4).trans rfl⟩ (fun hHeld => ?_); refine with_tabW spec_HandshakeHeaderWrite.tab3 spec_HandshakeHeaderWrite.bits3 (fun HT_ HW_ => ?_)
                generalize wc.drew = w18 at BK105 HB hHeld ⊢
                refine pure_ (i := 0) (N := some 17) (v := ?_) (a' := ?_) #[true, false, false, false, false, false, false, false, false, false, false, false, false, false, false, false, false, false, false, false, false, false, false, false, false, false] rfl rfl (any_of HT_.out (by kernel_rfl)) (fun _ _ _ h => h) (Or.inl ⟨by rfl, ?_⟩) ?_ ?_
                rotate_left
                · intro w'
                  go_simp
                  with_reducible rfl
                rotate_left
                · simp only [Act.put, List.setIfInBounds_toArray, List.set_cons_zero, List.set_cons_succ, i64_w, i32_w]
                  rfl
                refine pure_ (i := 4) (N := some 21) (v := ?_) (a' := ?_) #[true, false, false, false, true, false, false, false, false, false, false, false, false, false, false, false, false, false, false, false, false, false, false, false, false, false] rfl rfl (any_of HT_.out (by kernel_rfl)) (fun _ _ _ h => h) (Or.inl ⟨by rfl, ?_⟩) ?_ ?_
                rotate_left
                · intro w'
                  go_simp
                  with_reducible rfl
                rotate_left
                · simp only [Act.put, List.setIfInBounds_toArray, List.set_cons_zero, List.set_cons_succ, i64_w, i32_w]
                  rfl
                refine pure_ (i := 9) (N := some 26) (v := ?_) (a' := ?_) #[true, false, false, false, true, false, false, false, false, true, false, false, false, false, false, false, false, false, false, false, false, false, false, false, false, false] rfl rfl (any_of HT_.out (by kernel_rfl)) (fun _ _ _ h => h) (Or.inl ⟨by rfl, ?_⟩) ?_ ?_
                rotate_left
                · intro w'
                  go_simp
                  with_reducible rfl
                rotate_left
                · simp only [Act.put, List.setIfInBounds_toArray, List.set_cons_zero, List.set_cons_succ, i64_w, i32_w]
                  rfl
                refine pure_ (i := 14) (N := some 31) (v := ?_) (a' := ?_) #[true, false, false, false, true, false, false, false, false, true, false, false, false, false, true, false, false, false, false, false, false, false, false, false, false, false] rfl rfl (any_of HT_.out (by kernel_rfl)) (fun _ _ _ h => h) (Or.inl ⟨by rfl, ?_⟩) ?_ ?_
                rotate_left
                · intro w'
                  go_simp
                  with_reducible rfl
                rotate_left
                · simp only [Act.put, List.setIfInBounds_toArray, List.set_cons_zero, List.set_cons_succ, i64_w, i32_w]
                  rfl
                refine pure_ (i := 19) (N := some 36) (v := ?_) (a' := ?_) #[true, false, false, false, true, false, false, false, false, true, false, false, false, false, true, false, false, false, false, true, false, false, false, false, false, false] rfl rfl (any_of HT_.out (by kernel_rfl)) (fun _ _ _ h => h) (Or.inl ⟨by rfl, ?_⟩) ?_ ?_
                rotate_left
                · intro w'
                  go_simp
                  with_reducible rfl
                rotate_left
                · simp only [Act.put, List.setIfInBounds_toArray, List.set_cons_zero, List.set_cons_succ, i64_w, i32_w]
                  rfl
                refine take_ (i := 1) (N := some 18) (v := ?_) (a' := ?_) #[true, true, false, false, true, false, false, false, false, true, false, false, false, false, true, false, false, false, false, true, false, false, false, false, false, false] rfl rfl (take_ofW HT_.out HW_.out (by kernel_rfl)) (fun _ _ _ h => h) (Or.inl ⟨by rfl, ?_⟩) hHeld ?_ ?_
                rotate_left
                · rintro w' ⟨s0, s1, s2, s3, s4⟩
                  go_simp
                  with_reducible rfl
                rotate_left
                · simp only [Act.put, List.setIfInBounds_toArray, List.set_cons_zero, List.set_cons_succ, i64_w, i32_w]
                  rfl
                refine take_ (i := 5) (N := some 22) (v := ?_) (a' := ?_) #[true, true, false, false, true, true, false, false, false, true, false, false, false, false, true, false, false, false, false, true, false, false, false, false, false, false] rfl rfl (take_ofW HT_.out HW_.out (by kernel_rfl)) (fun _ _ _ h => h) (Or.inl ⟨by rfl, ?_⟩) hHeld ?_ ?_
                rotate_left
                · rintro w' ⟨s0, s1, s2, s3, s4⟩
                  go_simp
                  with_reducible rfl
                rotate_left
                · simp only [Act.put, List.setIfInBounds_toArray, List.set_cons_zero, List.set_cons_succ, i64_w, i32_w]
                  rfl
                refine pure_ (i := 6) (N := some 23) (v := ?_) (a' := ?_) #[true, true, false, false, true, true, true, false, false, true, false, false, false, false, true, false, false, false, false, true, false, false, false, false, false, false] rfl rfl (any_of HT_.out (by kernel_rfl)) (fun _ _ _ h => h) (Or.inl ⟨by rfl, ?_⟩) ?_ ?_
                rotate_left
                · intro w'
                  go_simp
                  with_reducible rfl
                rotate_left
                · simp only [Act.put, List.setIfInBounds_toArray, List.set_cons_zero, List.set_cons_succ, i64_w, i32_w]
                  rfl
                refine take_ (i := 10) (N := some 27) (v := ?_) (a' := ?_) #[true, true, false, false, true, true, true, false, false, true, true, false, false, false, true, false, false, false, false, true, false, false, false, false, false, false] rfl rfl (take_ofW HT_.out HW_.out (by kernel_rfl)) (fun _ _ _ h => h) (Or.inl ⟨by rfl, ?_⟩) hHeld ?_ ?_
                rotate_left
                · rintro w' ⟨s0, s1, s2, s3, s4⟩
                  go_simp
                  with_reducible rfl
                rotate_left
                · simp only [Act.put, List.setIfInBounds_toArray, List.set_cons_zero, List.set_cons_succ, i64_w, i32_w]
                  rfl
                refine pure_ (i := 11) (N := some 28) (v := ?_) (a' := ?_) #[true, true, false, false, true, true, true, false, false, true, true, true, false, false, true, false, false, false, false, true, false, false, false, false, false, false] rfl rfl (any_of HT_.out (by kernel_rfl)) (fun _ _ _ h => h) (Or.inl ⟨by rfl, ?_⟩) ?_ ?_
                rotate_left
                · intro w'
                  go_simp
                  with_reducible rfl
                rotate_left
                · simp only [Act.put, List.setIfInBounds_toArray, List.set_cons_zero, List.set_cons_succ, i64_w, i32_w]
                  rfl
                refine take_ (i := 15) (N := some 32) (v := ?_) (a' := ?_) #[true, true, false, false, true, true, true, false, false, true, true, true, false, false, true, true, false, false, false, true, false, false, false, false, false, false] rfl rfl (take_ofW HT_.out HW_.out (by kernel_rfl)) (fun _ _ _ h => h) (Or.inl ⟨by rfl, ?_⟩) hHeld ?_ ?_
                rotate_left
                · rintro w' ⟨s0, s1, s2, s3, s4⟩
                  go_simp
                  with_reducible rfl
                rotate_left
                · simp only [Act.put, List.setIfInBounds_toArray, List.set_cons_zero, List.set_cons_succ, i64_w, i32_w]
                  rfl
                refine pure_ (i := 16) (N := some 33) (v := ?_) (a' := ?_) #[true, true, false, false, true, true, true, false, false, true, true, true, false, false, true, true, true, false, false, true, false, false, false, false, false, false] rfl rfl (any_of HT_.out (by kernel_rfl)) (fun _ _ _ h => h) (Or.inl ⟨by rfl, ?_⟩) ?_ ?_
                rotate_left
                · intro w'
                  go_simp
                  with_reducible rfl
                rotate_left
                · simp only [Act.put, List.setIfInBounds_toArray, List.set_cons_zero, List.set_cons_succ, i64_w, i32_w]
                  rfl
                refine take_ (i := 20) (N := some 37) (v := ?_) (a' := ?_) #[true, true, false, false, true, true, true, false, false, true, true, true, false, false, true, true, true, false, false, true, true, false, false, false, false, false] rfl rfl (take_ofW HT_.out HW_.out (by kernel_rfl)) (fun _ _ _ h => h) (Or.inl ⟨by rfl, ?_⟩) hHeld ?_ ?_
                rotate_left
                · rintro w' ⟨s0, s1, s2, s3, s4⟩
                  go_simp
                  with_reducible rfl
                rotate_left
                · simp only [Act.put, List.setIfInBounds_toArray, List.set_cons_zero, List.set_cons_succ, i64_w, i32_w]
                  rfl
                refine pure_ (i := 21) (N := some 38) (v := ?_) (a' := ?_) #[true, true, false, false, true, true, true, false, false, true, true, true, false, false, true, true, true, false, false, true, true, true, false, false, false, false] rfl rfl (any_of HT_.out (by kernel_rfl)) (fun _ _ _ h => h) (Or.inl ⟨by rfl, ?_⟩) ?_ ?_
                rotate_left
                · intro w'
                  go_simp
                  with_reducible rfl
                rotate_left
                · simp only [Act.put, List.setIfInBounds_toArray, List.set_cons_zero, List.set_cons_succ, i64_w, i32_w]
                  rfl
                refine join_ (σ := Value) 3 #[true, true, true, true, true, true, true, true, true, true, true, true, true, true, true, true, true, true, true, true, true, true, true, false, false, false] (fun s_ => [(19, s_), (20, .string (strOfNums y106)), (24, .string t109), (29, .string t110), (34, .string t111), (39, .string t112), (25, .string ((strOfNums y106) ++ t109)), (30, .string (((strOfNums y106) ++ t109) ++ t110)), (35, .string ((((strOfNums y106) ++ t109) ++ t110) ++ t111))]) (fun s_ w' => (w'.cell? ⟨gb105, 0, none⟩ = some (.int .u8 a0_0) ∧ w'.cell? ⟨gb105, 1, none⟩ = some (.int .u32 a0_1) ∧ w'.cell? ⟨gb105, 2, none⟩ = some (.int .u16 a0_2) ∧ w'.cell? ⟨gb105, 3, none⟩ = some (.int .u32 a0_3) ∧ w'.cell? ⟨gb105, 4, none⟩ = some (.int .u32 a0_4)) ∧ (Kd.R (Kd.int .u8) 5 w' w.heap.size (fun _ => True) s_ y106) ∧ (w'.heap[gb105]? = some (.cells #[.int .u8 a0_0, .int .u32 a0_1, .int .u16 a0_2, .int .u32 a0_3, .int .u32 a0_4] 26 (0, 0))) ∧ (Below w.heap.size w w')) ?_ ?_
                rotate_left
                · intro hJ2_3_7_12_17_22
                  refine join_ (σ := Value) 4 #[true, true, true, true, true, true, true, true, true, true, true, true, true, true, true, true, true, true, true, true, true, true, false, false, false, false] (fun s_ => [(19, s_), (20, .string (strOfNums y106)), (24, .string t109), (29, .string t110), (34, .string t111), (25, .string ((strOfNums y106) ++ t109)), (30, .string (((strOfNums y106) ++ t109) ++ t110)), (35, .string ((((strOfNums y106) ++ t109) ++ t110) ++ t111))]) (fun s_ w' => (w'.cell? ⟨gb105, 0, none⟩ = some (.int .u8 a0_0) ∧ w'.cell? ⟨gb105, 1, none⟩ = some (.int .u32 a0_1) ∧ w'.cell? ⟨gb105, 2, none⟩ = some (.int .u16 a0_2) ∧ w'.cell? ⟨gb105, 3, none⟩ = some (.int .u32 a0_3) ∧ w'.cell? ⟨gb105, 4, none⟩ = some (.int .u32 a0_4)) ∧ (Kd.R (Kd.int .u8) 5 w' w.heap.size (fun _ => True) s_ y106) ∧ (w'.heap[gb105]? = some (.cells #[.int .u8 a0_0, .int .u32 a0_1, .int .u16 a0_2, .int .u32 a0_3, .int .u32 a0_4] 26 (0, 0))) ∧ (Below w.heap.size w w')) ?_ ?_
                  rotate_left
                  · intro hJ2_3_7_12_17
                    refine join_ (σ := Value) 7 #[true, true, true, false, true, true, true, true, false, true, true, true, true, false, true, true, true, true, false, true, true, true, true, false, false, false] (fun s_ => [(19, s_), (24, .string t109), (29, .string t110), (34, .string t111), (39, .string t112)]) (fun s_ w' => (w'.cell? ⟨gb105, 0, none⟩ = some (.int .u8 a0_0) ∧ w'.cell? ⟨gb105, 1, none⟩ = some (.int .u32 a0_1) ∧ w'.cell? ⟨gb105, 2, none⟩ = some (.int .u16 a0_2) ∧ w'.cell? ⟨gb105, 3, none⟩ = some (.int .u32 a0_3) ∧ w'.cell? ⟨gb105, 4, none⟩ = some (.int .u32 a0_4)) ∧ (Kd.R (Kd.int .u8) 5 w' w.heap.size (fun _ => True) s_ y106) ∧ (w'.heap[gb105]? = some (.cells #[.int .u8 a0_0, .int .u32 a0_1, .int .u16 a0_2, .int .u32 a0_3, .int .u32 a0_4] 26 (0, 0))) ∧ (Below w.heap.size w w')) ?_ ?_
                    rotate_left
                    · intro hJ2_7_12_17_22
                      refine join_ (σ := Value) 6 #[true, true, true, true, true, true, true, true, true, true, true, true, true, true, true, true, true, false, false, true, true, true, false, false, false, false] (fun s_ => [(19, s_), (20, .string (strOfNums y106)), (24, .string t109), (29, .string t110), (25, .string ((strOfNums y106) ++ t109)), (30, .string (((strOfNums y106) ++ t109) ++ t110))]) (fun s_ w' => (w'.cell? ⟨gb105, 0, none⟩ = some (.int .u8 a0_0) ∧ w'.cell? ⟨gb105, 1, none⟩ = some (.int .u32 a0_1) ∧ w'.cell? ⟨gb105, 2, none⟩ = some (.int .u16 a0_2) ∧ w'.cell? ⟨gb105, 3, none⟩ = some (.int .u32 a0_3) ∧ w'.cell? ⟨gb105, 4, none⟩ = some (.int .u32 a0_4)) ∧ (Kd.R (Kd.int .u8) 5 w' w.heap.size (fun _ => True) s_ y106) ∧ (w'.heap[gb105]? = some (.cells #[.int .u8 a0_0, .int .u32 a0_1, .int .u16 a0_2, .int .u32 a0_3, .int .u32 a0_4] 26 (0, 0))) ∧ (Below w.heap.size w w')) ?_ ?_
                      rotate_left
                      · intro hJ2_3_7_12
                        refine join_ (σ := Value) 8 #[true, true, true, false, true, true, true, true, false, true, true, true, true, false, true, true, true, true, false, true, true, true, false, false, false, false] (fun s_ => [(19, s_), (24, .string t109), (29, .string t110), (34, .string t111)]) (fun s_ w' => (w'.cell? ⟨gb105, 0, none⟩ = some (.int .u8 a0_0) ∧ w'.cell? ⟨gb105, 1, none⟩ = some (.int .u32 a0_1) ∧ w'.cell? ⟨gb105, 2, none⟩ = some (.int .u16 a0_2) ∧ w'.cell? ⟨gb105, 3, none⟩ = some (.int .u32 a0_3) ∧ w'.cell? ⟨gb105, 4, none⟩ = some (.int .u32 a0_4)) ∧ (Kd.R (Kd.int .u8) 5 w' w.heap.size (fun _ => True) s_ y106) ∧ (w'.heap[gb105]? = some (.cells #[.int .u8 a0_0, .int .u32 a0_1, .int .u16 a0_2, .int .u32 a0_3, .int .u32 a0_4] 26 (0, 0))) ∧ (Below w.heap.size w w')) ?_ ?_
                        rotate_left
                        · intro hJ2_7_12_17
                          refine join_ (σ := Unit) 8 #[true, true, false, false, true, true, true, true, false, true, true, true, true, false, true, true, true, true, false, true, true, true, true, false, false, false] (fun s_ => [(24, .string t109), (29, .string t110), (34, .string t111), (39, .string t112)]) (fun s_ w' => (w'.cell? ⟨gb105, 0, none⟩ = some (.int .u8 a0_0) ∧ w'.cell? ⟨gb105, 1, none⟩ = some (.int .u32 a0_1) ∧ w'.cell? ⟨gb105, 2, none⟩ = some (.int .u16 a0_2) ∧ w'.cell? ⟨gb105, 3, none⟩ = some (.int .u32 a0_3) ∧ w'.cell? ⟨gb105, 4, none⟩ = some (.int .u32 a0_4)) ∧ (w'.heap[gb105]? = some (.cells #[.int .u8 a0_0, .int .u32 a0_1, .int .u16 a0_2, .int .u32 a0_3, .int .u32 a0_4] 26 (0, 0))) ∧ (Below w.heap.size w w')) ?_ ?_
                          rotate_left
                          · intro hJ7_12_17_22
                            refine join_ (σ := Value) 8 #[true, true, true, true, true, true, true, true, true, true, true, true, false, false, true, true, true, false, false, true, true, true, false, false, false, false] (fun s_ => [(19, s_), (20, .string (strOfNums y106)), (24, .string t109), (25, .string ((strOfNums y106) ++ t109))]) (fun s_ w' => (w'.cell? ⟨gb105, 0, none⟩ = some (.int .u8 a0_0) ∧ w'.cell? ⟨gb105, 1, none⟩ = some (.int .u32 a0_1) ∧ w'.cell? ⟨gb105, 2, none⟩ = some (.int .u16 a0_2) ∧ w'.cell? ⟨gb105, 3, none⟩ = some (.int .u32 a0_3) ∧ w'.cell? ⟨gb105, 4, none⟩ = some (.int .u32 a0_4)) ∧ (Kd.R (Kd.int .u8) 5 w' w.heap.size (fun _ => True) s_ y106) ∧ (w'.heap[gb105]? = some (.cells #[.int .u8 a0_0, .int .u32 a0_1, .int .u16 a0_2, .int .u32 a0_3, .int .u32 a0_4] 26 (0, 0))) ∧ (Below w.heap.size w w')) ?_ ?_
                            rotate_left
                            · intro hJ2_3_7
                              refine join_ (σ := Value) 9 #[true, true, true, false, true, true, true, true, false, true, true, true, true, false, true, true, true, false, false, true, true, true, false, false, false, false] (fun s_ => [(19, s_), (24, .string t109), (29, .string t110)]) (fun s_ w' => (w'.cell? ⟨gb105, 0, none⟩ = some (.int .u8 a0_0) ∧ w'.cell? ⟨gb105, 1, none⟩ = some (.int .u32 a0_1) ∧ w'.cell? ⟨gb105, 2, none⟩ = some (.int .u16 a0_2) ∧ w'.cell? ⟨gb105, 3, none⟩ = some (.int .u32 a0_3) ∧ w'.cell? ⟨gb105, 4, none⟩ = some (.int .u32 a0_4)) ∧ (Kd.R (Kd.int .u8) 5 w' w.heap.size (fun _ => True) s_ y106) ∧ (w'.heap[gb105]? = some (.cells #[.int .u8 a0_0, .int .u32 a0_1, .int .u16 a0_2, .int .u32 a0_3, .int .u32 a0_4] 26 (0, 0))) ∧ (Below w.heap.size w w')) ?_ ?_
                              rotate_left
                              · intro hJ2_7_12
                                refine join_ (σ := Unit) 9 #[true, true, false, false, true, true, true, true, false, true, true, true, true, false, true, true, true, true, false, true, true, true, false, false, false, false] (fun s_ => [(24, .string t109), (29, .string t110), (34, .string t111)]) (fun s_ w' => (w'.cell? ⟨gb105, 0, none⟩ = some (.int .u8 a0_0) ∧ w'.cell? ⟨gb105, 1, none⟩ = some (.int .u32 a0_1) ∧ w'.cell? ⟨gb105, 2, none⟩ = some (.int .u16 a0_2) ∧ w'.cell? ⟨gb105, 3, none⟩ = some (.int .u32 a0_3) ∧ w'.cell? ⟨gb105, 4, none⟩ = some (.int .u32 a0_4)) ∧ (w'.heap[gb105]? = some (.cells #[.int .u8 a0_0, .int .u32 a0_1, .int .u16 a0_2, .int .u32 a0_3, .int .u32 a0_4] 26 (0, 0))) ∧ (Below w.heap.size w w')) ?_ ?_
                                rotate_left
                                · intro hJ7_12_17
                                  refine join_ (σ := Value) 10 #[true, true, true, true, true, true, true, false, false, true, true, true, false, false, true, true, true, false, false, true, true, true, false, false, false, false] (fun s_ => [(19, s_), (20, .string (strOfNums y106))]) (fun s_ w' => (w'.cell? ⟨gb105, 0, none⟩ = some (.int .u8 a0_0) ∧ w'.cell? ⟨gb105, 1, none⟩ = some (.int .u32 a0_1) ∧ w'.cell? ⟨gb105, 2, none⟩ = some (.int .u16 a0_2) ∧ w'.cell? ⟨gb105, 3, none⟩ = some (.int .u32 a0_3) ∧ w'.cell? ⟨gb105, 4, none⟩ = some (.int .u32 a0_4)) ∧ (Kd.R (Kd.int .u8) 5 w' w.heap.size (fun _ => True) s_ y106) ∧ (w'.heap[gb105]? = some (.cells #[.int .u8 a0_0, .int .u32 a0_1, .int .u16 a0_2, .int .u32 a0_3, .int .u32 a0_4] 26 (0, 0))) ∧ (Below w.heap.size w w')) ?_ ?_
                                  rotate_left
                                  · intro hJ2_3
                                    refine join_ (σ := Value) 10 #[true, true, true, false, true, true, true, true, false, true, true, true, false, false, true, true, true, false, false, true, true, true, false, false, false, false] (fun s_ => [(19, s_), (24, .string t109)]) (fun s_ w' => (w'.cell? ⟨gb105, 0, none⟩ = some (.int .u8 a0_0) ∧ w'.cell? ⟨gb105, 1, none⟩ = some (.int .u32 a0_1) ∧ w'.cell? ⟨gb105, 2, none⟩ = some (.int .u16 a0_2) ∧ w'.cell? ⟨gb105, 3, none⟩ = some (.int .u32 a0_3) ∧ w'.cell? ⟨gb105, 4, none⟩ = some (.int .u32 a0_4)) ∧ (Kd.R (Kd.int .u8) 5 w' w.heap.size (fun _ => True) s_ y106) ∧ (w'.heap[gb105]? = some (.cells #[.int .u8 a0_0, .int .u32 a0_1, .int .u16 a0_2, .int .u32 a0_3, .int .u32 a0_4] 26 (0, 0))) ∧ (Below w.heap.size w w')) ?_ ?_
                                    rotate_left
                                    · intro hJ2_7
                                      refine join_ (σ := Unit) 10 #[true, true, false, false, true, true, true, true, false, true, true, true, true, false, true, true, true, false, false, true, true, true, false, false, false, false] (fun s_ => [(24, .string t109), (29, .string t110)]) (fun s_ w' => (w'.cell? ⟨gb105, 0, none⟩ = some (.int .u8 a0_0) ∧ w'.cell? ⟨gb105, 1, none⟩ = some (.int .u32 a0_1) ∧ w'.cell? ⟨gb105, 2, none⟩ = some (.int .u16 a0_2) ∧ w'.cell? ⟨gb105, 3, none⟩ = some (.int .u32 a0_3) ∧ w'.cell? ⟨gb105, 4, none⟩ = some (.int .u32 a0_4)) ∧ (w'.heap[gb105]? = some (.cells #[.int .u8 a0_0, .int .u32 a0_1, .int .u16 a0_2, .int .u32 a0_3, .int .u32 a0_4] 26 (0, 0))) ∧ (Below w.heap.size w w')) ?_ ?_
                                      rotate_left
                                      · intro hJ7_12
                                        refine join_ (σ := Value) 11 #[true, true, true, false, true, true, true, false, false, true, true, true, false, false, true, true, true, false, false, true, true, true, false, false, false, false] (fun s_ => [(19, s_)]) (fun s_ w' => (w'.cell? ⟨gb105, 0, none⟩ = some (.int .u8 a0_0) ∧ w'.cell? ⟨gb105, 1, none⟩ = some (.int .u32 a0_1) ∧ w'.cell? ⟨gb105, 2, none⟩ = some (.int .u16 a0_2) ∧ w'.cell? ⟨gb105, 3, none⟩ = some (.int .u32 a0_3) ∧ w'.cell? ⟨gb105, 4, none⟩ = some (.int .u32 a0_4)) ∧ (Kd.R (Kd.int .u8) 5 w' w.heap.size (fun _ => True) s_ y106) ∧ (w'.heap[gb105]? = some (.cells #[.int .u8 a0_0, .int .u32 a0_1, .int .u16 a0_2, .int .u32 a0_3, .int .u32 a0_4] 26 (0, 0))) ∧ (Below w.heap.size w w')) ?_ ?_
                                        rotate_left
                                        · intro hJ2
                                          refine join_ (σ := Unit) 11 #[true, true, false, false, true, true, true, true, false, true, true, true, false, false, true, true, true, false, false, true, true, true, false, false, false, false] (fun s_ => [(24, .string t109)]) (fun s_ w' => (w'.cell? ⟨gb105, 0, none⟩ = some (.int .u8 a0_0) ∧ w'.cell? ⟨gb105, 1, none⟩ = some (.int .u32 a0_1) ∧ w'.cell? ⟨gb105, 2, none⟩ = some (.int .u16 a0_2) ∧ w'.cell? ⟨gb105, 3, none⟩ = some (.int .u32 a0_3) ∧ w'.cell? ⟨gb105, 4, none⟩ = some (.int .u32 a0_4)) ∧ (w'.heap[gb105]? = some (.cells #[.int .u8 a0_0, .int .u32 a0_1, .int .u16 a0_2, .int .u32 a0_3, .int .u32 a0_4] 26 (0, 0))) ∧ (Below w.heap.size w w')) ?_ ?_
                                          rotate_left
                                          · intro hJ7
                                            refine two_ (i := 2) (j := 7) (Ni := some 19) (Nj := some 24) #[true, true, true, false, true, true, true, false, false, true, true, true, false, false, true, true, true, false, false, true, true, true, false, false, false, false] #[true, true, false, false, true, true, true, true, false, true, true, true, false, false, true, true, true, false, false, true, true, true, false, false, false, false] rfl rfl rfl rfl (two_of HT_.out (by kernel_rfl)) (by decide) (by decide) (fun K hK => ?_) (fun K hK => ?_)
                                            · skip
                                              refine Kd.R_lit_step (Kd.int .u8) _ 5 ?hg (N := 19) ?hd (xs := ([a0_0] : List Int)) (inner := [.int .u8 a0_0]) (ok := fun _ => True) (okp := fun _ => True) ?hr ?hp (fun _ hk => hk) trivial (Below.refl _ _) (Nat.le_refl _) (by simp) ?_; (case hd => rfl); (case hg => rfl); (case hr => first | (go_simp; done) | (go_simp; rfl)); (case hp => exact (Reps.one (show Kd.M (Kd.int .u8) _ _ _ a0_0 [.int .u8 a0_0] from rfl) (Reps.none _ _)))
                                              intro v107 w19 ho20 hb hg_ hnew_
                                              clear hg_ hnew_
                                              (first | rw [← Ny106.out] at ho20 | (simp only [Int.reduceToNat] at ho20; rw [← Ny106.out] at ho20))
                                              have n0_ := Aside0.mk (Kd.R_lower ho20 (below_size (by repeat (first | (with_reducible first | exact HB.out | apply below_alloc | apply pw_below_drewN | apply below_drew1 | refine below_set ?_ GE105.out) | exact HB.out))))
                                              have n1_ := Aside0.mk (blk_below (g := gb105) (o := .cells #[.int .u8 a0_0, .int .u32 a0_1, .int .u16 a0_2, .int .u32 a0_3, .int .u32 a0_4] 26 (0, 0)) (by (with_reducible repeat (first | refine blk_drewN ?_ _ | refine blk_drew ?_ | refine blk_alloc ?_ _)); exact BK105.out) hb)
                                              have n2_ := Aside0.mk (below_step (by repeat (first | (with_reducible first | exact HB.out | apply below_alloc | apply pw_below_drewN | apply below_drew1 | refine below_set ?_ GE105.out) | exact HB.out)) hb)
                                              clear BK105
                                              clear HB
                                              have HO108 := n0_
                                              have BK105 := n1_
                                              have HB := n2_
                                              clear n0_ n1_ n2_
                                              clear hb ho20
                                              refine hK.out _ _ ⟨(blk_cell BK105.out 0).trans rfl, (blk_cell BK105.out 1).trans rfl, (blk_cell BK105.out 2).trans rfl, (blk_cell BK105.out 3).trans rfl, (blk_cell BK105.out 4).trans rfl⟩ (fun hHeld => ?_)
                                              clear hK K
                                              refine norm_ (a' := ?_) ?_ ?_
                                              rotate_left
                                              · show Act.put _ (some 19) _ = _
                                                simp only [Act.put, List.setIfInBounds_toArray, List.set_cons_zero, List.set_cons_succ, i64_w, i32_w]
                                                rfl
                                              exact norm_ (by first | (simp only [putAll, Act.put, List.setIfInBounds_toArray, List.set_cons_zero, List.set_cons_succ]; done) | (simp only [putAll, Act.put, List.setIfInBounds_toArray, List.set_cons_zero, List.set_cons_succ]; rfl)) (hJ2 (v107) _ ⟨hHeld, (by (with_reducible repeat (first | apply Kd.R_alloc | apply Kd.R_drewN | apply Kd.R_drew)); exact HO108.out), (by (with_reducible repeat (first | refine blk_drewN ?_ _ | refine blk_drew ?_ | refine blk_alloc ?_ _)); exact BK105.out), (by repeat (first | (with_reducible first | exact HB.out | apply below_alloc | apply pw_below_drewN | apply below_drew1 | refine below_set ?_ GE105.out) | exact HB.out))⟩)
                                            · skip
                                              refine goes_ Tryz.func8 (by kernel_rfl) rfl #[.int .u64 (IntKind.u64.wrap (a0_1)), .int .i64 3] (by rfl) rfl rfl (by (try simp only [List.map_toArray, List.map_cons, List.map_nil]); first | done | rfl | (simp only [List.length_drop, List.length_take]; rfl)) ?_
                                              with_reducible refine (spec_recNum.calls kj1 (IntKind.u64.wrap (a0_1)) 3 t109 _ A10.out).mono ?_
                                              rintro e w19 ⟨rfl, hb⟩
                                              refine ⟨_, rfl, ?_⟩
                                              have n0_ := Aside0.mk (blk_below (g := gb105) (o := .cells #[.int .u8 a0_0, .int .u32 a0_1, .int .u16 a0_2, .int .u32 a0_3, .int .u32 a0_4] 26 (0, 0)) (by (with_reducible repeat (first | refine blk_drewN ?_ _ | refine blk_drew ?_ | refine blk_alloc ?_ _)); exact BK105.out) hb)
                                              have n1_ := Aside0.mk (below_step (by repeat (first | (with_reducible first | exact HB.out | apply below_alloc | apply pw_below_drewN | apply below_drew1 | refine below_set ?_ GE105.out) | exact HB.out)) hb)
                                              clear BK105
                                              clear HB
                                              have BK105 := n0_
                                              have HB := n1_
                                              clear n0_ n1_
                                              (try clear hb)
                                              (try clear hb2)
                                              (try clear hk)
                                              (try clear hi)
                                              refine hK.out _ _ ⟨(blk_cell BK105.out 0).trans rfl, (blk_cell BK105.out 1).trans rfl, (blk_cell BK105.out 2).trans rfl, (blk_cell BK105.out 3).trans rfl, (blk_cell BK105.out 4).trans rfl⟩ (fun hHeld => ?_)
                                              clear hK K
                                              refine norm_ (a' := ?_) ?_ ?_
                                              rotate_left
                                              · show Act.put _ (some 24) _ = _
                                                simp only [Act.put, List.setIfInBounds_toArray, List.set_cons_zero, List.set_cons_succ, i64_w, i32_w]
                                                rfl
                                              exact norm_ (by first | (simp only [putAll, Act.put, List.setIfInBounds_toArray, List.set_cons_zero, List.set_cons_succ]; done) | (simp only [putAll, Act.put, List.setIfInBounds_toArray, List.set_cons_zero, List.set_cons_succ]; rfl)) (hJ7 () _ ⟨hHeld, (by (with_reducible repeat (first | refine blk_drewN ?_ _ | refine blk_drew ?_ | refine blk_alloc ?_ _)); exact BK105.out), (by repeat (first | (with_reducible first | exact HB.out | apply below_alloc | apply pw_below_drewN | apply below_drew1 | refine below_set ?_ GE105.out) | exact HB.out))⟩)
                                          · skip
                                            rintro _ w20 ⟨hS_, h0_, h1_⟩
                                            have n0_ : Aside0 (w20.heap[gb105]? = some (.cells #[.int .u8 a0_0, .int .u32 a0_1, .int .u16 a0_2, .int .u32 a0_3, .int .u32 a0_4] 26 (0, 0))) := ⟨h0_⟩
                                            have n1_ : Aside0 (Below w.heap.size w w20) := ⟨h1_⟩
                                            clear BK105
                                            clear HB
                                            clear h0_ h1_
                                            have BK105 := n0_
                                            have HB := n1_
                                            clear n0_ n1_
                                            have hHeld : w20.cell? ⟨gb105, 0, none⟩ = some (.int .u8 a0_0) ∧ w20.cell? ⟨gb105, 1, none⟩ = some (.int .u32 a0_1) ∧ w20.cell? ⟨gb105, 2, none⟩ = some (.int .u16 a0_2) ∧ w20.cell? ⟨gb105, 3, none⟩ = some (.int .u32 a0_3) ∧ w20.cell? ⟨gb105, 4, none⟩ = some (.int .u32 a0_4) := hS_
                                            refine norm_ (a' := ?_) ?_ ?_
                                            rotate_left
                                            · simp only [putAll, Act.put, List.setIfInBounds_toArray, List.set_cons_zero, List.set_cons_succ]
                                              rfl
                                            refine two_ (i := 2) (j := 12) (Ni := some 19) (Nj := some 29) #[true, true, true, false, true, true, true, true, false, true, true, true, false, false, true, true, true, false, false, true, true, true, false, false, false, false] #[true, true, false, false, true, true, true, true, false, true, true, true, true, false, true, true, true, false, false, true, true, true, false, false, false, false] rfl rfl rfl rfl (two_of HT_.out (by kernel_rfl)) (by decide) (by decide) (fun K hK => ?_) (fun K hK => ?_)
                                            · skip
                                              refine Kd.R_lit_step (Kd.int .u8) _ 5 ?hg (N := 19) ?hd (xs := ([a0_0] : List Int)) (inner := [.int .u8 a0_0]) (ok := fun _ => True) (okp := fun _ => True) ?hr ?hp (fun _ hk => hk) trivial (Below.refl _ _) (Nat.le_refl _) (by simp) ?_; (case hd => rfl); (case hg => rfl); (case hr => first | (go_simp; done) | (go_simp; rfl)); (case hp => exact (Reps.one (show Kd.M (Kd.int .u8) _ _ _ a0_0 [.int .u8 a0_0] from rfl) (Reps.none _ _)))
                                              intro v107 w21 ho22 hb hg_ hnew_
                                              clear hg_ hnew_
                                              (first | rw [← Ny106.out] at ho22 | (simp only [Int.reduceToNat] at ho22; rw [← Ny106.out] at ho22))
                                              have n0_ := Aside0.mk (Kd.R_lower ho22 (below_size (by repeat (first | (with_reducible first | exact HB.out | apply below_alloc | apply pw_below_drewN | apply below_drew1 | refine below_set ?_ GE105.out) | exact HB.out))))
                                              have n1_ := Aside0.mk (blk_below (g := gb105) (o := .cells #[.int .u8 a0_0, .int .u32 a0_1, .int .u16 a0_2, .int .u32 a0_3, .int .u32 a0_4] 26 (0, 0)) (by (with_reducible repeat (first | refine blk_drewN ?_ _ | refine blk_drew ?_ | refine blk_alloc ?_ _)); exact BK105.out) hb)
                                              have n2_ := Aside0.mk (below_step (by repeat (first | (with_reducible first | exact HB.out | apply below_alloc | apply pw_below_drewN | apply below_drew1 | refine below_set ?_ GE105.out) | exact HB.out)) hb)
                                              clear BK105
                                              clear HB
                                              have HO108 := n0_
                                              have BK105 := n1_
                                              have HB := n2_
                                              clear n0_ n1_ n2_
                                              clear hb ho22
                                              refine hK.out _ _ ⟨(blk_cell BK105.out 0).trans rfl, (blk_cell BK105.out 1).trans rfl, (blk_cell BK105.out 2).trans rfl, (blk_cell BK105.out 3).trans rfl, (blk_cell BK105.out 4).trans rfl⟩ (fun hHeld => ?_)
                                              clear hK K
                                              refine norm_ (a' := ?_) ?_ ?_
                                              rotate_left
                                              · show Act.put _ (some 19) _ = _
                                                simp only [Act.put, List.setIfInBounds_toArray, List.set_cons_zero, List.set_cons_succ, i64_w, i32_w]
                                                rfl
                                              exact norm_ (by first | (simp only [putAll, Act.put, List.setIfInBounds_toArray, List.set_cons_zero, List.set_cons_succ]; done) | (simp only [putAll, Act.put, List.setIfInBounds_toArray, List.set_cons_zero, List.set_cons_succ]; rfl)) (hJ2_7 (v107) _ ⟨hHeld, (by (with_reducible repeat (first | apply Kd.R_alloc | apply Kd.R_drewN | apply Kd.R_drew)); exact HO108.out), (by (with_reducible repeat (first | refine blk_drewN ?_ _ | refine blk_drew ?_ | refine blk_alloc ?_ _)); exact BK105.out), (by repeat (first | (with_reducible first | exact HB.out | apply below_alloc | apply pw_below_drewN | apply below_drew1 | refine below_set ?_ GE105.out) | exact HB.out))⟩)
                                            · skip
                                              refine goes_ Tryz.func8 (by kernel_rfl) rfl #[.int .u64 (IntKind.u64.wrap (a0_2)), .int .i64 2] (by rfl) rfl rfl (by (try simp only [List.map_toArray, List.map_cons, List.map_nil]); first | done | rfl | (simp only [List.length_drop, List.length_take]; rfl)) ?_
                                              with_reducible refine (spec_recNum.calls kj1 (IntKind.u64.wrap (a0_2)) 2 t110 _ A12.out).mono ?_
                                              rintro e w21 ⟨rfl, hb⟩
                                              refine ⟨_, rfl, ?_⟩
                                              have n0_ := Aside0.mk (blk_below (g := gb105) (o := .cells #[.int .u8 a0_0, .int .u32 a0_1, .int .u16 a0_2, .int .u32 a0_3, .int .u32 a0_4] 26 (0, 0)) (by (with_reducible repeat (first | refine blk_drewN ?_ _ | refine blk_drew ?_ | refine blk_alloc ?_ _)); exact BK105.out) hb)
                                              have n1_ := Aside0.mk (below_step (by repeat (first | (with_reducible first | exact HB.out | apply below_alloc | apply pw_below_drewN | apply below_drew1 | refine below_set ?_ GE105.out) | exact HB.out)) hb)
                                              clear BK105
                                              clear HB
                                              have BK105 := n0_
                                              have HB := n1_
                                              clear n0_ n1_
                                              (try clear hb)
                                              (try clear hb2)
                                              (try clear hk)
                                              (try clear hi)
                                              refine hK.out _ _ ⟨(blk_cell BK105.out 0).trans rfl, (blk_cell BK105.out 1).trans rfl, (blk_cell BK105.out 2).trans rfl, (blk_cell BK105.out 3).trans rfl, (blk_cell BK105.out 4).trans rfl⟩ (fun hHeld => ?_)
                                              clear hK K
                                              refine norm_ (a' := ?_) ?_ ?_
                                              rotate_left
                                              · show Act.put _ (some 29) _ = _
                                                simp only [Act.put, List.setIfInBounds_toArray, List.set_cons_zero, List.set_cons_succ, i64_w, i32_w]
                                                rfl
                                              exact norm_ (by first | (simp only [putAll, Act.put, List.setIfInBounds_toArray, List.set_cons_zero, List.set_cons_succ]; done) | (simp only [putAll, Act.put, List.setIfInBounds_toArray, List.set_cons_zero, List.set_cons_succ]; rfl)) (hJ7_12 () _ ⟨hHeld, (by (with_reducible repeat (first | refine blk_drewN ?_ _ | refine blk_drew ?_ | refine blk_alloc ?_ _)); exact BK105.out), (by repeat (first | (with_reducible first | exact HB.out | apply below_alloc | apply pw_below_drewN | apply below_drew1 | refine below_set ?_ GE105.out) | exact HB.out))⟩)
                                        · skip
                                          rintro v107 w21 ⟨hS_, h0_, h1_, h2_⟩
                                          have n0_ : Aside0 (Kd.R (Kd.int .u8) 5 w21 w.heap.size (fun _ => True) v107 y106) := ⟨h0_⟩
                                          have n1_ : Aside0 (w21.heap[gb105]? = some (.cells #[.int .u8 a0_0, .int .u32 a0_1, .int .u16 a0_2, .int .u32 a0_3, .int .u32 a0_4] 26 (0, 0))) := ⟨h1_⟩
                                          have n2_ : Aside0 (Below w.heap.size w w21) := ⟨h2_⟩
                                          clear BK105
                                          clear HB
                                          clear h0_ h1_ h2_
                                          have HO108 := n0_
                                          have BK105 := n1_
                                          have HB := n2_
                                          clear n0_ n1_ n2_
                                          have hHeld : w21.cell? ⟨gb105, 0, none⟩ = some (.int .u8 a0_0) ∧ w21.cell? ⟨gb105, 1, none⟩ = some (.int .u32 a0_1) ∧ w21.cell? ⟨gb105, 2, none⟩ = some (.int .u16 a0_2) ∧ w21.cell? ⟨gb105, 3, none⟩ = some (.int .u32 a0_3) ∧ w21.cell? ⟨gb105, 4, none⟩ = some (.int .u32 a0_4) := hS_
                                          refine norm_ (a' := ?_) ?_ ?_
                                          rotate_left
                                          · simp only [putAll, Act.put, List.setIfInBounds_toArray, List.set_cons_zero, List.set_cons_succ]
                                            rfl
                                          refine two_ (i := 3) (j := 7) (Ni := some 20) (Nj := some 24) #[true, true, true, true, true, true, true, false, false, true, true, true, false, false, true, true, true, false, false, true, true, true, false, false, false, false] #[true, true, true, false, true, true, true, true, false, true, true, true, false, false, true, true, true, false, false, true, true, true, false, false, false, false] rfl rfl rfl rfl (two_of HT_.out (by kernel_rfl)) (by decide) (by decide) (fun K hK => ?_) (fun K hK => ?_)
                                          · skip
                                            have hcv22 := own_string (P := Tryz.prog) Tryz.underlying30 Tryz.underlying5 Tryz.underlying9 (Kd.own_of_R HO108.out)
                                            refine value_ (w1 := ?_) (v := ?_) (by rfl) rfl ?_ ?_
                                            rotate_left 2
                                            · go_simp
                                              constructor
                                              · rfl
                                              · rfl
                                            clear hcv22
                                            refine hK.out _ _ ⟨(blk_cell BK105.out 0).trans rfl, (blk_cell BK105.out 1).trans rfl, (blk_cell BK105.out 2).trans rfl, (blk_cell BK105.out 3).trans rfl, (blk_cell BK105.out 4).trans rfl⟩ (fun hHeld => ?_)
                                            clear hK K
                                            refine norm_ (a' := ?_) ?_ ?_
                                            rotate_left
                                            · show Act.put _ (some 20) _ = _
                                              simp only [Act.put, List.setIfInBounds_toArray, List.set_cons_zero, List.set_cons_succ, i64_w, i32_w]
                                              rfl
                                            exact norm_ (by first | (simp only [putAll, Act.put, List.setIfInBounds_toArray, List.set_cons_zero, List.set_cons_succ]; done) | (simp only [putAll, Act.put, List.setIfInBounds_toArray, List.set_cons_zero, List.set_cons_succ]; rfl)) (hJ2_3 (v107) _ ⟨hHeld, (by (with_reducible repeat (first | apply Kd.R_alloc | apply Kd.R_drewN | apply Kd.R_drew)); exact HO108.out), (by (with_reducible repeat (first | refine blk_drewN ?_ _ | refine blk_drew ?_ | refine blk_alloc ?_ _)); exact BK105.out), (by repeat (first | (with_reducible first | exact HB.out | apply below_alloc | apply pw_below_drewN | apply below_drew1 | refine below_set ?_ GE105.out) | exact HB.out))⟩)
                                          · skip
                                            refine goes_ Tryz.func8 (by kernel_rfl) rfl #[.int .u64 (IntKind.u64.wrap (a0_1)), .int .i64 3] (by rfl) rfl rfl (by (try simp only [List.map_toArray, List.map_cons, List.map_nil]); first | done | rfl | (simp only [List.length_drop, List.length_take]; rfl)) ?_
                                            with_reducible refine (spec_recNum.calls kj1 (IntKind.u64.wrap (a0_1)) 3 t109 _ A10.out).mono ?_
                                            rintro e w22 ⟨rfl, hb⟩
                                            refine ⟨_, rfl, ?_⟩
                                            have n0_ := Aside0.mk (Kd.R_below (by (with_reducible repeat (first | apply Kd.R_alloc | apply Kd.R_drewN | apply Kd.R_drew)); exact HO108.out) hb)
                                            have n1_ := Aside0.mk (blk_below (g := gb105) (o := .cells #[.int .u8 a0_0, .int .u32 a0_1, .int .u16 a0_2, .int .u32 a0_3, .int .u32 a0_4] 26 (0, 0)) (by (with_reducible repeat (first | refine blk_drewN ?_ _ | refine blk_drew ?_ | refine blk_alloc ?_ _)); exact BK105.out) hb)
                                            have n2_ := Aside0.mk (below_step (by repeat (first | (with_reducible first | exact HB.out | apply below_alloc | apply pw_below_drewN | apply below_drew1 | refine below_set ?_ GE105.out) | exact HB.out)) hb)
                                            clear HO108
                                            clear BK105
                                            clear HB
                                            have HO108 := n0_
                                            have BK105 := n1_
                                            have HB := n2_
                                            clear n0_ n1_ n2_
                                            (try clear hb)
                                            (try clear hb2)
                                            (try clear hk)
                                            (try clear hi)
                                            refine hK.out _ _ ⟨(blk_cell BK105.out 0).trans rfl, (blk_cell BK105.out 1).trans rfl, (blk_cell BK105.out 2).trans rfl, (blk_cell BK105.out 3).trans rfl, (blk_cell BK105.out 4).trans rfl⟩ (fun hHeld => ?_)
                                            clear hK K
                                            refine norm_ (a' := ?_) ?_ ?_
                                            rotate_left
                                            · show Act.put _ (some 24) _ = _
                                              simp only [Act.put, List.setIfInBounds_toArray, List.set_cons_zero, List.set_cons_succ, i64_w, i32_w]
                                              rfl
                                            exact norm_ (by first | (simp only [putAll, Act.put, List.setIfInBounds_toArray, List.set_cons_zero, List.set_cons_succ]; done) | (simp only [putAll, Act.put, List.setIfInBounds_toArray, List.set_cons_zero, List.set_cons_succ]; rfl)) (hJ2_7 (v107) _ ⟨hHeld, (by (with_reducible repeat (first | apply Kd.R_alloc | apply Kd.R_drewN | apply Kd.R_drew)); exact HO108.out), (by (with_reducible repeat (first | refine blk_drewN ?_ _ | refine blk_drew ?_ | refine blk_alloc ?_ _)); exact BK105.out), (by repeat (first | (with_reducible first | exact HB.out | apply below_alloc | apply pw_below_drewN | apply below_drew1 | refine below_set ?_ GE105.out) | exact HB.out))⟩)
                                      · skip
                                        rintro _ w21 ⟨hS_, h0_, h1_⟩
                                        have n0_ : Aside0 (w21.heap[gb105]? = some (.cells #[.int .u8 a0_0, .int .u32 a0_1, .int .u16 a0_2, .int .u32 a0_3, .int .u32 a0_4] 26 (0, 0))) := ⟨h0_⟩
                                        have n1_ : Aside0 (Below w.heap.size w w21) := ⟨h1_⟩
                                        clear BK105
                                        clear HB
                                        clear h0_ h1_
                                        have BK105 := n0_
                                        have HB := n1_
                                        clear n0_ n1_
                                        have hHeld : w21.cell? ⟨gb105, 0, none⟩ = some (.int .u8 a0_0) ∧ w21.cell? ⟨gb105, 1, none⟩ = some (.int .u32 a0_1) ∧ w21.cell? ⟨gb105, 2, none⟩ = some (.int .u16 a0_2) ∧ w21.cell? ⟨gb105, 3, none⟩ = some (.int .u32 a0_3) ∧ w21.cell? ⟨gb105, 4, none⟩ = some (.int .u32 a0_4) := hS_
                                        refine norm_ (a' := ?_) ?_ ?_
                                        rotate_left
                                        · simp only [putAll, Act.put, List.setIfInBounds_toArray, List.set_cons_zero, List.set_cons_succ]
                                          rfl
                                        refine two_ (i := 2) (j := 17) (Ni := some 19) (Nj := some 34) #[true, true, true, false, true, true, true, true, false, true, true, true, true, false, true, true, true, false, false, true, true, true, false, false, false, false] #[true, true, false, false, true, true, true, true, false, true, true, true, true, false, true, true, true, true, false, true, true, true, false, false, false, false] rfl rfl rfl rfl (two_of HT_.out (by kernel_rfl)) (by decide) (by decide) (fun K hK => ?_) (fun K hK => ?_)
                                        · skip
                                          refine Kd.R_lit_step (Kd.int .u8) _ 5 ?hg (N := 19) ?hd (xs := ([a0_0] : List Int)) (inner := [.int .u8 a0_0]) (ok := fun _ => True) (okp := fun _ => True) ?hr ?hp (fun _ hk => hk) trivial (Below.refl _ _) (Nat.le_refl _) (by simp) ?_; (case hd => rfl); (case hg => rfl); (case hr => first | (go_simp; done) | (go_simp; rfl)); (case hp => exact (Reps.one (show Kd.M (Kd.int .u8) _ _ _ a0_0 [.int .u8 a0_0] from rfl) (Reps.none _ _)))
                                          intro v107 w22 ho23 hb hg_ hnew_
                                          clear hg_ hnew_
                                          (first | rw [← Ny106.out] at ho23 | (simp only [Int.reduceToNat] at ho23; rw [← Ny106.out] at ho23))
                                          have n0_ := Aside0.mk (Kd.R_lower ho23 (below_size (by repeat (first | (with_reducible first | exact HB.out | apply below_alloc | apply pw_below_drewN | apply below_drew1 | refine below_set ?_ GE105.out) | exact HB.out))))
                                          have n1_ := Aside0.mk (blk_below (g := gb105) (o := .cells #[.int .u8 a0_0, .int .u32 a0_1, .int .u16 a0_2, .int .u32 a0_3, .int .u32 a0_4] 26 (0, 0)) (by (with_reducible repeat (first | refine blk_drewN ?_ _ | refine blk_drew ?_ | refine blk_alloc ?_ _)); exact BK105.out) hb)
                                          have n2_ := Aside0.mk (below_step (by repeat (first | (with_reducible first | exact HB.out | apply below_alloc | apply pw_below_drewN | apply below_drew1 | refine below_set ?_ GE105.out) | exact HB.out)) hb)
                                          clear BK105
                                          clear HB
                                          have HO108 := n0_
                                          have BK105 := n1_
                                          have HB := n2_
                                          clear n0_ n1_ n2_
                                          clear hb ho23
                                          refine hK.out _ _ ⟨(blk_cell BK105.out 0).trans rfl, (blk_cell BK105.out 1).trans rfl, (blk_cell BK105.out 2).trans rfl, (blk_cell BK105.out 3).trans rfl, (blk_cell BK105.out 4).trans rfl⟩ (fun hHeld => ?_)
                                          clear hK K
                                          refine norm_ (a' := ?_) ?_ ?_
                                          rotate_left
                                          · show Act.put _ (some 19) _ = _
                                            simp only [Act.put, List.setIfInBounds_toArray, List.set_cons_zero, List.set_cons_succ, i64_w, i32_w]
                                            rfl
                                          exact norm_ (by first | (simp only [putAll, Act.put, List.setIfInBounds_toArray, List.set_cons_zero, List.set_cons_succ]; done) | (simp only [putAll, Act.put, List.setIfInBounds_toArray, List.set_cons_zero, List.set_cons_succ]; rfl)) (hJ2_7_12 (v107) _ ⟨hHeld, (by (with_reducible repeat (first | apply Kd.R_alloc | apply Kd.R_drewN | apply Kd.R_drew)); exact HO108.out), (by (with_reducible repeat (first | refine blk_drewN ?_ _ | refine blk_drew ?_ | refine blk_alloc ?_ _)); exact BK105.out), (by repeat (first | (with_reducible first | exact HB.out | apply below_alloc | apply pw_below_drewN | apply below_drew1 | refine below_set ?_ GE105.out) | exact HB.out))⟩)
                                        · skip
                                          refine goes_ Tryz.func8 (by kernel_rfl) rfl #[.int .u64 (IntKind.u64.wrap (a0_3)), .int .i64 3] (by rfl) rfl rfl (by (try simp only [List.map_toArray, List.map_cons, List.map_nil]); first | done | rfl | (simp only [List.length_drop, List.length_take]; rfl)) ?_
                                          with_reducible refine (spec_recNum.calls kj1 (IntKind.u64.wrap (a0_3)) 3 t111 _ A14.out).mono ?_
                                          rintro e w22 ⟨rfl, hb⟩
                                          refine ⟨_, rfl, ?_⟩
                                          have n0_ := Aside0.mk (blk_below (g := gb105) (o := .cells #[.int .u8 a0_0, .int .u32 a0_1, .int .u16 a0_2, .int .u32 a0_3, .int .u32 a0_4] 26 (0, 0)) (by (with_reducible repeat (first | refine blk_drewN ?_ _ | refine blk_drew ?_ | refine blk_alloc ?_ _)); exact BK105.out) hb)
                                          have n1_ := Aside0.mk (below_step (by repeat (first | (with_reducible first | exact HB.out | apply below_alloc | apply pw_below_drewN | apply below_drew1 | refine below_set ?_ GE105.out) | exact HB.out)) hb)
                                          clear BK105
                                          clear HB
                                          have BK105 := n0_
                                          have HB := n1_
                                          clear n0_ n1_
                                          (try clear hb)
                                          (try clear hb2)
                                          (try clear hk)
                                          (try clear hi)
                                          refine hK.out _ _ ⟨(blk_cell BK105.out 0).trans rfl, (blk_cell BK105.out 1).trans rfl, (blk_cell BK105.out 2).trans rfl, (blk_cell BK105.out 3).trans rfl, (blk_cell BK105.out 4).trans rfl⟩ (fun hHeld => ?_)
                                          clear hK K
                                          refine norm_ (a' := ?_) ?_ ?_
                                          rotate_left
                                          · show Act.put _ (some 34) _ = _
                                            simp only [Act.put, List.setIfInBounds_toArray, List.set_cons_zero, List.set_cons_succ, i64_w, i32_w]
                                            rfl
                                          exact norm_ (by first | (simp only [putAll, Act.put, List.setIfInBounds_toArray, List.set_cons_zero, List.set_cons_succ]; done) | (simp only [putAll, Act.put, List.setIfInBounds_toArray, List.set_cons_zero, List.set_cons_succ]; rfl)) (hJ7_12_17 () _ ⟨hHeld, (by (with_reducible repeat (first | refine blk_drewN ?_ _ | refine blk_drew ?_ | refine blk_alloc ?_ _)); exact BK105.out), (by repeat (first | (with_reducible first | exact HB.out | apply below_alloc | apply pw_below_drewN | apply below_drew1 | refine below_set ?_ GE105.out) | exact HB.out))⟩)
                                    · skip
                                      rintro v107 w22 ⟨hS_, h0_, h1_, h2_⟩
                                      have n0_ : Aside0 (Kd.R (Kd.int .u8) 5 w22 w.heap.size (fun _ => True) v107 y106) := ⟨h0_⟩
                                      have n1_ : Aside0 (w22.heap[gb105]? = some (.cells #[.int .u8 a0_0, .int .u32 a0_1, .int .u16 a0_2, .int .u32 a0_3, .int .u32 a0_4] 26 (0, 0))) := ⟨h1_⟩
                                      have n2_ : Aside0 (Below w.heap.size w w22) := ⟨h2_⟩
                                      clear BK105
                                      clear HB
                                      clear h0_ h1_ h2_
                                      have HO108 := n0_
                                      have BK105 := n1_
                                      have HB := n2_
                                      clear n0_ n1_ n2_
                                      have hHeld : w22.cell? ⟨gb105, 0, none⟩ = some (.int .u8 a0_0) ∧ w22.cell? ⟨gb105, 1, none⟩ = some (.int .u32 a0_1) ∧ w22.cell? ⟨gb105, 2, none⟩ = some (.int .u16 a0_2) ∧ w22.cell? ⟨gb105, 3, none⟩ = some (.int .u32 a0_3) ∧ w22.cell? ⟨gb105, 4, none⟩ = some (.int .u32 a0_4) := hS_
                                      refine norm_ (a' := ?_) ?_ ?_
                                      rotate_left
                                      · simp only [putAll, Act.put, List.setIfInBounds_toArray, List.set_cons_zero, List.set_cons_succ]
                                        rfl
                                      refine two_ (i := 3) (j := 12) (Ni := some 20) (Nj := some 29) #[true, true, true, true, true, true, true, true, false, true, true, true, false, false, true, true, true, false, false, true, true, true, false, false, false, false] #[true, true, true, false, true, true, true, true, false, true, true, true, true, false, true, true, true, false, false, true, true, true, false, false, false, false] rfl rfl rfl rfl (two_of HT_.out (by kernel_rfl)) (by decide) (by decide) (fun K hK => ?_) (fun K hK => ?_)
                                      · skip
                                        have hcv23 := own_string (P := Tryz.prog) Tryz.underlying30 Tryz.underlying5 Tryz.underlying9 (Kd.own_of_R HO108.out)
                                        refine value_ (w1 := ?_) (v := ?_) (by rfl) rfl ?_ ?_
                                        rotate_left 2
                                        · go_simp
                                          constructor
                                          · rfl
                                          · rfl
                                        clear hcv23
                                        refine hK.out _ _ ⟨(blk_cell BK105.out 0).trans rfl, (blk_cell BK105.out 1).trans rfl, (blk_cell BK105.out 2).trans rfl, (blk_cell BK105.out 3).trans rfl, (blk_cell BK105.out 4).trans rfl⟩ (fun hHeld => ?_)
                                        clear hK K
                                        refine norm_ (a' := ?_) ?_ ?_
                                        rotate_left
                                        · show Act.put _ (some 20) _ = _
                                          simp only [Act.put, List.setIfInBounds_toArray, List.set_cons_zero, List.set_cons_succ, i64_w, i32_w]
                                          rfl
                                        refine pure_ (i := 8) (N := some 25) (v := ?_) (a' := ?_) #[true, true, true, true, true, true, true, true, true, true, true, true, false, false, true, true, true, false, false, true, true, true, false, false, false, false] rfl rfl (any_of HT_.out (by kernel_rfl)) (fun _ _ _ h => h) (Or.inl ⟨by rfl, ?_⟩) ?_ ?_
                                        rotate_left
                                        · intro w'
                                          go_simp
                                          with_reducible rfl
                                        rotate_left
                                        · simp only [Act.put, List.setIfInBounds_toArray, List.set_cons_zero, List.set_cons_succ, i64_w, i32_w]
                                          rfl
                                        exact norm_ (by first | (simp only [putAll, Act.put, List.setIfInBounds_toArray, List.set_cons_zero, List.set_cons_succ]; done) | (simp only [putAll, Act.put, List.setIfInBounds_toArray, List.set_cons_zero, List.set_cons_succ]; rfl)) (hJ2_3_7 (v107) _ ⟨hHeld, (by (with_reducible repeat (first | apply Kd.R_alloc | apply Kd.R_drewN | apply Kd.R_drew)); exact HO108.out), (by (with_reducible repeat (first | refine blk_drewN ?_ _ | refine blk_drew ?_ | refine blk_alloc ?_ _)); exact BK105.out), (by repeat (first | (with_reducible first | exact HB.out | apply below_alloc | apply pw_below_drewN | apply below_drew1 | refine below_set ?_ GE105.out) | exact HB.out))⟩)
                                      · skip
                                        refine goes_ Tryz.func8 (by kernel_rfl) rfl #[.int .u64 (IntKind.u64.wrap (a0_2)), .int .i64 2] (by rfl) rfl rfl (by (try simp only [List.map_toArray, List.map_cons, List.map_nil]); first | done | rfl | (simp only [List.length_drop, List.length_take]; rfl)) ?_
                                        with_reducible refine (spec_recNum.calls kj1 (IntKind.u64.wrap (a0_2)) 2 t110 _ A12.out).mono ?_
                                        rintro e w23 ⟨rfl, hb⟩
                                        refine ⟨_, rfl, ?_⟩
                                        have n0_ := Aside0.mk (Kd.R_below (by (with_reducible repeat (first | apply Kd.R_alloc | apply Kd.R_drewN | apply Kd.R_drew)); exact HO108.out) hb)
                                        have n1_ := Aside0.mk (blk_below (g := gb105) (o := .cells #[.int .u8 a0_0, .int .u32 a0_1, .int .u16 a0_2, .int .u32 a0_3, .int .u32 a0_4] 26 (0, 0)) (by (with_reducible repeat (first | refine blk_drewN ?_ _ | refine blk_drew ?_ | refine blk_alloc ?_ _)); exact BK105.out) hb)
                                        have n2_ := Aside0.mk (below_step (by repeat (first | (with_reducible first | exact HB.out | apply below_alloc | apply pw_below_drewN | apply below_drew1 | refine below_set ?_ GE105.out) | exact HB.out)) hb)
                                        clear HO108
                                        clear BK105
                                        clear HB
                                        have HO108 := n0_
                                        have BK105 := n1_
                                        have HB := n2_
                                        clear n0_ n1_ n2_
                                        (try clear hb)
                                        (try clear hb2)
                                        (try clear hk)
                                        (try clear hi)
                                        refine hK.out _ _ ⟨(blk_cell BK105.out 0).trans rfl, (blk_cell BK105.out 1).trans rfl, (blk_cell BK105.out 2).trans rfl, (blk_cell BK105.out 3).trans rfl, (blk_cell BK105.out 4).trans rfl⟩ (fun hHeld => ?_)
                                        clear hK K
                                        refine norm_ (a' := ?_) ?_ ?_
                                        rotate_left
                                        · show Act.put _ (some 29) _ = _
                                          simp only [Act.put, List.setIfInBounds_toArray, List.set_cons_zero, List.set_cons_succ, i64_w, i32_w]
                                          rfl
                                        exact norm_ (by first | (simp only [putAll, Act.put, List.setIfInBounds_toArray, List.set_cons_zero, List.set_cons_succ]; done) | (simp only [putAll, Act.put, List.setIfInBounds_toArray, List.set_cons_zero, List.set_cons_succ]; rfl)) (hJ2_7_12 (v107) _ ⟨hHeld, (by (with_reducible repeat (first | apply Kd.R_alloc | apply Kd.R_drewN | apply Kd.R_drew)); exact HO108.out), (by (with_reducible repeat (first | refine blk_drewN ?_ _ | refine blk_drew ?_ | refine blk_alloc ?_ _)); exact BK105.out), (by repeat (first | (with_reducible first | exact HB.out | apply below_alloc | apply pw_below_drewN | apply below_drew1 | refine below_set ?_ GE105.out) | exact HB.out))⟩)
                                  · skip
                                    rintro v107 w22 ⟨hS_, h0_, h1_, h2_⟩
                                    have n0_ : Aside0 (Kd.R (Kd.int .u8) 5 w22 w.heap.size (fun _ => True) v107 y106) := ⟨h0_⟩
                                    have n1_ : Aside0 (w22.heap[gb105]? = some (.cells #[.int .u8 a0_0, .int .u32 a0_1, .int .u16 a0_2, .int .u32 a0_3, .int .u32 a0_4] 26 (0, 0))) := ⟨h1_⟩
                                    have n2_ : Aside0 (Below w.heap.size w w22) := ⟨h2_⟩
                                    clear BK105
                                    clear HB
                                    clear h0_ h1_ h2_
                                    have HO108 := n0_
                                    have BK105 := n1_
                                    have HB := n2_
                                    clear n0_ n1_ n2_
                                    have hHeld : w22.cell? ⟨gb105, 0, none⟩ = some (.int .u8 a0_0) ∧ w22.cell? ⟨gb105, 1, none⟩ = some (.int .u32 a0_1) ∧ w22.cell? ⟨gb105, 2, none⟩ = some (.int .u16 a0_2) ∧ w22.cell? ⟨gb105, 3, none⟩ = some (.int .u32 a0_3) ∧ w22.cell? ⟨gb105, 4, none⟩ = some (.int .u32 a0_4) := hS_
                                    refine norm_ (a' := ?_) ?_ ?_
                                    rotate_left
                                    · simp only [putAll, Act.put, List.setIfInBounds_toArray, List.set_cons_zero, List.set_cons_succ]
                                      rfl
                                    refine one_ (i := 7) (N := some 24) #[true, true, true, true, true, true, true, true, false, true, true, true, false, false, true, true, true, false, false, true, true, true, false, false, false, false] rfl rfl (one_of HT_.out (by kernel_rfl)) (by decide) (fun K hK => ?_)
                                    refine goes_ Tryz.func8 (by kernel_rfl) rfl #[.int .u64 (IntKind.u64.wrap (a0_1)), .int .i64 3] (by rfl) rfl rfl (by (try simp only [List.map_toArray, List.map_cons, List.map_nil]); first | done | rfl | (simp only [List.length_drop, List.length_take]; rfl)) ?_
                                    with_reducible refine (spec_recNum.calls kj1 (IntKind.u64.wrap (a0_1)) 3 t109 _ A10.out).mono ?_
                                    rintro e w23 ⟨rfl, hb⟩
                                    refine ⟨_, rfl, ?_⟩
                                    have n0_ := Aside0.mk (Kd.R_below (by (with_reducible repeat (first | apply Kd.R_alloc | apply Kd.R_drewN | apply Kd.R_drew)); exact HO108.out) hb)
                                    have n1_ := Aside0.mk (blk_below (g := gb105) (o := .cells #[.int .u8 a0_0, .int .u32 a0_1, .int .u16 a0_2, .int .u32 a0_3, .int .u32 a0_4] 26 (0, 0)) (by (with_reducible repeat (first | refine blk_drewN ?_ _ | refine blk_drew ?_ | refine blk_alloc ?_ _)); exact BK105.out) hb)
                                    have n2_ := Aside0.mk (below_step (by repeat (first | (with_reducible first | exact HB.out | apply below_alloc | apply pw_below_drewN | apply below_drew1 | refine below_set ?_ GE105.out) | exact HB.out)) hb)
                                    clear HO108
                                    clear BK105
                                    clear HB
                                    have HO108 := n0_
                                    have BK105 := n1_
                                    have HB := n2_
                                    clear n0_ n1_ n2_
                                    (try clear hb)
                                    (try clear hb2)
                                    (try clear hk)
                                    (try clear hi)
                                    refine hK.out _ _ ⟨(blk_cell BK105.out 0).trans rfl, (blk_cell BK105.out 1).trans rfl, (blk_cell BK105.out 2).trans rfl, (blk_cell BK105.out 3).trans rfl, (blk_cell BK105.out 4).trans rfl⟩ (fun hHeld => ?_)
                                    clear hK K
                                    refine norm_ (a' := ?_) ?_ ?_
                                    rotate_left
                                    · show Act.put _ (some 24) _ = _
                                      simp only [Act.put, List.setIfInBounds_toArray, List.set_cons_zero, List.set_cons_succ, i64_w, i32_w]
                                      rfl
                                    refine pure_ (i := 8) (N := some 25) (v := ?_) (a' := ?_) #[true, true, true, true, true, true, true, true, true, true, true, true, false, false, true, true, true, false, false, true, true, true, false, false, false, false] rfl rfl (any_of HT_.out (by kernel_rfl)) (fun _ _ _ h => h) (Or.inl ⟨by rfl, ?_⟩) ?_ ?_
                                    rotate_left
                                    · intro w'
                                      go_simp
                                      with_reducible rfl
                                    rotate_left
                                    · simp only [Act.put, List.setIfInBounds_toArray, List.set_cons_zero, List.set_cons_succ, i64_w, i32_w]
                                      rfl
                                    exact norm_ (by first | (simp only [putAll, Act.put, List.setIfInBounds_toArray, List.set_cons_zero, List.set_cons_succ]; done) | (simp only [putAll, Act.put, List.setIfInBounds_toArray, List.set_cons_zero, List.set_cons_succ]; rfl)) (hJ2_3_7 (v107) _ ⟨hHeld, (by (with_reducible repeat (first | apply Kd.R_alloc | apply Kd.R_drewN | apply Kd.R_drew)); exact HO108.out), (by (with_reducible repeat (first | refine blk_drewN ?_ _ | refine blk_drew ?_ | refine blk_alloc ?_ _)); exact BK105.out), (by repeat (first | (with_reducible first | exact HB.out | apply below_alloc | apply pw_below_drewN | apply below_drew1 | refine below_set ?_ GE105.out) | exact HB.out))⟩)
                                · skip
                                  rintro _ w22 ⟨hS_, h0_, h1_⟩
                                  have n0_ : Aside0 (w22.heap[gb105]? = some (.cells #[.int .u8 a0_0, .int .u32 a0_1, .int .u16 a0_2, .int .u32 a0_3, .int .u32 a0_4] 26 (0, 0))) := ⟨h0_⟩
                                  have n1_ : Aside0 (Below w.heap.size w w22) := ⟨h1_⟩
                                  clear BK105
                                  clear HB
                                  clear h0_ h1_
                                  have BK105 := n0_
                                  have HB := n1_
                                  clear n0_ n1_
                                  have hHeld : w22.cell? ⟨gb105, 0, none⟩ = some (.int .u8 a0_0) ∧ w22.cell? ⟨gb105, 1, none⟩ = some (.int .u32 a0_1) ∧ w22.cell? ⟨gb105, 2, none⟩ = some (.int .u16 a0_2) ∧ w22.cell? ⟨gb105, 3, none⟩ = some (.int .u32 a0_3) ∧ w22.cell? ⟨gb105, 4, none⟩ = some (.int .u32 a0_4) := hS_
                                  refine norm_ (a' := ?_) ?_ ?_
                                  rotate_left
                                  · simp only [putAll, Act.put, List.setIfInBounds_toArray, List.set_cons_zero, List.set_cons_succ]
                                    rfl
                                  refine two_ (i := 2) (j := 22) (Ni := some 19) (Nj := some 39) #[true, true, true, false, true, true, true, true, false, true, true, true, true, false, true, true, true, true, false, true, true, true, false, false, false, false] #[true, true, false, false, true, true, true, true, false, true, true, true, true, false, true, true, true, true, false, true, true, true, true, false, false, false] rfl rfl rfl rfl (two_of HT_.out (by kernel_rfl)) (by decide) (by decide) (fun K hK => ?_) (fun K hK => ?_)
                                  · skip
                                    refine Kd.R_lit_step (Kd.int .u8) _ 5 ?hg (N := 19) ?hd (xs := ([a0_0] : List Int)) (inner := [.int .u8 a0_0]) (ok := fun _ => True) (okp := fun _ => True) ?hr ?hp (fun _ hk => hk) trivial (Below.refl _ _) (Nat.le_refl _) (by simp) ?_; (case hd => rfl); (case hg => rfl); (case hr => first | (go_simp; done) | (go_simp; rfl)); (case hp => exact (Reps.one (show Kd.M (Kd.int .u8) _ _ _ a0_0 [.int .u8 a0_0] from rfl) (Reps.none _ _)))
                                    intro v107 w23 ho24 hb hg_ hnew_
                                    clear hg_ hnew_
                                    (first | rw [← Ny106.out] at ho24 | (simp only [Int.reduceToNat] at ho24; rw [← Ny106.out] at ho24))
                                    have n0_ := Aside0.mk (Kd.R_lower ho24 (below_size (by repeat (first | (with_reducible first | exact HB.out | apply below_alloc | apply pw_below_drewN | apply below_drew1 | refine below_set ?_ GE105.out) | exact HB.out))))
                                    have n1_ := Aside0.mk (blk_below (g := gb105) (o := .cells #[.int .u8 a0_0, .int .u32 a0_1, .int .u16 a0_2, .int .u32 a0_3, .int .u32 a0_4] 26 (0, 0)) (by (with_reducible repeat (first | refine blk_drewN ?_ _ | refine blk_drew ?_ | refine blk_alloc ?_ _)); exact BK105.out) hb)
                                    have n2_ := Aside0.mk (below_step (by repeat (first | (with_reducible first | exact HB.out | apply below_alloc | apply pw_below_drewN | apply below_drew1 | refine below_set ?_ GE105.out) | exact HB.out)) hb)
                                    clear BK105
                                    clear HB
                                    have HO108 := n0_
                                    have BK105 := n1_
                                    have HB := n2_
                                    clear n0_ n1_ n2_
                                    clear hb ho24
                                    refine hK.out _ _ ⟨(blk_cell BK105.out 0).trans rfl, (blk_cell BK105.out 1).trans rfl, (blk_cell BK105.out 2).trans rfl, (blk_cell BK105.out 3).trans rfl, (blk_cell BK105.out 4).trans rfl⟩ (fun hHeld => ?_)
                                    clear hK K
                                    refine norm_ (a' := ?_) ?_ ?_
                                    rotate_left
                                    · show Act.put _ (some 19) _ = _
                                      simp only [Act.put, List.setIfInBounds_toArray, List.set_cons_zero, List.set_cons_succ, i64_w, i32_w]
                                      rfl
                                    exact norm_ (by first | (simp only [putAll, Act.put, List.setIfInBounds_toArray, List.set_cons_zero, List.set_cons_succ]; done) | (simp only [putAll, Act.put, List.setIfInBounds_toArray, List.set_cons_zero, List.set_cons_succ]; rfl)) (hJ2_7_12_17 (v107) _ ⟨hHeld, (by (with_reducible repeat (first | apply Kd.R_alloc | apply Kd.R_drewN | apply Kd.R_drew)); exact HO108.out), (by (with_reducible repeat (first | refine blk_drewN ?_ _ | refine blk_drew ?_ | refine blk_alloc ?_ _)); exact BK105.out), (by repeat (first | (with_reducible first | exact HB.out | apply below_alloc | apply pw_below_drewN | apply below_drew1 | refine below_set ?_ GE105.out) | exact HB.out))⟩)
                                  · skip
                                    refine goes_ Tryz.func8 (by kernel_rfl) rfl #[.int .u64 (IntKind.u64.wrap (a0_4)), .int .i64 3] (by rfl) rfl rfl (by (try simp only [List.map_toArray, List.map_cons, List.map_nil]); first | done | rfl | (simp only [List.length_drop, List.length_take]; rfl)) ?_
                                    with_reducible refine (spec_recNum.calls kj1 (IntKind.u64.wrap (a0_4)) 3 t112 _ A16.out).mono ?_
                                    rintro e w23 ⟨rfl, hb⟩
                                    refine ⟨_, rfl, ?_⟩
                                    have n0_ := Aside0.mk (blk_below (g := gb105) (o := .cells #[.int .u8 a0_0, .int .u32 a0_1, .int .u16 a0_2, .int .u32 a0_3, .int .u32 a0_4] 26 (0, 0)) (by (with_reducible repeat (first | refine blk_drewN ?_ _ | refine blk_drew ?_ | refine blk_alloc ?_ _)); exact BK105.out) hb)
                                    have n1_ := Aside0.mk (below_step (by repeat (first | (with_reducible first | exact HB.out | apply below_alloc | apply pw_below_drewN | apply below_drew1 | refine below_set ?_ GE105.out) | exact HB.out)) hb)
                                    clear BK105
                                    clear HB
                                    have BK105 := n0_
                                    have HB := n1_
                                    clear n0_ n1_
                                    (try clear hb)
                                    (try clear hb2)
                                    (try clear hk)
                                    (try clear hi)
                                    refine hK.out _ _ ⟨(blk_cell BK105.out 0).trans rfl, (blk_cell BK105.out 1).trans rfl, (blk_cell BK105.out 2).trans rfl, (blk_cell BK105.out 3).trans rfl, (blk_cell BK105.out 4).trans rfl⟩ (fun hHeld => ?_)
                                    clear hK K
                                    refine norm_ (a' := ?_) ?_ ?_
                                    rotate_left
                                    · show Act.put _ (some 39) _ = _
                                      simp only [Act.put, List.setIfInBounds_toArray, List.set_cons_zero, List.set_cons_succ, i64_w, i32_w]
                                      rfl
                                    exact norm_ (by first | (simp only [putAll, Act.put, List.setIfInBounds_toArray, List.set_cons_zero, List.set_cons_succ]; done) | (simp only [putAll, Act.put, List.setIfInBounds_toArray, List.set_cons_zero, List.set_cons_succ]; rfl)) (hJ7_12_17_22 () _ ⟨hHeld, (by (with_reducible repeat (first | refine blk_drewN ?_ _ | refine blk_drew ?_ | refine blk_alloc ?_ _)); exact BK105.out), (by repeat (first | (with_reducible first | exact HB.out | apply below_alloc | apply pw_below_drewN | apply below_drew1 | refine below_set ?_ GE105.out) | exact HB.out))⟩)
                              · skip
                                rintro v107 w23 ⟨hS_, h0_, h1_, h2_⟩
                                have n0_ : Aside0 (Kd.R (Kd.int .u8) 5 w23 w.heap.size (fun _ => True) v107 y106) := ⟨h0_⟩
                                have n1_ : Aside0 (w23.heap[gb105]? = some (.cells #[.int .u8 a0_0, .int .u32 a0_1, .int .u16 a0_2, .int .u32 a0_3, .int .u32 a0_4] 26 (0, 0))) := ⟨h1_⟩
                                have n2_ : Aside0 (Below w.heap.size w w23) := ⟨h2_⟩
                                clear BK105
                                clear HB
                                clear h0_ h1_ h2_
                                have HO108 := n0_
                                have BK105 := n1_
                                have HB := n2_
                                clear n0_ n1_ n2_
                                have hHeld : w23.cell? ⟨gb105, 0, none⟩ = some (.int .u8 a0_0) ∧ w23.cell? ⟨gb105, 1, none⟩ = some (.int .u32 a0_1) ∧ w23.cell? ⟨gb105, 2, none⟩ = some (.int .u16 a0_2) ∧ w23.cell? ⟨gb105, 3, none⟩ = some (.int .u32 a0_3) ∧ w23.cell? ⟨gb105, 4, none⟩ = some (.int .u32 a0_4) := hS_
                                refine norm_ (a' := ?_) ?_ ?_
                                rotate_left
                                · simp only [putAll, Act.put, List.setIfInBounds_toArray, List.set_cons_zero, List.set_cons_succ]
                                  rfl
                                refine two_ (i := 3) (j := 17) (Ni := some 20) (Nj := some 34) #[true, true, true, true, true, true, true, true, false, true, true, true, true, false, true, true, true, false, false, true, true, true, false, false, false, false] #[true, true, true, false, true, true, true, true, false, true, true, true, true, false, true, true, true, true, false, true, true, true, false, false, false, false] rfl rfl rfl rfl (two_of HT_.out (by kernel_rfl)) (by decide) (by decide) (fun K hK => ?_) (fun K hK => ?_)
                                · skip
                                  have hcv24 := own_string (P := Tryz.prog) Tryz.underlying30 Tryz.underlying5 Tryz.underlying9 (Kd.own_of_R HO108.out)
                                  refine value_ (w1 := ?_) (v := ?_) (by rfl) rfl ?_ ?_
                                  rotate_left 2
                                  · go_simp
                                    constructor
                                    · rfl
                                    · rfl
                                  clear hcv24
                                  refine hK.out _ _ ⟨(blk_cell BK105.out 0).trans rfl, (blk_cell BK105.out 1).trans rfl, (blk_cell BK105.out 2).trans rfl, (blk_cell BK105.out 3).trans rfl, (blk_cell BK105.out 4).trans rfl⟩ (fun hHeld => ?_)
                                  clear hK K
                                  refine norm_ (a' := ?_) ?_ ?_
                                  rotate_left
                                  · show Act.put _ (some 20) _ = _
                                    simp only [Act.put, List.setIfInBounds_toArray, List.set_cons_zero, List.set_cons_succ, i64_w, i32_w]
                                    rfl
                                  refine pure_ (i := 8) (N := some 25) (v := ?_) (a' := ?_) #[true, true, true, true, true, true, true, true, true, true, true, true, true, false, true, true, true, false, false, true, true, true, false, false, false, false] rfl rfl (any_of HT_.out (by kernel_rfl)) (fun _ _ _ h => h) (Or.inl ⟨by rfl, ?_⟩) ?_ ?_
                                  rotate_left
                                  · intro w'
                                    go_simp
                                    with_reducible rfl
                                  rotate_left
                                  · simp only [Act.put, List.setIfInBounds_toArray, List.set_cons_zero, List.set_cons_succ, i64_w, i32_w]
                                    rfl
                                  refine pure_ (i := 13) (N := some 30) (v := ?_) (a' := ?_) #[true, true, true, true, true, true, true, true, true, true, true, true, true, true, true, true, true, false, false, true, true, true, false, false, false, false] rfl rfl (any_of HT_.out (by kernel_rfl)) (fun _ _ _ h => h) (Or.inl ⟨by rfl, ?_⟩) ?_ ?_
                                  rotate_left
                                  · intro w'
                                    go_simp
                                    with_reducible rfl
                                  rotate_left
                                  · simp only [Act.put, List.setIfInBounds_toArray, List.set_cons_zero, List.set_cons_succ, i64_w, i32_w]
                                    rfl
                                  exact norm_ (by first | (simp only [putAll, Act.put, List.setIfInBounds_toArray, List.set_cons_zero, List.set_cons_succ]; done) | (simp only [putAll, Act.put, List.setIfInBounds_toArray, List.set_cons_zero, List.set_cons_succ]; rfl)) (hJ2_3_7_12 (v107) _ ⟨hHeld, (by (with_reducible repeat (first | apply Kd.R_alloc | apply Kd.R_drewN | apply Kd.R_drew)); exact HO108.out), (by (with_reducible repeat (first | refine blk_drewN ?_ _ | refine blk_drew ?_ | refine blk_alloc ?_ _)); exact BK105.out), (by repeat (first | (with_reducible first | exact HB.out | apply below_alloc | apply pw_below_drewN | apply below_drew1 | refine below_set ?_ GE105.out) | exact HB.out))⟩)
                                · skip
                                  refine goes_ Tryz.func8 (by kernel_rfl) rfl #[.int .u64 (IntKind.u64.wrap (a0_3)), .int .i64 3] (by rfl) rfl rfl (by (try simp only [List.map_toArray, List.map_cons, List.map_nil]); first | done | rfl | (simp only [List.length_drop, List.length_take]; rfl)) ?_
                                  with_reducible refine (spec_recNum.calls kj1 (IntKind.u64.wrap (a0_3)) 3 t111 _ A14.out).mono ?_
                                  rintro e w24 ⟨rfl, hb⟩
                                  refine ⟨_, rfl, ?_⟩
                                  have n0_ := Aside0.mk (Kd.R_below (by (with_reducible repeat (first | apply Kd.R_alloc | apply Kd.R_drewN | apply Kd.R_drew)); exact HO108.out) hb)
                                  have n1_ := Aside0.mk (blk_below (g := gb105) (o := .cells #[.int .u8 a0_0, .int .u32 a0_1, .int .u16 a0_2, .int .u32 a0_3, .int .u32 a0_4] 26 (0, 0)) (by (with_reducible repeat (first | refine blk_drewN ?_ _ | refine blk_drew ?_ | refine blk_alloc ?_ _)); exact BK105.out) hb)
                                  have n2_ := Aside0.mk (below_step (by repeat (first | (with_reducible first | exact HB.out | apply below_alloc | apply pw_below_drewN | apply below_drew1 | refine below_set ?_ GE105.out) | exact HB.out)) hb)
                                  clear HO108
                                  clear BK105
                                  clear HB
                                  have HO108 := n0_
                                  have BK105 := n1_
                                  have HB := n2_
                                  clear n0_ n1_ n2_
                                  (try clear hb)
                                  (try clear hb2)
                                  (try clear hk)
                                  (try clear hi)
                                  refine hK.out _ _ ⟨(blk_cell BK105.out 0).trans rfl, (blk_cell BK105.out 1).trans rfl, (blk_cell BK105.out 2).trans rfl, (blk_cell BK105.out 3).trans rfl, (blk_cell BK105.out 4).trans rfl⟩ (fun hHeld => ?_)
                                  clear hK K
                                  refine norm_ (a' := ?_) ?_ ?_
                                  rotate_left
                                  · show Act.put _ (some 34) _ = _
                                    simp only [Act.put, List.setIfInBounds_toArray, List.set_cons_zero, List.set_cons_succ, i64_w, i32_w]
                                    rfl
                                  exact norm_ (by first | (simp only [putAll, Act.put, List.setIfInBounds_toArray, List.set_cons_zero, List.set_cons_succ]; done) | (simp only [putAll, Act.put, List.setIfInBounds_toArray, List.set_cons_zero, List.set_cons_succ]; rfl)) (hJ2_7_12_17 (v107) _ ⟨hHeld, (by (with_reducible repeat (first | apply Kd.R_alloc | apply Kd.R_drewN | apply Kd.R_drew)); exact HO108.out), (by (with_reducible repeat (first | refine blk_drewN ?_ _ | refine blk_drew ?_ | refine blk_alloc ?_ _)); exact BK105.out), (by repeat (first | (with_reducible first | exact HB.out | apply below_alloc | apply pw_below_drewN | apply below_drew1 | refine below_set ?_ GE105.out) | exact HB.out))⟩)
                            · skip
                              rintro v107 w23 ⟨hS_, h0_, h1_, h2_⟩
                              have n0_ : Aside0 (Kd.R (Kd.int .u8) 5 w23 w.heap.size (fun _ => True) v107 y106) := ⟨h0_⟩
                              have n1_ : Aside0 (w23.heap[gb105]? = some (.cells #[.int .u8 a0_0, .int .u32 a0_1, .int .u16 a0_2, .int .u32 a0_3, .int .u32 a0_4] 26 (0, 0))) := ⟨h1_⟩
                              have n2_ : Aside0 (Below w.heap.size w w23) := ⟨h2_⟩
                              clear BK105
                              clear HB
                              clear h0_ h1_ h2_
                              have HO108 := n0_
                              have BK105 := n1_
                              have HB := n2_
                              clear n0_ n1_ n2_
                              have hHeld : w23.cell? ⟨gb105, 0, none⟩ = some (.int .u8 a0_0) ∧ w23.cell? ⟨gb105, 1, none⟩ = some (.int .u32 a0_1) ∧ w23.cell? ⟨gb105, 2, none⟩ = some (.int .u16 a0_2) ∧ w23.cell? ⟨gb105, 3, none⟩ = some (.int .u32 a0_3) ∧ w23.cell? ⟨gb105, 4, none⟩ = some (.int .u32 a0_4) := hS_
                              refine norm_ (a' := ?_) ?_ ?_
                              rotate_left
                              · simp only [putAll, Act.put, List.setIfInBounds_toArray, List.set_cons_zero, List.set_cons_succ]
                                rfl
                              refine one_ (i := 12) (N := some 29) #[true, true, true, true, true, true, true, true, true, true, true, true, true, false, true, true, true, false, false, true, true, true, false, false, false, false] rfl rfl (one_of HT_.out (by kernel_rfl)) (by decide) (fun K hK => ?_)
                              refine goes_ Tryz.func8 (by kernel_rfl) rfl #[.int .u64 (IntKind.u64.wrap (a0_2)), .int .i64 2] (by rfl) rfl rfl (by (try simp only [List.map_toArray, List.map_cons, List.map_nil]); first | done | rfl | (simp only [List.length_drop, List.length_take]; rfl)) ?_
                              with_reducible refine (spec_recNum.calls kj1 (IntKind.u64.wrap (a0_2)) 2 t110 _ A12.out).mono ?_
                              rintro e w24 ⟨rfl, hb⟩
                              refine ⟨_, rfl, ?_⟩
                              have n0_ := Aside0.mk (Kd.R_below (by (with_reducible repeat (first | apply Kd.R_alloc | apply Kd.R_drewN | apply Kd.R_drew)); exact HO108.out) hb)
                              have n1_ := Aside0.mk (blk_below (g := gb105) (o := .cells #[.int .u8 a0_0, .int .u32 a0_1, .int .u16 a0_2, .int .u32 a0_3, .int .u32 a0_4] 26 (0, 0)) (by (with_reducible repeat (first | refine blk_drewN ?_ _ | refine blk_drew ?_ | refine blk_alloc ?_ _)); exact BK105.out) hb)
                              have n2_ := Aside0.mk (below_step (by repeat (first | (with_reducible first | exact HB.out | apply below_alloc | apply pw_below_drewN | apply below_drew1 | refine below_set ?_ GE105.out) | exact HB.out)) hb)
                              clear HO108
                              clear BK105
                              clear HB
                              have HO108 := n0_
                              have BK105 := n1_
                              have HB := n2_
                              clear n0_ n1_ n2_
                              (try clear hb)
                              (try clear hb2)
                              (try clear hk)
                              (try clear hi)
                              refine hK.out _ _ ⟨(blk_cell BK105.out 0).trans rfl, (blk_cell BK105.out 1).trans rfl, (blk_cell BK105.out 2).trans rfl, (blk_cell BK105.out 3).trans rfl, (blk_cell BK105.out 4).trans rfl⟩ (fun hHeld => ?_)
                              clear hK K
                              refine norm_ (a' := ?_) ?_ ?_
                              rotate_left
                              · show Act.put _ (some 29) _ = _
                                simp only [Act.put, List.setIfInBounds_toArray, List.set_cons_zero, List.set_cons_succ, i64_w, i32_w]
                                rfl
                              refine pure_ (i := 13) (N := some 30) (v := ?_) (a' := ?_) #[true, true, true, true, true, true, true, true, true, true, true, true, true, true, true, true, true, false, false, true, true, true, false, false, false, false] rfl rfl (any_of HT_.out (by kernel_rfl)) (fun _ _ _ h => h) (Or.inl ⟨by rfl, ?_⟩) ?_ ?_
                              rotate_left
                              · intro w'
                                go_simp
                                with_reducible rfl
                              rotate_left
                              · simp only [Act.put, List.setIfInBounds_toArray, List.set_cons_zero, List.set_cons_succ, i64_w, i32_w]
                                rfl
                              exact norm_ (by first | (simp only [putAll, Act.put, List.setIfInBounds_toArray, List.set_cons_zero, List.set_cons_succ]; done) | (simp only [putAll, Act.put, List.setIfInBounds_toArray, List.set_cons_zero, List.set_cons_succ]; rfl)) (hJ2_3_7_12 (v107) _ ⟨hHeld, (by (with_reducible repeat (first | apply Kd.R_alloc | apply Kd.R_drewN | apply Kd.R_drew)); exact HO108.out), (by (with_reducible repeat (first | refine blk_drewN ?_ _ | refine blk_drew ?_ | refine blk_alloc ?_ _)); exact BK105.out), (by repeat (first | (with_reducible first | exact HB.out | apply below_alloc | apply pw_below_drewN | apply below_drew1 | refine below_set ?_ GE105.out) | exact HB.out))⟩)
                          · skip
                            rintro _ w23 ⟨hS_, h0_, h1_⟩
                            have n0_ : Aside0 (w23.heap[gb105]? = some (.cells #[.int .u8 a0_0, .int .u32 a0_1, .int .u16 a0_2, .int .u32 a0_3, .int .u32 a0_4] 26 (0, 0))) := ⟨h0_⟩
                            have n1_ : Aside0 (Below w.heap.size w w23) := ⟨h1_⟩
                            clear BK105
                            clear HB
                            clear h0_ h1_
                            have BK105 := n0_
                            have HB := n1_
                            clear n0_ n1_
                            have hHeld : w23.cell? ⟨gb105, 0, none⟩ = some (.int .u8 a0_0) ∧ w23.cell? ⟨gb105, 1, none⟩ = some (.int .u32 a0_1) ∧ w23.cell? ⟨gb105, 2, none⟩ = some (.int .u16 a0_2) ∧ w23.cell? ⟨gb105, 3, none⟩ = some (.int .u32 a0_3) ∧ w23.cell? ⟨gb105, 4, none⟩ = some (.int .u32 a0_4) := hS_
                            refine norm_ (a' := ?_) ?_ ?_
                            rotate_left
                            · simp only [putAll, Act.put, List.setIfInBounds_toArray, List.set_cons_zero, List.set_cons_succ]
                              rfl
                            refine one_ (i := 2) (N := some 19) #[true, true, true, false, true, true, true, true, false, true, true, true, true, false, true, true, true, true, false, true, true, true, true, false, false, false] rfl rfl (one_of HT_.out (by kernel_rfl)) (by decide) (fun K hK => ?_)
                            refine Kd.R_lit_step (Kd.int .u8) _ 5 ?hg (N := 19) ?hd (xs := ([a0_0] : List Int)) (inner := [.int .u8 a0_0]) (ok := fun _ => True) (okp := fun _ => True) ?hr ?hp (fun _ hk => hk) trivial (Below.refl _ _) (Nat.le_refl _) (by simp) ?_; (case hd => rfl); (case hg => rfl); (case hr => first | (go_simp; done) | (go_simp; rfl)); (case hp => exact (Reps.one (show Kd.M (Kd.int .u8) _ _ _ a0_0 [.int .u8 a0_0] from rfl) (Reps.none _ _)))
                            intro v107 w24 ho25 hb hg_ hnew_
                            clear hg_ hnew_
                            (first | rw [← Ny106.out] at ho25 | (simp only [Int.reduceToNat] at ho25; rw [← Ny106.out] at ho25))
                            have n0_ := Aside0.mk (Kd.R_lower ho25 (below_size (by repeat (first | (with_reducible first | exact HB.out | apply below_alloc | apply pw_below_drewN | apply below_drew1 | refine below_set ?_ GE105.out) | exact HB.out))))
                            have n1_ := Aside0.mk (blk_below (g := gb105) (o := .cells #[.int .u8 a0_0, .int .u32 a0_1, .int .u16 a0_2, .int .u32 a0_3, .int .u32 a0_4] 26 (0, 0)) (by (with_reducible repeat (first | refine blk_drewN ?_ _ | refine blk_drew ?_ | refine blk_alloc ?_ _)); exact BK105.out) hb)
                            have n2_ := Aside0.mk (below_step (by repeat (first | (with_reducible first | exact HB.out | apply below_alloc | apply pw_below_drewN | apply below_drew1 | refine below_set ?_ GE105.out) | exact HB.out)) hb)
                            clear BK105
                            clear HB
                            have HO108 := n0_
                            have BK105 := n1_
                            have HB := n2_
                            clear n0_ n1_ n2_
                            clear hb ho25
                            refine hK.out _ _ ⟨(blk_cell BK105.out 0).trans rfl, (blk_cell BK105.out 1).trans rfl, (blk_cell BK105.out 2).trans rfl, (blk_cell BK105.out 3).trans rfl, (blk_cell BK105.out 4).trans rfl⟩ (fun hHeld => ?_)
                            clear hK K
                            refine norm_ (a' := ?_) ?_ ?_
                            rotate_left
                            · show Act.put _ (some 19) _ = _
                              simp only [Act.put, List.setIfInBounds_toArray, List.set_cons_zero, List.set_cons_succ, i64_w, i32_w]
                              rfl
                            exact norm_ (by first | (simp only [putAll, Act.put, List.setIfInBounds_toArray, List.set_cons_zero, List.set_cons_succ]; done) | (simp only [putAll, Act.put, List.setIfInBounds_toArray, List.set_cons_zero, List.set_cons_succ]; rfl)) (hJ2_7_12_17_22 (v107) _ ⟨hHeld, (by (with_reducible repeat (first | apply Kd.R_alloc | apply Kd.R_drewN | apply Kd.R_drew)); exact HO108.out), (by (with_reducible repeat (first | refine blk_drewN ?_ _ | refine blk_drew ?_ | refine blk_alloc ?_ _)); exact BK105.out), (by repeat (first | (with_reducible first | exact HB.out | apply below_alloc | apply pw_below_drewN | apply below_drew1 | refine below_set ?_ GE105.out) | exact HB.out))⟩)
                        · skip
                          rintro v107 w24 ⟨hS_, h0_, h1_, h2_⟩
                          have n0_ : Aside0 (Kd.R (Kd.int .u8) 5 w24 w.heap.size (fun _ => True) v107 y106) := ⟨h0_⟩
                          have n1_ : Aside0 (w24.heap[gb105]? = some (.cells #[.int .u8 a0_0, .int .u32 a0_1, .int .u16 a0_2, .int .u32 a0_3, .int .u32 a0_4] 26 (0, 0))) := ⟨h1_⟩
                          have n2_ : Aside0 (Below w.heap.size w w24) := ⟨h2_⟩
                          clear BK105
                          clear HB
                          clear h0_ h1_ h2_
                          have HO108 := n0_
                          have BK105 := n1_
                          have HB := n2_
                          clear n0_ n1_ n2_
                          have hHeld : w24.cell? ⟨gb105, 0, none⟩ = some (.int .u8 a0_0) ∧ w24.cell? ⟨gb105, 1, none⟩ = some (.int .u32 a0_1) ∧ w24.cell? ⟨gb105, 2, none⟩ = some (.int .u16 a0_2) ∧ w24.cell? ⟨gb105, 3, none⟩ = some (.int .u32 a0_3) ∧ w24.cell? ⟨gb105, 4, none⟩ = some (.int .u32 a0_4) := hS_
                          refine norm_ (a' := ?_) ?_ ?_
                          rotate_left
                          · simp only [putAll, Act.put, List.setIfInBounds_toArray, List.set_cons_zero, List.set_cons_succ]
                            rfl
                          refine two_ (i := 3) (j := 22) (Ni := some 20) (Nj := some 39) #[true, true, true, true, true, true, true, true, false, true, true, true, true, false, true, true, true, true, false, true, true, true, false, false, false, false] #[true, true, true, false, true, true, true, true, false, true, true, true, true, false, true, true, true, true, false, true, true, true, true, false, false, false] rfl rfl rfl rfl (two_of HT_.out (by kernel_rfl)) (by decide) (by decide) (fun K hK => ?_) (fun K hK => ?_)
                          · skip
                            have hcv25 := own_string (P := Tryz.prog) Tryz.underlying30 Tryz.underlying5 Tryz.underlying9 (Kd.own_of_R HO108.out)
                            refine value_ (w1 := ?_) (v := ?_) (by rfl) rfl ?_ ?_
                            rotate_left 2
                            · go_simp
                              constructor
                              · rfl
                              · rfl
                            clear hcv25
                            refine hK.out _ _ ⟨(blk_cell BK105.out 0).trans rfl, (blk_cell BK105.out 1).trans rfl, (blk_cell BK105.out 2).trans rfl, (blk_cell BK105.out 3).trans rfl, (blk_cell BK105.out 4).trans rfl⟩ (fun hHeld => ?_)
                            clear hK K
                            refine norm_ (a' := ?_) ?_ ?_
                            rotate_left
                            · show Act.put _ (some 20) _ = _
                              simp only [Act.put, List.setIfInBounds_toArray, List.set_cons_zero, List.set_cons_succ, i64_w, i32_w]
                              rfl
                            refine pure_ (i := 8) (N := some 25) (v := ?_) (a' := ?_) #[true, true, true, true, true, true, true, true, true, true, true, true, true, false, true, true, true, true, false, true, true, true, false, false, false, false] rfl rfl (any_of HT_.out (by kernel_rfl)) (fun _ _ _ h => h) (Or.inl ⟨by rfl, ?_⟩) ?_ ?_
                            rotate_left
                            · intro w'
                              go_simp
                              with_reducible rfl
                            rotate_left
                            · simp only [Act.put, List.setIfInBounds_toArray, List.set_cons_zero, List.set_cons_succ, i64_w, i32_w]
                              rfl
                            refine pure_ (i := 13) (N := some 30) (v := ?_) (a' := ?_) #[true, true, true, true, true, true, true, true, true, true, true, true, true, true, true, true, true, true, false, true, true, true, false, false, false, false] rfl rfl (any_of HT_.out (by kernel_rfl)) (fun _ _ _ h => h) (Or.inl ⟨by rfl, ?_⟩) ?_ ?_
                            rotate_left
                            · intro w'
                              go_simp
                              with_reducible rfl
                            rotate_left
                            · simp only [Act.put, List.setIfInBounds_toArray, List.set_cons_zero, List.set_cons_succ, i64_w, i32_w]
                              rfl
                            refine pure_ (i := 18) (N := some 35) (v := ?_) (a' := ?_) #[true, true, true, true, true, true, true, true, true, true, true, true, true, true, true, true, true, true, true, true, true, true, false, false, false, false] rfl rfl (any_of HT_.out (by kernel_rfl)) (fun _ _ _ h => h) (Or.inl ⟨by rfl, ?_⟩) ?_ ?_
                            rotate_left
                            · intro w'
                              go_simp
                              with_reducible rfl
                            rotate_left
                            · simp only [Act.put, List.setIfInBounds_toArray, List.set_cons_zero, List.set_cons_succ, i64_w, i32_w]
                              rfl
                            exact norm_ (by first | (simp only [putAll, Act.put, List.setIfInBounds_toArray, List.set_cons_zero, List.set_cons_succ]; done) | (simp only [putAll, Act.put, List.setIfInBounds_toArray, List.set_cons_zero, List.set_cons_succ]; rfl)) (hJ2_3_7_12_17 (v107) _ ⟨hHeld, (by (with_reducible repeat (first | apply Kd.R_alloc | apply Kd.R_drewN | apply Kd.R_drew)); exact HO108.out), (by (with_reducible repeat (first | refine blk_drewN ?_ _ | refine blk_drew ?_ | refine blk_alloc ?_ _)); exact BK105.out), (by repeat (first | (with_reducible first | exact HB.out | apply below_alloc | apply pw_below_drewN | apply below_drew1 | refine below_set ?_ GE105.out) | exact HB.out))⟩)
                          · skip
                            refine goes_ Tryz.func8 (by kernel_rfl) rfl #[.int .u64 (IntKind.u64.wrap (a0_4)), .int .i64 3] (by rfl) rfl rfl (by (try simp only [List.map_toArray, List.map_cons, List.map_nil]); first | done | rfl | (simp only [List.length_drop, List.length_take]; rfl)) ?_
                            with_reducible refine (spec_recNum.calls kj1 (IntKind.u64.wrap (a0_4)) 3 t112 _ A16.out).mono ?_
                            rintro e w25 ⟨rfl, hb⟩
                            refine ⟨_, rfl, ?_⟩
                            have n0_ := Aside0.mk (Kd.R_below (by (with_reducible repeat (first | apply Kd.R_alloc | apply Kd.R_drewN | apply Kd.R_drew)); exact HO108.out) hb)
                            have n1_ := Aside0.mk (blk_below (g := gb105) (o := .cells #[.int .u8 a0_0, .int .u32 a0_1, .int .u16 a0_2, .int .u32 a0_3, .int .u32 a0_4] 26 (0, 0)) (by (with_reducible repeat (first | refine blk_drewN ?_ _ | refine blk_drew ?_ | refine blk_alloc ?_ _)); exact BK105.out) hb)
                            have n2_ := Aside0.mk (below_step (by repeat (first | (with_reducible first | exact HB.out | apply below_alloc | apply pw_below_drewN | apply below_drew1 | refine below_set ?_ GE105.out) | exact HB.out)) hb)
                            clear HO108
                            clear BK105
                            clear HB
                            have HO108 := n0_
                            have BK105 := n1_
                            have HB := n2_
                            clear n0_ n1_ n2_
                            (try clear hb)
                            (try clear hb2)
                            (try clear hk)
                            (try clear hi)
                            refine hK.out _ _ ⟨(blk_cell BK105.out 0).trans rfl, (blk_cell BK105.out 1).trans rfl, (blk_cell BK105.out 2).trans rfl, (blk_cell BK105.out 3).trans rfl, (blk_cell BK105.out 4).trans rfl⟩ (fun hHeld => ?_)
                            clear hK K
                            refine norm_ (a' := ?_) ?_ ?_
                            rotate_left
                            · show Act.put _ (some 39) _ = _
                              simp only [Act.put, List.setIfInBounds_toArray, List.set_cons_zero, List.set_cons_succ, i64_w, i32_w]
                              rfl
                            exact norm_ (by first | (simp only [putAll, Act.put, List.setIfInBounds_toArray, List.set_cons_zero, List.set_cons_succ]; done) | (simp only [putAll, Act.put, List.setIfInBounds_toArray, List.set_cons_zero, List.set_cons_succ]; rfl)) (hJ2_7_12_17_22 (v107) _ ⟨hHeld, (by (with_reducible repeat (first | apply Kd.R_alloc | apply Kd.R_drewN | apply Kd.R_drew)); exact HO108.out), (by (with_reducible repeat (first | refine blk_drewN ?_ _ | refine blk_drew ?_ | refine blk_alloc ?_ _)); exact BK105.out), (by repeat (first | (with_reducible first | exact HB.out | apply below_alloc | apply pw_below_drewN | apply below_drew1 | refine below_set ?_ GE105.out) | exact HB.out))⟩)
                      · skip
                        rintro v107 w24 ⟨hS_, h0_, h1_, h2_⟩
                        have n0_ : Aside0 (Kd.R (Kd.int .u8) 5 w24 w.heap.size (fun _ => True) v107 y106) := ⟨h0_⟩
                        have n1_ : Aside0 (w24.heap[gb105]? = some (.cells #[.int .u8 a0_0, .int .u32 a0_1, .int .u16 a0_2, .int .u32 a0_3, .int .u32 a0_4] 26 (0, 0))) := ⟨h1_⟩
                        have n2_ : Aside0 (Below w.heap.size w w24) := ⟨h2_⟩
                        clear BK105
                        clear HB
                        clear h0_ h1_ h2_
                        have HO108 := n0_
                        have BK105 := n1_
                        have HB := n2_
                        clear n0_ n1_ n2_
                        have hHeld : w24.cell? ⟨gb105, 0, none⟩ = some (.int .u8 a0_0) ∧ w24.cell? ⟨gb105, 1, none⟩ = some (.int .u32 a0_1) ∧ w24.cell? ⟨gb105, 2, none⟩ = some (.int .u16 a0_2) ∧ w24.cell? ⟨gb105, 3, none⟩ = some (.int .u32 a0_3) ∧ w24.cell? ⟨gb105, 4, none⟩ = some (.int .u32 a0_4) := hS_
                        refine norm_ (a' := ?_) ?_ ?_
                        rotate_left
                        · simp only [putAll, Act.put, List.setIfInBounds_toArray, List.set_cons_zero, List.set_cons_succ]
                          rfl
                        refine one_ (i := 17) (N := some 34) #[true, true, true, true, true, true, true, true, true, true, true, true, true, true, true, true, true, true, false, true, true, true, false, false, false, false] rfl rfl (one_of HT_.out (by kernel_rfl)) (by decide) (fun K hK => ?_)
                        refine goes_ Tryz.func8 (by kernel_rfl) rfl #[.int .u64 (IntKind.u64.wrap (a0_3)), .int .i64 3] (by rfl) rfl rfl (by (try simp only [List.map_toArray, List.map_cons, List.map_nil]); first | done | rfl | (simp only [List.length_drop, List.length_take]; rfl)) ?_
                        with_reducible refine (spec_recNum.calls kj1 (IntKind.u64.wrap (a0_3)) 3 t111 _ A14.out).mono ?_
                        rintro e w25 ⟨rfl, hb⟩
                        refine ⟨_, rfl, ?_⟩
                        have n0_ := Aside0.mk (Kd.R_below (by (with_reducible repeat (first | apply Kd.R_alloc | apply Kd.R_drewN | apply Kd.R_drew)); exact HO108.out) hb)
                        have n1_ := Aside0.mk (blk_below (g := gb105) (o := .cells #[.int .u8 a0_0, .int .u32 a0_1, .int .u16 a0_2, .int .u32 a0_3, .int .u32 a0_4] 26 (0, 0)) (by (with_reducible repeat (first | refine blk_drewN ?_ _ | refine blk_drew ?_ | refine blk_alloc ?_ _)); exact BK105.out) hb)
                        have n2_ := Aside0.mk (below_step (by repeat (first | (with_reducible first | exact HB.out | apply below_alloc | apply pw_below_drewN | apply below_drew1 | refine below_set ?_ GE105.out) | exact HB.out)) hb)
                        clear HO108
                        clear BK105
                        clear HB
                        have HO108 := n0_
                        have BK105 := n1_
                        have HB := n2_
                        clear n0_ n1_ n2_
                        (try clear hb)
                        (try clear hb2)
                        (try clear hk)
                        (try clear hi)
                        refine hK.out _ _ ⟨(blk_cell BK105.out 0).trans rfl, (blk_cell BK105.out 1).trans rfl, (blk_cell BK105.out 2).trans rfl, (blk_cell BK105.out 3).trans rfl, (blk_cell BK105.out 4).trans rfl⟩ (fun hHeld => ?_)
                        clear hK K
                        refine norm_ (a' := ?_) ?_ ?_
                        rotate_left
                        · show Act.put _ (some 34) _ = _
                          simp only [Act.put, List.setIfInBounds_toArray, List.set_cons_zero, List.set_cons_succ, i64_w, i32_w]
                          rfl
                        refine pure_ (i := 18) (N := some 35) (v := ?_) (a' := ?_) #[true, true, true, true, true, true, true, true, true, true, true, true, true, true, true, true, true, true, true, true, true, true, false, false, false, false] rfl rfl (any_of HT_.out (by kernel_rfl)) (fun _ _ _ h => h) (Or.inl ⟨by rfl, ?_⟩) ?_ ?_
                        rotate_left
                        · intro w'
                          go_simp
                          with_reducible rfl
                        rotate_left
                        · simp only [Act.put, List.setIfInBounds_toArray, List.set_cons_zero, List.set_cons_succ, i64_w, i32_w]
                          rfl
                        exact norm_ (by first | (simp only [putAll, Act.put, List.setIfInBounds_toArray, List.set_cons_zero, List.set_cons_succ]; done) | (simp only [putAll, Act.put, List.setIfInBounds_toArray, List.set_cons_zero, List.set_cons_succ]; rfl)) (hJ2_3_7_12_17 (v107) _ ⟨hHeld, (by (with_reducible repeat (first | apply Kd.R_alloc | apply Kd.R_drewN | apply Kd.R_drew)); exact HO108.out), (by (with_reducible repeat (first | refine blk_drewN ?_ _ | refine blk_drew ?_ | refine blk_alloc ?_ _)); exact BK105.out), (by repeat (first | (with_reducible first | exact HB.out | apply below_alloc | apply pw_below_drewN | apply below_drew1 | refine below_set ?_ GE105.out) | exact HB.out))⟩)
                    · skip
                      rintro v107 w25 ⟨hS_, h0_, h1_, h2_⟩
                      have n0_ : Aside0 (Kd.R (Kd.int .u8) 5 w25 w.heap.size (fun _ => True) v107 y106) := ⟨h0_⟩
                      have n1_ : Aside0 (w25.heap[gb105]? = some (.cells #[.int .u8 a0_0, .int .u32 a0_1, .int .u16 a0_2, .int .u32 a0_3, .int .u32 a0_4] 26 (0, 0))) := ⟨h1_⟩
                      have n2_ : Aside0 (Below w.heap.size w w25) := ⟨h2_⟩
                      clear BK105
                      clear HB
                      clear h0_ h1_ h2_
                      have HO108 := n0_
                      have BK105 := n1_
                      have HB := n2_
                      clear n0_ n1_ n2_
                      have hHeld : w25.cell? ⟨gb105, 0, none⟩ = some (.int .u8 a0_0) ∧ w25.cell? ⟨gb105, 1, none⟩ = some (.int .u32 a0_1) ∧ w25.cell? ⟨gb105, 2, none⟩ = some (.int .u16 a0_2) ∧ w25.cell? ⟨gb105, 3, none⟩ = some (.int .u32 a0_3) ∧ w25.cell? ⟨gb105, 4, none⟩ = some (.int .u32 a0_4) := hS_
                      refine norm_ (a' := ?_) ?_ ?_
                      rotate_left
                      · simp only [putAll, Act.put, List.setIfInBounds_toArray, List.set_cons_zero, List.set_cons_succ]
                        rfl
                      refine one_ (i := 3) (N := some 20) #[true, true, true, true, true, true, true, true, false, true, true, true, true, false, true, true, true, true, false, true, true, true, true, false, false, false] rfl rfl (one_of HT_.out (by kernel_rfl)) (by decide) (fun K hK => ?_)
                      have hcv26 := own_string (P := Tryz.prog) Tryz.underlying30 Tryz.underlying5 Tryz.underlying9 (Kd.own_of_R HO108.out)
                      refine value_ (w1 := ?_) (v := ?_) (by rfl) rfl ?_ ?_
                      rotate_left 2
                      · go_simp
                        constructor
                        · rfl
                        · rfl
                      clear hcv26
                      refine hK.out _ _ ⟨(blk_cell BK105.out 0).trans rfl, (blk_cell BK105.out 1).trans rfl, (blk_cell BK105.out 2).trans rfl, (blk_cell BK105.out 3).trans rfl, (blk_cell BK105.out 4).trans rfl⟩ (fun hHeld => ?_)
                      clear hK K
                      refine norm_ (a' := ?_) ?_ ?_
                      rotate_left
                      · show Act.put _ (some 20) _ = _
                        simp only [Act.put, List.setIfInBounds_toArray, List.set_cons_zero, List.set_cons_succ, i64_w, i32_w]
                        rfl
                      refine pure_ (i := 8) (N := some 25) (v := ?_) (a' := ?_) #[true, true, true, true, true, true, true, true, true, true, true, true, true, false, true, true, true, true, false, true, true, true, true, false, false, false] rfl rfl (any_of HT_.out (by kernel_rfl)) (fun _ _ _ h => h) (Or.inl ⟨by rfl, ?_⟩) ?_ ?_
                      rotate_left
                      · intro w'
                        go_simp
                        with_reducible rfl
                      rotate_left
                      · simp only [Act.put, List.setIfInBounds_toArray, List.set_cons_zero, List.set_cons_succ, i64_w, i32_w]
                        rfl
                      refine pure_ (i := 13) (N := some 30) (v := ?_) (a' := ?_) #[true, true, true, true, true, true, true, true, true, true, true, true, true, true, true, true, true, true, false, true, true, true, true, false, false, false] rfl rfl (any_of HT_.out (by kernel_rfl)) (fun _ _ _ h => h) (Or.inl ⟨by rfl, ?_⟩) ?_ ?_
                      rotate_left
                      · intro w'
                        go_simp
                        with_reducible rfl
                      rotate_left
                      · simp only [Act.put, List.setIfInBounds_toArray, List.set_cons_zero, List.set_cons_succ, i64_w, i32_w]
                        rfl
                      refine pure_ (i := 18) (N := some 35) (v := ?_) (a' := ?_) #[true, true, true, true, true, true, true, true, true, true, true, true, true, true, true, true, true, true, true, true, true, true, true, false, false, false] rfl rfl (any_of HT_.out (by kernel_rfl)) (fun _ _ _ h => h) (Or.inl ⟨by rfl, ?_⟩) ?_ ?_
                      rotate_left
                      · intro w'
                        go_simp
                        with_reducible rfl
                      rotate_left
                      · simp only [Act.put, List.setIfInBounds_toArray, List.set_cons_zero, List.set_cons_succ, i64_w, i32_w]
                        rfl
                      exact norm_ (by first | (simp only [putAll, Act.put, List.setIfInBounds_toArray, List.set_cons_zero, List.set_cons_succ]; done) | (simp only [putAll, Act.put, List.setIfInBounds_toArray, List.set_cons_zero, List.set_cons_succ]; rfl)) (hJ2_3_7_12_17_22 (v107) _ ⟨hHeld, (by (with_reducible repeat (first | apply Kd.R_alloc | apply Kd.R_drewN | apply Kd.R_drew)); exact HO108.out), (by (with_reducible repeat (first | refine blk_drewN ?_ _ | refine blk_drew ?_ | refine blk_alloc ?_ _)); exact BK105.out), (by repeat (first | (with_reducible first | exact HB.out | apply below_alloc | apply pw_below_drewN | apply below_drew1 | refine below_set ?_ GE105.out) | exact HB.out))⟩)
                  · skip
                    rintro v107 w25 ⟨hS_, h0_, h1_, h2_⟩
                    have n0_ : Aside0 (Kd.R (Kd.int .u8) 5 w25 w.heap.size (fun _ => True) v107 y106) := ⟨h0_⟩
                    have n1_ : Aside0 (w25.heap[gb105]? = some (.cells #[.int .u8 a0_0, .int .u32 a0_1, .int .u16 a0_2, .int .u32 a0_3, .int .u32 a0_4] 26 (0, 0))) := ⟨h1_⟩
                    have n2_ : Aside0 (Below w.heap.size w w25) := ⟨h2_⟩
                    clear BK105
                    clear HB
                    clear h0_ h1_ h2_
                    have HO108 := n0_
                    have BK105 := n1_
                    have HB := n2_
                    clear n0_ n1_ n2_
                    have hHeld : w25.cell? ⟨gb105, 0, none⟩ = some (.int .u8 a0_0) ∧ w25.cell? ⟨gb105, 1, none⟩ = some (.int .u32 a0_1) ∧ w25.cell? ⟨gb105, 2, none⟩ = some (.int .u16 a0_2) ∧ w25.cell? ⟨gb105, 3, none⟩ = some (.int .u32 a0_3) ∧ w25.cell? ⟨gb105, 4, none⟩ = some (.int .u32 a0_4) := hS_
                    refine norm_ (a' := ?_) ?_ ?_
                    rotate_left
                    · simp only [putAll, Act.put, List.setIfInBounds_toArray, List.set_cons_zero, List.set_cons_succ]
                      rfl
                    refine one_ (i := 22) (N := some 39) #[true, true, true, true, true, true, true, true, true, true, true, true, true, true, true, true, true, true, true, true, true, true, true, false, false, false] rfl rfl (one_of HT_.out (by kernel_rfl)) (by decide) (fun K hK => ?_)
                    refine goes_ Tryz.func8 (by kernel_rfl) rfl #[.int .u64 (IntKind.u64.wrap (a0_4)), .int .i64 3] (by rfl) rfl rfl (by (try simp only [List.map_toArray, List.map_cons, List.map_nil]); first | done | rfl | (simp only [List.length_drop, List.length_take]; rfl)) ?_
                    with_reducible refine (spec_recNum.calls kj1 (IntKind.u64.wrap (a0_4)) 3 t112 _ A16.out).mono ?_
                    rintro e w26 ⟨rfl, hb⟩
                    refine ⟨_, rfl, ?_⟩
                    have n0_ := Aside0.mk (Kd.R_below (by (with_reducible repeat (first | apply Kd.R_alloc | apply Kd.R_drewN | apply Kd.R_drew)); exact HO108.out) hb)
                    have n1_ := Aside0.mk (blk_below (g := gb105) (o := .cells #[.int .u8 a0_0, .int .u32 a0_1, .int .u16 a0_2, .int .u32 a0_3, .int .u32 a0_4] 26 (0, 0)) (by (with_reducible repeat (first | refine blk_drewN ?_ _ | refine blk_drew ?_ | refine blk_alloc ?_ _)); exact BK105.out) hb)
                    have n2_ := Aside0.mk (below_step (by repeat (first | (with_reducible first | exact HB.out | apply below_alloc | apply pw_below_drewN | apply below_drew1 | refine below_set ?_ GE105.out) | exact HB.out)) hb)
                    clear HO108
                    clear BK105
                    clear HB
                    have HO108 := n0_
                    have BK105 := n1_
                    have HB := n2_
                    clear n0_ n1_ n2_
                    (try clear hb)
                    (try clear hb2)
                    (try clear hk)
                    (try clear hi)
                    refine hK.out _ _ ⟨(blk_cell BK105.out 0).trans rfl, (blk_cell BK105.out 1).trans rfl, (blk_cell BK105.out 2).trans rfl, (blk_cell BK105.out 3).trans rfl, (blk_cell BK105.out 4).trans rfl⟩ (fun hHeld => ?_)
                    clear hK K
                    refine norm_ (a' := ?_) ?_ ?_
                    rotate_left
                    · show Act.put _ (some 39) _ = _
                      simp only [Act.put, List.setIfInBounds_toArray, List.set_cons_zero, List.set_cons_succ, i64_w, i32_w]
                      rfl
                    exact norm_ (by first | (simp only [putAll, Act.put, List.setIfInBounds_toArray, List.set_cons_zero, List.set_cons_succ]; done) | (simp only [putAll, Act.put, List.setIfInBounds_toArray, List.set_cons_zero, List.set_cons_succ]; rfl)) (hJ2_3_7_12_17_22 (v107) _ ⟨hHeld, (by (with_reducible repeat (first | apply Kd.R_alloc | apply Kd.R_drewN | apply Kd.R_drew)); exact HO108.out), (by (with_reducible repeat (first | refine blk_drewN ?_ _ | refine blk_drew ?_ | refine blk_alloc ?_ _)); exact BK105.out), (by repeat (first | (with_reducible first | exact HB.out | apply below_alloc | apply pw_below_drewN | apply below_drew1 | refine below_set ?_ GE105.out) | exact HB.out))⟩)
                rintro v107 w26 ⟨hS_, h0_, h1_, h2_⟩
                have n0_ : Aside0 (Kd.R (Kd.int .u8) 5 w26 w.heap.size (fun _ => True) v107 y106) := ⟨h0_⟩
                have n1_ : Aside0 (w26.heap[gb105]? = some (.cells #[.int .u8 a0_0, .int .u32 a0_1, .int .u16 a0_2, .int .u32 a0_3, .int .u32 a0_4] 26 (0, 0))) := ⟨h1_⟩
                have n2_ : Aside0 (Below w.heap.size w w26) := ⟨h2_⟩
                clear BK105
                clear HB
                clear h0_ h1_ h2_
                have HO108 := n0_
                have BK105 := n1_
                have HB := n2_
                clear n0_ n1_ n2_
                have hHeld : w26.cell? ⟨gb105, 0, none⟩ = some (.int .u8 a0_0) ∧ w26.cell? ⟨gb105, 1, none⟩ = some (.int .u32 a0_1) ∧ w26.cell? ⟨gb105, 2, none⟩ = some (.int .u16 a0_2) ∧ w26.cell? ⟨gb105, 3, none⟩ = some (.int .u32 a0_3) ∧ w26.cell? ⟨gb105, 4, none⟩ = some (.int .u32 a0_4) := hS_
                refine norm_ (a' := ?_) ?_ ?_
                rotate_left
                · simp only [putAll, Act.put, List.setIfInBounds_toArray, List.set_cons_zero, List.set_cons_succ]
                  rfl
                refine pure_ (i := 23) (N := some 40) (v := ?_) (a' := ?_) #[true, true, true, true, true, true, true, true, true, true, true, true, true, true, true, true, true, true, true, true, true, true, true, true, false, false] rfl rfl (any_of HT_.out (by kernel_rfl)) (fun _ _ _ h => h) (Or.inl ⟨by rfl, ?_⟩) ?_ ?_
                rotate_left
                · intro w'
                  go_simp
                  with_reducible rfl
                rotate_left
                · simp only [Act.put, List.setIfInBounds_toArray, List.set_cons_zero, List.set_cons_succ, i64_w, i32_w]
                  rfl
                refine pure_ (i := 24) (N := some 2) (v := ?_) (a' := ?_) #[true, true, true, true, true, true, true, true, true, true, true, true, true, true, true, true, true, true, true, true, true, true, true, true, true, false] rfl rfl (any_of HT_.out (by kernel_rfl)) (fun _ _ _ h => h) (Or.inl ⟨by rfl, ?_⟩) ?_ ?_
                rotate_left
                · intro w'
                  go_simp
                  with_reducible rfl
                rotate_left
                · simp only [Act.put, List.setIfInBounds_toArray, List.set_cons_zero, List.set_cons_succ, i64_w, i32_w]
                  rfl
                refine pure_ (i := 25) (N := some 3) (v := ?_) (a' := ?_) #[true, true, true, true, true, true, true, true, true, true, true, true, true, true, true, true, true, true, true, true, true, true, true, true, true, true] rfl rfl (any_of HT_.out (by kernel_rfl)) (fun _ _ _ h => h) (Or.inl ⟨by rfl, ?_⟩) ?_ ?_
                rotate_left
                · intro w'
                  go_simp
                  with_reducible rfl
                rotate_left
                · simp only [Act.put, List.setIfInBounds_toArray, List.set_cons_zero, List.set_cons_succ, i64_w, i32_w]
                  rfl
                refine done_ (done_of HT_.out (by kernel_rfl)) ?_
                try go_wp2
                go_ret2
                exact ⟨by first | rfl | (simp [errW_none, errW_some] <;> rfl) | (simp [*, errW_none, errW_some] <;> rfl), by repeat (first | (with_reducible first | exact HB.out | apply below_alloc | apply pw_below_drewN | apply below_drew1 | refine below_set ?_ GE105.out) | exact HB.out)⟩
              · rw [if_neg c17] at H
                exact absurd H (by simp)
            · rw [if_neg c15] at H
              exact absurd H (by simp)
          · rw [if_neg c13] at H
            exact absurd H (by simp)
        · rw [if_neg c11] at H
          exact absurd H (by simp)

end Go.Proofs.YtkagkopjhgnnlaaGreatDoor.PFnHandshakeKind
