/- spec.extBody, by the type (1). -/
import Derived.Test.YtgnmgkpfgmpdfaaGreatDoorSLds
import Derived.Test.YtgnmgkpfgmpdfaaGreatDoorSPlain
set_option linter.unusedVariables false
set_option linter.unusedSimpArgs false
namespace Go.Proofs.YtgnmgkpfgmpdfaaGreatDoor
open Go.RowKit

/-- The bound on an extension's body. -/
def BB (s : ByteArray) (_ : Bool) : Prop := s.size ≤ 1152921504606846976
theorem lss_run {a : Act} {x y : Operand} {m n : Int} {b : Bool} {d : Nat} {g : Option (Nat × Bool)} (ty : TypeId) (pos : String) (af : Array Edge) (hx : a.eval x = .int .i64 m) (hy : a.eval y = .int .i64 n) (h : decide (m < n) = b) (w : World) :
    (execOp a.eval ⟨some d, .binOp .lss 3 x y 3, ty, pos, af, g⟩).run Tryz.prog w = .ok (.value (.bool b)) w := by
  unfold execOp
  simp only [hx, hy]
  simp [go_sem, h]
set_option maxHeartbeats 4000000 in
set_option maxRecDepth 100000 in
theorem ext_0 (d : ED) (w : World) (hx : Ext w d) (hf : Fit d) (h0 : d.x0 = 0) : Calls Tryz.prog 64 #[.agg d.es] w (Said2 BB w) := by
  have H0 := Lib.hid h0
  have HF := Lib.hid hf
  have hB1 : Below w.heap.size w (w.alloc (Obj.cells d.es 69)) := (Below.refl _ _).alloc (Nat.le_refl _) _
  have HX := Lib.hid (hx.below hB1)
  have gS : d.s1.size ≤ 140737488351232 := hx.h1
  clear hx h0 hf
  go_enter Tryz.func64, Tryz.ntmps64
  go_upto_region 1 with fail
  change Code.wp _ _ _ _ (w.alloc (Obj.cells d.es 69))
  have hM1 := heap_alloc_new w (Obj.cells d.es 69)
  generalize w.alloc (Obj.cells d.es 69) = w1 at hB1 hM1 HX ⊢
  have k0 := (bcell hM1 0).trans (es0 d H0.out)
  have HB1 := Lib.hid hB1
  have HM1 := Lib.hid hM1
  clear hB1 hM1
  have k1 := (bcell HM1.out 1).trans (ED.g1 d)
  by_cases c : (d.s1.size : Int) < 65533
  · go_upto_region 3 with fail
    have hS0 : Below w1.heap.size w1 w1.drew := (Below.refl _ _).drew
    refine wp_region_held (S := fun w2 => Below w1.heap.size w1 w2) (by kernel_rfl) ?_
    change wpAnyH _ _ _ _ _ 11 _ _ w1.drew
    refine wpAnyH_takeG (i := 0) (d := 12) (g := none) (op := (Op.fieldAddr 69 (Operand.tmp 1) 1)) (v := .pointer (some ⟨w.heap.size, 1, none⟩)) (by kernel_rfl) (by kernel_rfl) (by kernel_rfl) (by kernel_rfl) (fun _ _ _ h => h) rfl (fun _ _ _ _ _ => by kernel_rfl) hS0 ?_
    refine wpAnyH_ldG (i := 1) (d := 13) (g := none) (t := 9) (x := (Operand.tmp 12)) (p := ⟨w.heap.size, 1, none⟩) (u := .string d.s1) (by kernel_rfl) (by kernel_rfl) (by kernel_rfl) (by kernel_rfl) (fun _ _ _ h => h) rfl (by kernel_rfl) (fun w2 h1 => ld9 w2 _ _ (bcellv h1 k1)) hS0 ?_
    refine wpAnyH_takeG (i := 5) (d := 17) (g := none) (op := (Op.fieldAddr 69 (Operand.tmp 1) 1)) (v := .pointer (some ⟨w.heap.size, 1, none⟩)) (by kernel_rfl) (by kernel_rfl) (by kernel_rfl) (by kernel_rfl) (fun _ _ _ h => h) rfl (fun _ _ _ _ _ => by kernel_rfl) hS0 ?_
    refine wpAnyH_ldG (i := 6) (d := 18) (g := none) (t := 9) (x := (Operand.tmp 17)) (p := ⟨w.heap.size, 1, none⟩) (u := .string d.s1) (by kernel_rfl) (by kernel_rfl) (by kernel_rfl) (by kernel_rfl) (fun _ _ _ h => h) rfl (by kernel_rfl) (fun w2 h1 => ld9 w2 _ _ (bcellv h1 k1)) hS0 ?_
    refine wpAnyH_takeG (i := 7) (d := 19) (g := none) (op := (Op.call { callee := (Callee.builtin Builtin.len), args := #[(Operand.tmp 18)], argTypes := #[9] })) (v := .int .i64 (d.s1.size : Int)) (by kernel_rfl) (by kernel_rfl) (by kernel_rfl) (by kernel_rfl) (fun _ _ _ h => h) rfl (fun _ _ _ _ _ => by kernel_rfl) hS0 ?_
    refine wpAnyH_takeG (i := 8) (d := 20) (g := none) (op := (Op.binOp BinOp.lss 3 (Operand.tmp 19) (Operand.const (Value.int IntKind.i64 65533)) 3)) (v := .bool true) (by kernel_rfl) (by kernel_rfl) (by kernel_rfl) (by kernel_rfl) (fun _ _ _ h => h) rfl (fun ty pos af w2 _ => lss_run _ _ _ (by kernel_rfl) (by kernel_rfl) (by simp only [decide_eq_true_eq, decide_eq_false_iff_not]; omega) w2) hS0 ?_
    refine wpAnyH_call (i := 2) (f := 50) (xs := #[(Operand.tmp 13), (Operand.const (Value.int IntKind.i64 2))]) (ats := #[9, 3]) (d := 14) (vs := #[.string d.s1, .int .i64 2]) (by kernel_rfl) (by kernel_rfl) (by kernel_rfl) (by kernel_rfl) ((recVec_some d.s1 2 w1.drew (by omega) (by omega) (by omega)).mono ?_)
    rintro e w3 ⟨N1, rfl, z1, hb⟩
    have hS3 : Below w1.heap.size w1 w3 := hS0.trans (hb.mono hS0.size)
    refine ⟨_, rfl, hS3, ?_⟩
    clear hb
    have e1 : (⟨#[0]⟩ : ByteArray).size = 1 := rfl
    generalize hZ : (⟨#[0]⟩ : ByteArray) = Z at e1
    have e0 : (Z ++ N1).size = 1 + N1.size := by rw [ByteArray.size_append, e1]
    refine wpAnyH_takeG (i := 3) (d := 15) (g := none) (op := (Op.binOp BinOp.add 9 (Operand.const (Value.string { data := #[0] })) (Operand.tmp 14) 9)) (v := .string (Z ++ N1)) (by kernel_rfl) (by kernel_rfl) (by kernel_rfl) (by kernel_rfl) (fun _ _ _ h => h) rfl (fun ty pos af w2 _ => cat_run _ _ _ (by rw [← hZ]; kernel_rfl) (by kernel_rfl) (by omega) w2) hS3 ?_
    refine wpAnyH_call (i := 4) (f := 50) (xs := #[(Operand.tmp 15), (Operand.const (Value.int IntKind.i64 2))]) (ats := #[9, 3]) (d := 16) (vs := #[.string (Z ++ N1), .int .i64 2]) (by kernel_rfl) (by kernel_rfl) (by kernel_rfl) (by kernel_rfl) ((recVec_some (Z ++ N1) 2 w3 (by omega) (by omega) (by omega)).mono ?_)
    rintro e w4 ⟨N2, rfl, z2, hb⟩
    have hS4 : Below w1.heap.size w1 w4 := hS3.trans (hb.mono hS3.size)
    refine ⟨_, rfl, hS4, ?_⟩
    clear hb
    refine wpAnyH_takeG (i := 9) (d := 2) (g := none) (op := (Op.assign (Operand.tmp 16))) (v := .string N2) (by kernel_rfl) (by kernel_rfl) (by kernel_rfl) (by kernel_rfl) (fun _ _ _ h => h) rfl (fun _ _ _ _ _ => by kernel_rfl) hS4 ?_
    refine wpAnyH_takeG (i := 10) (d := 3) (g := none) (op := (Op.assign (Operand.tmp 20))) (v := .bool true) (by kernel_rfl) (by kernel_rfl) (by kernel_rfl) (by kernel_rfl) (fun _ _ _ h => h) rfl (fun _ _ _ _ _ => by kernel_rfl) hS4 ?_
    refine wpAnyH_done (by kernel_rfl) ?_ 0
    simp only [Act.put, List.setIfInBounds_toArray, List.set_cons_zero, List.set_cons_succ]
    have HBZ := Lib.hid (HB1.out.trans (hS4.mono HB1.out.size))
    clear hS0
    go_wp2_with fail
    go_ret2
    exact Said2.mk N2 _ (by show N2.size ≤ _; omega) HBZ.out
  · go_upto_region 3 with fail
    have hS0 : Below w1.heap.size w1 w1.drew := (Below.refl _ _).drew
    refine wp_region_held (S := fun w2 => Below w1.heap.size w1 w2) (by kernel_rfl) ?_
    change wpAnyH _ _ _ _ _ 11 _ _ w1.drew
    refine wpAnyH_takeG (i := 0) (d := 12) (g := none) (op := (Op.fieldAddr 69 (Operand.tmp 1) 1)) (v := .pointer (some ⟨w.heap.size, 1, none⟩)) (by kernel_rfl) (by kernel_rfl) (by kernel_rfl) (by kernel_rfl) (fun _ _ _ h => h) rfl (fun _ _ _ _ _ => by kernel_rfl) hS0 ?_
    refine wpAnyH_ldG (i := 1) (d := 13) (g := none) (t := 9) (x := (Operand.tmp 12)) (p := ⟨w.heap.size, 1, none⟩) (u := .string d.s1) (by kernel_rfl) (by kernel_rfl) (by kernel_rfl) (by kernel_rfl) (fun _ _ _ h => h) rfl (by kernel_rfl) (fun w2 h1 => ld9 w2 _ _ (bcellv h1 k1)) hS0 ?_
    refine wpAnyH_takeG (i := 5) (d := 17) (g := none) (op := (Op.fieldAddr 69 (Operand.tmp 1) 1)) (v := .pointer (some ⟨w.heap.size, 1, none⟩)) (by kernel_rfl) (by kernel_rfl) (by kernel_rfl) (by kernel_rfl) (fun _ _ _ h => h) rfl (fun _ _ _ _ _ => by kernel_rfl) hS0 ?_
    refine wpAnyH_ldG (i := 6) (d := 18) (g := none) (t := 9) (x := (Operand.tmp 17)) (p := ⟨w.heap.size, 1, none⟩) (u := .string d.s1) (by kernel_rfl) (by kernel_rfl) (by kernel_rfl) (by kernel_rfl) (fun _ _ _ h => h) rfl (by kernel_rfl) (fun w2 h1 => ld9 w2 _ _ (bcellv h1 k1)) hS0 ?_
    refine wpAnyH_takeG (i := 7) (d := 19) (g := none) (op := (Op.call { callee := (Callee.builtin Builtin.len), args := #[(Operand.tmp 18)], argTypes := #[9] })) (v := .int .i64 (d.s1.size : Int)) (by kernel_rfl) (by kernel_rfl) (by kernel_rfl) (by kernel_rfl) (fun _ _ _ h => h) rfl (fun _ _ _ _ _ => by kernel_rfl) hS0 ?_
    refine wpAnyH_takeG (i := 8) (d := 20) (g := none) (op := (Op.binOp BinOp.lss 3 (Operand.tmp 19) (Operand.const (Value.int IntKind.i64 65533)) 3)) (v := .bool false) (by kernel_rfl) (by kernel_rfl) (by kernel_rfl) (by kernel_rfl) (fun _ _ _ h => h) rfl (fun ty pos af w2 _ => lss_run _ _ _ (by kernel_rfl) (by kernel_rfl) (by simp only [decide_eq_true_eq, decide_eq_false_iff_not]; omega) w2) hS0 ?_
    refine wpAnyH_call (i := 2) (f := 50) (xs := #[(Operand.tmp 13), (Operand.const (Value.int IntKind.i64 2))]) (ats := #[9, 3]) (d := 14) (vs := #[.string d.s1, .int .i64 2]) (by kernel_rfl) (by kernel_rfl) (by kernel_rfl) (by kernel_rfl) ((recVec_some d.s1 2 w1.drew (by omega) (by omega) (by omega)).mono ?_)
    rintro e w3 ⟨N1, rfl, z1, hb⟩
    have hS3 : Below w1.heap.size w1 w3 := hS0.trans (hb.mono hS0.size)
    refine ⟨_, rfl, hS3, ?_⟩
    clear hb
    have e1 : (⟨#[0]⟩ : ByteArray).size = 1 := rfl
    generalize hZ : (⟨#[0]⟩ : ByteArray) = Z at e1
    have e0 : (Z ++ N1).size = 1 + N1.size := by rw [ByteArray.size_append, e1]
    refine wpAnyH_takeG (i := 3) (d := 15) (g := none) (op := (Op.binOp BinOp.add 9 (Operand.const (Value.string { data := #[0] })) (Operand.tmp 14) 9)) (v := .string (Z ++ N1)) (by kernel_rfl) (by kernel_rfl) (by kernel_rfl) (by kernel_rfl) (fun _ _ _ h => h) rfl (fun ty pos af w2 _ => cat_run _ _ _ (by rw [← hZ]; kernel_rfl) (by kernel_rfl) (by omega) w2) hS3 ?_
    refine wpAnyH_call (i := 4) (f := 50) (xs := #[(Operand.tmp 15), (Operand.const (Value.int IntKind.i64 2))]) (ats := #[9, 3]) (d := 16) (vs := #[.string (Z ++ N1), .int .i64 2]) (by kernel_rfl) (by kernel_rfl) (by kernel_rfl) (by kernel_rfl) ((recVec_some (Z ++ N1) 2 w3 (by omega) (by omega) (by omega)).mono ?_)
    rintro e w4 ⟨N2, rfl, z2, hb⟩
    have hS4 : Below w1.heap.size w1 w4 := hS3.trans (hb.mono hS3.size)
    refine ⟨_, rfl, hS4, ?_⟩
    clear hb
    refine wpAnyH_takeG (i := 9) (d := 2) (g := none) (op := (Op.assign (Operand.tmp 16))) (v := .string N2) (by kernel_rfl) (by kernel_rfl) (by kernel_rfl) (by kernel_rfl) (fun _ _ _ h => h) rfl (fun _ _ _ _ _ => by kernel_rfl) hS4 ?_
    refine wpAnyH_takeG (i := 10) (d := 3) (g := none) (op := (Op.assign (Operand.tmp 20))) (v := .bool false) (by kernel_rfl) (by kernel_rfl) (by kernel_rfl) (by kernel_rfl) (fun _ _ _ h => h) rfl (fun _ _ _ _ _ => by kernel_rfl) hS4 ?_
    refine wpAnyH_done (by kernel_rfl) ?_ 0
    simp only [Act.put, List.setIfInBounds_toArray, List.set_cons_zero, List.set_cons_succ]
    have HBZ := Lib.hid (HB1.out.trans (hS4.mono HB1.out.size))
    clear hS0
    go_wp2_with fail
    go_ret2
    exact Said2.mk N2 _ (by show N2.size ≤ _; omega) HBZ.out
set_option maxHeartbeats 4000000 in
set_option maxRecDepth 100000 in
theorem ext_10 (d : ED) (w : World) (hx : Ext w d) (hf : Fit d) (h0 : d.x0 = 10) : Calls Tryz.prog 64 #[.agg d.es] w (Said2 BB w) := by
  have H0 := Lib.hid h0
  have HF := Lib.hid hf
  have hB1 : Below w.heap.size w (w.alloc (Obj.cells d.es 69)) := (Below.refl _ _).alloc (Nat.le_refl _) _
  have HX := Lib.hid (hx.below hB1)
  have gS : d.s1.size ≤ 140737488351232 := hx.h1
  clear hx h0 hf
  go_enter Tryz.func64, Tryz.ntmps64
  go_upto_region 1 with fail
  change Code.wp _ _ _ _ (w.alloc (Obj.cells d.es 69))
  have hM1 := heap_alloc_new w (Obj.cells d.es 69)
  generalize w.alloc (Obj.cells d.es 69) = w1 at hB1 hM1 HX ⊢
  have k0 := (bcell hM1 0).trans (es0 d H0.out)
  have HB1 := Lib.hid hB1
  have HM1 := Lib.hid hM1
  clear hB1 hM1
  have k3 := (bcell HM1.out 3).trans (ED.g3 d)
  have gN : d.n3 ≤ 140737488351232 := HX.out.o3.2.2
  go_upto_region 5 with fail
  have hS0 : Below w1.heap.size w1 w1.drew := (Below.refl _ _).drew
  refine wp_region_held (S := fun w2 => Below w1.heap.size w1 w2) (by kernel_rfl) ?_
  change wpAnyH _ _ _ _ _ 10 _ _ w1.drew
  refine wpAnyH_takeG (i := 0) (d := 23) (g := none) (op := (Op.fieldAddr 69 (Operand.tmp 1) 3)) (v := .pointer (some ⟨w.heap.size, 3, none⟩)) (by kernel_rfl) (by kernel_rfl) (by kernel_rfl) (by kernel_rfl) (fun _ _ _ h => h) rfl (fun _ _ _ _ _ => by kernel_rfl) hS0 ?_
  refine wpAnyH_ldG (i := 1) (d := 24) (g := none) (t := 23) (x := (Operand.tmp 23)) (p := ⟨w.heap.size, 3, none⟩) (u := .slice d.p3 d.n3 d.c3) (by kernel_rfl) (by kernel_rfl) (by kernel_rfl) (by kernel_rfl) (fun _ _ _ h => h) rfl (by kernel_rfl) (fun w2 h1 => ld23 w2 _ _ (bcellv h1 k3)) hS0 ?_
  refine wpAnyH_takeG (i := 4) (d := 27) (g := none) (op := (Op.fieldAddr 69 (Operand.tmp 1) 3)) (v := .pointer (some ⟨w.heap.size, 3, none⟩)) (by kernel_rfl) (by kernel_rfl) (by kernel_rfl) (by kernel_rfl) (fun _ _ _ h => h) rfl (fun _ _ _ _ _ => by kernel_rfl) hS0 ?_
  refine wpAnyH_ldG (i := 5) (d := 28) (g := none) (t := 23) (x := (Operand.tmp 27)) (p := ⟨w.heap.size, 3, none⟩) (u := .slice d.p3 d.n3 d.c3) (by kernel_rfl) (by kernel_rfl) (by kernel_rfl) (by kernel_rfl) (fun _ _ _ h => h) rfl (by kernel_rfl) (fun w2 h1 => ld23 w2 _ _ (bcellv h1 k3)) hS0 ?_
  refine wpAnyH_takeG (i := 6) (d := 29) (g := none) (op := (Op.call { callee := (Callee.builtin Builtin.len), args := #[(Operand.tmp 28)], argTypes := #[23] })) (v := .int .i64 (d.n3 : Int)) (by kernel_rfl) (by kernel_rfl) (by kernel_rfl) (by kernel_rfl) (fun _ _ _ h => h) rfl (fun _ _ _ _ _ => by kernel_rfl) hS0 ?_
  refine wpAnyH_takeG (i := 7) (d := 30) (g := none) (op := (Op.binOp BinOp.lss 3 (Operand.tmp 29) (Operand.const (Value.int IntKind.i64 32768)) 3)) (v := .bool (decide ((d.n3 : Int) < 32768))) (by kernel_rfl) (by kernel_rfl) (by kernel_rfl) (by kernel_rfl) (fun _ _ _ h => h) rfl (fun _ _ _ _ _ => by kernel_rfl) hS0 ?_
  refine wpAnyH_call (i := 2) (f := 88) (xs := #[(Operand.tmp 24), (Operand.const (Value.int IntKind.i64 2))]) (ats := #[23, 3]) (d := 25) (vs := #[.slice d.p3 d.n3 d.c3, .int .i64 2]) (by kernel_rfl) (by kernel_rfl) (by kernel_rfl) (by kernel_rfl) ((extnums_any 2 (by omega) (by omega) d.p3 d.n3 d.c3 d.u3 w1.drew HX.out.o3 (HX.out.r3.below hS0)).mono ?_)
  rintro e w3 ⟨N1, rfl, z1, hb⟩
  have hS3 : Below w1.heap.size w1 w3 := hS0.trans (hb.mono hS0.size)
  refine ⟨_, rfl, hS3, ?_⟩
  clear hb
  refine wpAnyH_call (i := 3) (f := 50) (xs := #[(Operand.tmp 25), (Operand.const (Value.int IntKind.i64 2))]) (ats := #[9, 3]) (d := 26) (vs := #[.string N1, .int .i64 2]) (by kernel_rfl) (by kernel_rfl) (by kernel_rfl) (by kernel_rfl) ((recVec_some N1 2 w3 (by omega) (by omega) (by omega)).mono ?_)
  rintro e w4 ⟨N2, rfl, z2, hb⟩
  have hS4 : Below w1.heap.size w1 w4 := hS3.trans (hb.mono hS3.size)
  refine ⟨_, rfl, hS4, ?_⟩
  clear hb
  refine wpAnyH_takeG (i := 8) (d := 2) (g := none) (op := (Op.assign (Operand.tmp 26))) (v := .string N2) (by kernel_rfl) (by kernel_rfl) (by kernel_rfl) (by kernel_rfl) (fun _ _ _ h => h) rfl (fun _ _ _ _ _ => by kernel_rfl) hS4 ?_
  refine wpAnyH_takeG (i := 9) (d := 3) (g := none) (op := (Op.assign (Operand.tmp 30))) (v := .bool (decide ((d.n3 : Int) < 32768))) (by kernel_rfl) (by kernel_rfl) (by kernel_rfl) (by kernel_rfl) (fun _ _ _ h => h) rfl (fun _ _ _ _ _ => by kernel_rfl) hS4 ?_
  refine wpAnyH_done (by kernel_rfl) ?_ 0
  simp only [Act.put, List.setIfInBounds_toArray, List.set_cons_zero, List.set_cons_succ]
  have HBZ := Lib.hid (HB1.out.trans (hS4.mono HB1.out.size))
  clear hS0
  go_wp2_with fail
  go_ret2
  exact Said2.mk N2 _ (by show N2.size ≤ _; omega) HBZ.out
set_option maxHeartbeats 4000000 in
set_option maxRecDepth 100000 in
theorem ext_11 (d : ED) (w : World) (hx : Ext w d) (hf : Fit d) (h0 : d.x0 = 11) : Calls Tryz.prog 64 #[.agg d.es] w (Said2 BB w) := by
  have H0 := Lib.hid h0
  have HF := Lib.hid hf
  have hB1 : Below w.heap.size w (w.alloc (Obj.cells d.es 69)) := (Below.refl _ _).alloc (Nat.le_refl _) _
  have HX := Lib.hid (hx.below hB1)
  have gS : d.s1.size ≤ 140737488351232 := hx.h1
  clear hx h0 hf
  go_enter Tryz.func64, Tryz.ntmps64
  go_upto_region 1 with fail
  change Code.wp _ _ _ _ (w.alloc (Obj.cells d.es 69))
  have hM1 := heap_alloc_new w (Obj.cells d.es 69)
  generalize w.alloc (Obj.cells d.es 69) = w1 at hB1 hM1 HX ⊢
  have k0 := (bcell hM1 0).trans (es0 d H0.out)
  have HB1 := Lib.hid hB1
  have HM1 := Lib.hid hM1
  clear hB1 hM1
  have k3 := (bcell HM1.out 3).trans (ED.g3 d)
  have gN : d.n3 ≤ 140737488351232 := HX.out.o3.2.2
  go_upto_region 8 with fail
  have hS0 : Below w1.heap.size w1 w1.drew := (Below.refl _ _).drew
  refine wp_region_held (S := fun w2 => Below w1.heap.size w1 w2) (by kernel_rfl) ?_
  change wpAnyH _ _ _ _ _ 10 _ _ w1.drew
  refine wpAnyH_takeG (i := 0) (d := 34) (g := none) (op := (Op.fieldAddr 69 (Operand.tmp 1) 3)) (v := .pointer (some ⟨w.heap.size, 3, none⟩)) (by kernel_rfl) (by kernel_rfl) (by kernel_rfl) (by kernel_rfl) (fun _ _ _ h => h) rfl (fun _ _ _ _ _ => by kernel_rfl) hS0 ?_
  refine wpAnyH_ldG (i := 1) (d := 35) (g := none) (t := 23) (x := (Operand.tmp 34)) (p := ⟨w.heap.size, 3, none⟩) (u := .slice d.p3 d.n3 d.c3) (by kernel_rfl) (by kernel_rfl) (by kernel_rfl) (by kernel_rfl) (fun _ _ _ h => h) rfl (by kernel_rfl) (fun w2 h1 => ld23 w2 _ _ (bcellv h1 k3)) hS0 ?_
  refine wpAnyH_takeG (i := 4) (d := 38) (g := none) (op := (Op.fieldAddr 69 (Operand.tmp 1) 3)) (v := .pointer (some ⟨w.heap.size, 3, none⟩)) (by kernel_rfl) (by kernel_rfl) (by kernel_rfl) (by kernel_rfl) (fun _ _ _ h => h) rfl (fun _ _ _ _ _ => by kernel_rfl) hS0 ?_
  refine wpAnyH_ldG (i := 5) (d := 39) (g := none) (t := 23) (x := (Operand.tmp 38)) (p := ⟨w.heap.size, 3, none⟩) (u := .slice d.p3 d.n3 d.c3) (by kernel_rfl) (by kernel_rfl) (by kernel_rfl) (by kernel_rfl) (fun _ _ _ h => h) rfl (by kernel_rfl) (fun w2 h1 => ld23 w2 _ _ (bcellv h1 k3)) hS0 ?_
  refine wpAnyH_takeG (i := 6) (d := 40) (g := none) (op := (Op.call { callee := (Callee.builtin Builtin.len), args := #[(Operand.tmp 39)], argTypes := #[23] })) (v := .int .i64 (d.n3 : Int)) (by kernel_rfl) (by kernel_rfl) (by kernel_rfl) (by kernel_rfl) (fun _ _ _ h => h) rfl (fun _ _ _ _ _ => by kernel_rfl) hS0 ?_
  refine wpAnyH_takeG (i := 7) (d := 41) (g := none) (op := (Op.binOp BinOp.lss 3 (Operand.tmp 40) (Operand.const (Value.int IntKind.i64 256)) 3)) (v := .bool (decide ((d.n3 : Int) < 256))) (by kernel_rfl) (by kernel_rfl) (by kernel_rfl) (by kernel_rfl) (fun _ _ _ h => h) rfl (fun _ _ _ _ _ => by kernel_rfl) hS0 ?_
  refine wpAnyH_call (i := 2) (f := 88) (xs := #[(Operand.tmp 35), (Operand.const (Value.int IntKind.i64 1))]) (ats := #[23, 3]) (d := 36) (vs := #[.slice d.p3 d.n3 d.c3, .int .i64 1]) (by kernel_rfl) (by kernel_rfl) (by kernel_rfl) (by kernel_rfl) ((extnums_any 1 (by omega) (by omega) d.p3 d.n3 d.c3 d.u3 w1.drew HX.out.o3 (HX.out.r3.below hS0)).mono ?_)
  rintro e w3 ⟨N1, rfl, z1, hb⟩
  have hS3 : Below w1.heap.size w1 w3 := hS0.trans (hb.mono hS0.size)
  refine ⟨_, rfl, hS3, ?_⟩
  clear hb
  refine wpAnyH_call (i := 3) (f := 50) (xs := #[(Operand.tmp 36), (Operand.const (Value.int IntKind.i64 1))]) (ats := #[9, 3]) (d := 37) (vs := #[.string N1, .int .i64 1]) (by kernel_rfl) (by kernel_rfl) (by kernel_rfl) (by kernel_rfl) ((recVec_some N1 1 w3 (by omega) (by omega) (by omega)).mono ?_)
  rintro e w4 ⟨N2, rfl, z2, hb⟩
  have hS4 : Below w1.heap.size w1 w4 := hS3.trans (hb.mono hS3.size)
  refine ⟨_, rfl, hS4, ?_⟩
  clear hb
  refine wpAnyH_takeG (i := 8) (d := 2) (g := none) (op := (Op.assign (Operand.tmp 37))) (v := .string N2) (by kernel_rfl) (by kernel_rfl) (by kernel_rfl) (by kernel_rfl) (fun _ _ _ h => h) rfl (fun _ _ _ _ _ => by kernel_rfl) hS4 ?_
  refine wpAnyH_takeG (i := 9) (d := 3) (g := none) (op := (Op.assign (Operand.tmp 41))) (v := .bool (decide ((d.n3 : Int) < 256))) (by kernel_rfl) (by kernel_rfl) (by kernel_rfl) (by kernel_rfl) (fun _ _ _ h => h) rfl (fun _ _ _ _ _ => by kernel_rfl) hS4 ?_
  refine wpAnyH_done (by kernel_rfl) ?_ 0
  simp only [Act.put, List.setIfInBounds_toArray, List.set_cons_zero, List.set_cons_succ]
  have HBZ := Lib.hid (HB1.out.trans (hS4.mono HB1.out.size))
  clear hS0
  go_wp2_with fail
  go_ret2
  exact Said2.mk N2 _ (by show N2.size ≤ _; omega) HBZ.out
set_option maxHeartbeats 4000000 in
set_option maxRecDepth 100000 in
theorem ext_45 (d : ED) (w : World) (hx : Ext w d) (hf : Fit d) (h0 : d.x0 = 45) : Calls Tryz.prog 64 #[.agg d.es] w (Said2 BB w) := by
  have H0 := Lib.hid h0
  have HF := Lib.hid hf
  have hB1 : Below w.heap.size w (w.alloc (Obj.cells d.es 69)) := (Below.refl _ _).alloc (Nat.le_refl _) _
  have HX := Lib.hid (hx.below hB1)
  have gS : d.s1.size ≤ 140737488351232 := hx.h1
  clear hx h0 hf
  go_enter Tryz.func64, Tryz.ntmps64
  go_upto_region 1 with fail
  change Code.wp _ _ _ _ (w.alloc (Obj.cells d.es 69))
  have hM1 := heap_alloc_new w (Obj.cells d.es 69)
  generalize w.alloc (Obj.cells d.es 69) = w1 at hB1 hM1 HX ⊢
  have k0 := (bcell hM1 0).trans (es0 d H0.out)
  have HB1 := Lib.hid hB1
  have HM1 := Lib.hid hM1
  clear hB1 hM1
  have k3 := (bcell HM1.out 3).trans (ED.g3 d)
  have gN : d.n3 ≤ 140737488351232 := HX.out.o3.2.2
  go_upto_region 8 with fail
  have hS0 : Below w1.heap.size w1 w1.drew := (Below.refl _ _).drew
  refine wp_region_held (S := fun w2 => Below w1.heap.size w1 w2) (by kernel_rfl) ?_
  change wpAnyH _ _ _ _ _ 10 _ _ w1.drew
  refine wpAnyH_takeG (i := 0) (d := 34) (g := none) (op := (Op.fieldAddr 69 (Operand.tmp 1) 3)) (v := .pointer (some ⟨w.heap.size, 3, none⟩)) (by kernel_rfl) (by kernel_rfl) (by kernel_rfl) (by kernel_rfl) (fun _ _ _ h => h) rfl (fun _ _ _ _ _ => by kernel_rfl) hS0 ?_
  refine wpAnyH_ldG (i := 1) (d := 35) (g := none) (t := 23) (x := (Operand.tmp 34)) (p := ⟨w.heap.size, 3, none⟩) (u := .slice d.p3 d.n3 d.c3) (by kernel_rfl) (by kernel_rfl) (by kernel_rfl) (by kernel_rfl) (fun _ _ _ h => h) rfl (by kernel_rfl) (fun w2 h1 => ld23 w2 _ _ (bcellv h1 k3)) hS0 ?_
  refine wpAnyH_takeG (i := 4) (d := 38) (g := none) (op := (Op.fieldAddr 69 (Operand.tmp 1) 3)) (v := .pointer (some ⟨w.heap.size, 3, none⟩)) (by kernel_rfl) (by kernel_rfl) (by kernel_rfl) (by kernel_rfl) (fun _ _ _ h => h) rfl (fun _ _ _ _ _ => by kernel_rfl) hS0 ?_
  refine wpAnyH_ldG (i := 5) (d := 39) (g := none) (t := 23) (x := (Operand.tmp 38)) (p := ⟨w.heap.size, 3, none⟩) (u := .slice d.p3 d.n3 d.c3) (by kernel_rfl) (by kernel_rfl) (by kernel_rfl) (by kernel_rfl) (fun _ _ _ h => h) rfl (by kernel_rfl) (fun w2 h1 => ld23 w2 _ _ (bcellv h1 k3)) hS0 ?_
  refine wpAnyH_takeG (i := 6) (d := 40) (g := none) (op := (Op.call { callee := (Callee.builtin Builtin.len), args := #[(Operand.tmp 39)], argTypes := #[23] })) (v := .int .i64 (d.n3 : Int)) (by kernel_rfl) (by kernel_rfl) (by kernel_rfl) (by kernel_rfl) (fun _ _ _ h => h) rfl (fun _ _ _ _ _ => by kernel_rfl) hS0 ?_
  refine wpAnyH_takeG (i := 7) (d := 41) (g := none) (op := (Op.binOp BinOp.lss 3 (Operand.tmp 40) (Operand.const (Value.int IntKind.i64 256)) 3)) (v := .bool (decide ((d.n3 : Int) < 256))) (by kernel_rfl) (by kernel_rfl) (by kernel_rfl) (by kernel_rfl) (fun _ _ _ h => h) rfl (fun _ _ _ _ _ => by kernel_rfl) hS0 ?_
  refine wpAnyH_call (i := 2) (f := 88) (xs := #[(Operand.tmp 35), (Operand.const (Value.int IntKind.i64 1))]) (ats := #[23, 3]) (d := 36) (vs := #[.slice d.p3 d.n3 d.c3, .int .i64 1]) (by kernel_rfl) (by kernel_rfl) (by kernel_rfl) (by kernel_rfl) ((extnums_any 1 (by omega) (by omega) d.p3 d.n3 d.c3 d.u3 w1.drew HX.out.o3 (HX.out.r3.below hS0)).mono ?_)
  rintro e w3 ⟨N1, rfl, z1, hb⟩
  have hS3 : Below w1.heap.size w1 w3 := hS0.trans (hb.mono hS0.size)
  refine ⟨_, rfl, hS3, ?_⟩
  clear hb
  refine wpAnyH_call (i := 3) (f := 50) (xs := #[(Operand.tmp 36), (Operand.const (Value.int IntKind.i64 1))]) (ats := #[9, 3]) (d := 37) (vs := #[.string N1, .int .i64 1]) (by kernel_rfl) (by kernel_rfl) (by kernel_rfl) (by kernel_rfl) ((recVec_some N1 1 w3 (by omega) (by omega) (by omega)).mono ?_)
  rintro e w4 ⟨N2, rfl, z2, hb⟩
  have hS4 : Below w1.heap.size w1 w4 := hS3.trans (hb.mono hS3.size)
  refine ⟨_, rfl, hS4, ?_⟩
  clear hb
  refine wpAnyH_takeG (i := 8) (d := 2) (g := none) (op := (Op.assign (Operand.tmp 37))) (v := .string N2) (by kernel_rfl) (by kernel_rfl) (by kernel_rfl) (by kernel_rfl) (fun _ _ _ h => h) rfl (fun _ _ _ _ _ => by kernel_rfl) hS4 ?_
  refine wpAnyH_takeG (i := 9) (d := 3) (g := none) (op := (Op.assign (Operand.tmp 41))) (v := .bool (decide ((d.n3 : Int) < 256))) (by kernel_rfl) (by kernel_rfl) (by kernel_rfl) (by kernel_rfl) (fun _ _ _ h => h) rfl (fun _ _ _ _ _ => by kernel_rfl) hS4 ?_
  refine wpAnyH_done (by kernel_rfl) ?_ 0
  simp only [Act.put, List.setIfInBounds_toArray, List.set_cons_zero, List.set_cons_succ]
  have HBZ := Lib.hid (HB1.out.trans (hS4.mono HB1.out.size))
  clear hS0
  go_wp2_with fail
  go_ret2
  exact Said2.mk N2 _ (by show N2.size ≤ _; omega) HBZ.out
set_option maxHeartbeats 4000000 in
set_option maxRecDepth 100000 in
theorem ext_43 (d : ED) (w : World) (hx : Ext w d) (hf : Fit d) (h0 : d.x0 = 43) : Calls Tryz.prog 64 #[.agg d.es] w (Said2 BB w) := by
  have H0 := Lib.hid h0
  have HF := Lib.hid hf
  have hB1 : Below w.heap.size w (w.alloc (Obj.cells d.es 69)) := (Below.refl _ _).alloc (Nat.le_refl _) _
  have HX := Lib.hid (hx.below hB1)
  have gS : d.s1.size ≤ 140737488351232 := hx.h1
  clear hx h0 hf
  go_enter Tryz.func64, Tryz.ntmps64
  go_upto_region 1 with fail
  change Code.wp _ _ _ _ (w.alloc (Obj.cells d.es 69))
  have hM1 := heap_alloc_new w (Obj.cells d.es 69)
  generalize w.alloc (Obj.cells d.es 69) = w1 at hB1 hM1 HX ⊢
  have k0 := (bcell hM1 0).trans (es0 d H0.out)
  have HB1 := Lib.hid hB1
  have HM1 := Lib.hid hM1
  clear hB1 hM1
  have k3 := (bcell HM1.out 3).trans (ED.g3 d)
  have gN : d.n3 ≤ 140737488351232 := HX.out.o3.2.2
  go_upto_region 26 with fail
  have hS0 : Below w1.heap.size w1 w1.drew := (Below.refl _ _).drew
  refine wp_region_held (S := fun w2 => Below w1.heap.size w1 w2) (by kernel_rfl) ?_
  change wpAnyH _ _ _ _ _ 10 _ _ w1.drew
  refine wpAnyH_takeG (i := 0) (d := 96) (g := none) (op := (Op.fieldAddr 69 (Operand.tmp 1) 3)) (v := .pointer (some ⟨w.heap.size, 3, none⟩)) (by kernel_rfl) (by kernel_rfl) (by kernel_rfl) (by kernel_rfl) (fun _ _ _ h => h) rfl (fun _ _ _ _ _ => by kernel_rfl) hS0 ?_
  refine wpAnyH_ldG (i := 1) (d := 97) (g := none) (t := 23) (x := (Operand.tmp 96)) (p := ⟨w.heap.size, 3, none⟩) (u := .slice d.p3 d.n3 d.c3) (by kernel_rfl) (by kernel_rfl) (by kernel_rfl) (by kernel_rfl) (fun _ _ _ h => h) rfl (by kernel_rfl) (fun w2 h1 => ld23 w2 _ _ (bcellv h1 k3)) hS0 ?_
  refine wpAnyH_takeG (i := 4) (d := 100) (g := none) (op := (Op.fieldAddr 69 (Operand.tmp 1) 3)) (v := .pointer (some ⟨w.heap.size, 3, none⟩)) (by kernel_rfl) (by kernel_rfl) (by kernel_rfl) (by kernel_rfl) (fun _ _ _ h => h) rfl (fun _ _ _ _ _ => by kernel_rfl) hS0 ?_
  refine wpAnyH_ldG (i := 5) (d := 101) (g := none) (t := 23) (x := (Operand.tmp 100)) (p := ⟨w.heap.size, 3, none⟩) (u := .slice d.p3 d.n3 d.c3) (by kernel_rfl) (by kernel_rfl) (by kernel_rfl) (by kernel_rfl) (fun _ _ _ h => h) rfl (by kernel_rfl) (fun w2 h1 => ld23 w2 _ _ (bcellv h1 k3)) hS0 ?_
  refine wpAnyH_takeG (i := 6) (d := 102) (g := none) (op := (Op.call { callee := (Callee.builtin Builtin.len), args := #[(Operand.tmp 101)], argTypes := #[23] })) (v := .int .i64 (d.n3 : Int)) (by kernel_rfl) (by kernel_rfl) (by kernel_rfl) (by kernel_rfl) (fun _ _ _ h => h) rfl (fun _ _ _ _ _ => by kernel_rfl) hS0 ?_
  refine wpAnyH_takeG (i := 7) (d := 103) (g := none) (op := (Op.binOp BinOp.lss 3 (Operand.tmp 102) (Operand.const (Value.int IntKind.i64 128)) 3)) (v := .bool (decide ((d.n3 : Int) < 128))) (by kernel_rfl) (by kernel_rfl) (by kernel_rfl) (by kernel_rfl) (fun _ _ _ h => h) rfl (fun _ _ _ _ _ => by kernel_rfl) hS0 ?_
  refine wpAnyH_call (i := 2) (f := 88) (xs := #[(Operand.tmp 97), (Operand.const (Value.int IntKind.i64 2))]) (ats := #[23, 3]) (d := 98) (vs := #[.slice d.p3 d.n3 d.c3, .int .i64 2]) (by kernel_rfl) (by kernel_rfl) (by kernel_rfl) (by kernel_rfl) ((extnums_any 2 (by omega) (by omega) d.p3 d.n3 d.c3 d.u3 w1.drew HX.out.o3 (HX.out.r3.below hS0)).mono ?_)
  rintro e w3 ⟨N1, rfl, z1, hb⟩
  have hS3 : Below w1.heap.size w1 w3 := hS0.trans (hb.mono hS0.size)
  refine ⟨_, rfl, hS3, ?_⟩
  clear hb
  refine wpAnyH_call (i := 3) (f := 50) (xs := #[(Operand.tmp 98), (Operand.const (Value.int IntKind.i64 1))]) (ats := #[9, 3]) (d := 99) (vs := #[.string N1, .int .i64 1]) (by kernel_rfl) (by kernel_rfl) (by kernel_rfl) (by kernel_rfl) ((recVec_some N1 1 w3 (by omega) (by omega) (by omega)).mono ?_)
  rintro e w4 ⟨N2, rfl, z2, hb⟩
  have hS4 : Below w1.heap.size w1 w4 := hS3.trans (hb.mono hS3.size)
  refine ⟨_, rfl, hS4, ?_⟩
  clear hb
  refine wpAnyH_takeG (i := 8) (d := 2) (g := none) (op := (Op.assign (Operand.tmp 99))) (v := .string N2) (by kernel_rfl) (by kernel_rfl) (by kernel_rfl) (by kernel_rfl) (fun _ _ _ h => h) rfl (fun _ _ _ _ _ => by kernel_rfl) hS4 ?_
  refine wpAnyH_takeG (i := 9) (d := 3) (g := none) (op := (Op.assign (Operand.tmp 103))) (v := .bool (decide ((d.n3 : Int) < 128))) (by kernel_rfl) (by kernel_rfl) (by kernel_rfl) (by kernel_rfl) (fun _ _ _ h => h) rfl (fun _ _ _ _ _ => by kernel_rfl) hS4 ?_
  refine wpAnyH_done (by kernel_rfl) ?_ 0
  simp only [Act.put, List.setIfInBounds_toArray, List.set_cons_zero, List.set_cons_succ]
  have HBZ := Lib.hid (HB1.out.trans (hS4.mono HB1.out.size))
  clear hS0
  go_wp2_with fail
  go_ret2
  exact Said2.mk N2 _ (by show N2.size ≤ _; omega) HBZ.out
set_option maxHeartbeats 4000000 in
set_option maxRecDepth 100000 in
theorem ext_13 (d : ED) (w : World) (hx : Ext w d) (hf : Fit d) (h0 : d.x0 = 13) : Calls Tryz.prog 64 #[.agg d.es] w (Said2 BB w) := by
  have H0 := Lib.hid h0
  have HF := Lib.hid hf
  have hB1 : Below w.heap.size w (w.alloc (Obj.cells d.es 69)) := (Below.refl _ _).alloc (Nat.le_refl _) _
  have HX := Lib.hid (hx.below hB1)
  have gS : d.s1.size ≤ 140737488351232 := hx.h1
  clear hx h0 hf
  go_enter Tryz.func64, Tryz.ntmps64
  go_upto_region 1 with fail
  change Code.wp _ _ _ _ (w.alloc (Obj.cells d.es 69))
  have hM1 := heap_alloc_new w (Obj.cells d.es 69)
  generalize w.alloc (Obj.cells d.es 69) = w1 at hB1 hM1 HX ⊢
  have k0 := (bcell hM1 0).trans (es0 d H0.out)
  have HB1 := Lib.hid hB1
  have HM1 := Lib.hid hM1
  clear hB1 hM1
  have k4 := (bcell HM1.out 4).trans (ED.g4 d)
  go_wp2_with fail
  refine (mespairs_any d.p4 d.n4 d.c4 d.a4 d.z4 w1 HF.out.n4 HX.out.r4).mono ?_
  rintro e w2 ⟨s, b, rfl, hs, hb2⟩
  have HB2 := Lib.hid (HB1.out.trans (hb2.mono HB1.out.size))
  have HS := Lib.hid hs
  clear hb2 hs
  dsimp only
  go_wp2_with fail
  go_ret2
  exact Said2.mk s b (by have h : s.size ≤ 2 + 2 * d.n4 := HS.out; have h2 : d.n4 ≤ 2147483647 := HF.out.n4; show s.size ≤ _; omega) HB2.out
set_option maxHeartbeats 4000000 in
set_option maxRecDepth 100000 in
theorem ext_50 (d : ED) (w : World) (hx : Ext w d) (hf : Fit d) (h0 : d.x0 = 50) : Calls Tryz.prog 64 #[.agg d.es] w (Said2 BB w) := by
  have H0 := Lib.hid h0
  have HF := Lib.hid hf
  have hB1 : Below w.heap.size w (w.alloc (Obj.cells d.es 69)) := (Below.refl _ _).alloc (Nat.le_refl _) _
  have HX := Lib.hid (hx.below hB1)
  have gS : d.s1.size ≤ 140737488351232 := hx.h1
  clear hx h0 hf
  go_enter Tryz.func64, Tryz.ntmps64
  go_upto_region 1 with fail
  change Code.wp _ _ _ _ (w.alloc (Obj.cells d.es 69))
  have hM1 := heap_alloc_new w (Obj.cells d.es 69)
  generalize w.alloc (Obj.cells d.es 69) = w1 at hB1 hM1 HX ⊢
  have k0 := (bcell hM1 0).trans (es0 d H0.out)
  have HB1 := Lib.hid hB1
  have HM1 := Lib.hid hM1
  clear hB1 hM1
  have k4 := (bcell HM1.out 4).trans (ED.g4 d)
  go_wp2_with fail
  refine (mespairs_any d.p4 d.n4 d.c4 d.a4 d.z4 w1 HF.out.n4 HX.out.r4).mono ?_
  rintro e w2 ⟨s, b, rfl, hs, hb2⟩
  have HB2 := Lib.hid (HB1.out.trans (hb2.mono HB1.out.size))
  have HS := Lib.hid hs
  clear hb2 hs
  dsimp only
  go_wp2_with fail
  go_ret2
  exact Said2.mk s b (by have h : s.size ≤ 2 + 2 * d.n4 := HS.out; have h2 : d.n4 ≤ 2147483647 := HF.out.n4; show s.size ≤ _; omega) HB2.out
set_option maxHeartbeats 4000000 in
set_option maxRecDepth 100000 in
theorem ext_16 (d : ED) (w : World) (hx : Ext w d) (hf : Fit d) (h0 : d.x0 = 16) : Calls Tryz.prog 64 #[.agg d.es] w (Said2 BB w) := by
  have H0 := Lib.hid h0
  have HF := Lib.hid hf
  have hB1 : Below w.heap.size w (w.alloc (Obj.cells d.es 69)) := (Below.refl _ _).alloc (Nat.le_refl _) _
  have HX := Lib.hid (hx.below hB1)
  have gS : d.s1.size ≤ 140737488351232 := hx.h1
  clear hx h0 hf
  go_enter Tryz.func64, Tryz.ntmps64
  go_upto_region 1 with fail
  change Code.wp _ _ _ _ (w.alloc (Obj.cells d.es 69))
  have hM1 := heap_alloc_new w (Obj.cells d.es 69)
  generalize w.alloc (Obj.cells d.es 69) = w1 at hB1 hM1 HX ⊢
  have k0 := (bcell hM1 0).trans (es0 d H0.out)
  have HB1 := Lib.hid hB1
  have HM1 := Lib.hid hM1
  clear hB1 hM1
  have k2 := (bcell HM1.out 2).trans (ED.g2 d)
  go_wp2_with fail
  refine (meslist_any 1 (by omega) d.p2 d.n2 d.c2 d.t2 w1 HF.out.n2 HX.out.r2 HX.out.z2).mono ?_
  rintro e w2 ⟨s, b, rfl, hs, hb2⟩
  have HB2 := Lib.hid (HB1.out.trans (hb2.mono HB1.out.size))
  have HS := Lib.hid hs
  clear hb2 hs
  dsimp only
  go_wp2_with fail
  go_ret2
  exact Said2.mk s b (by have h : s.size ≤ 2 + 65538 * d.n2 := HS.out; have h2 : d.n2 ≤ 2147483647 := HF.out.n2; show s.size ≤ _; omega) HB2.out
set_option maxHeartbeats 4000000 in
set_option maxRecDepth 100000 in
theorem ext_47 (d : ED) (w : World) (hx : Ext w d) (hf : Fit d) (h0 : d.x0 = 47) : Calls Tryz.prog 64 #[.agg d.es] w (Said2 BB w) := by
  have H0 := Lib.hid h0
  have HF := Lib.hid hf
  have hB1 : Below w.heap.size w (w.alloc (Obj.cells d.es 69)) := (Below.refl _ _).alloc (Nat.le_refl _) _
  have HX := Lib.hid (hx.below hB1)
  have gS : d.s1.size ≤ 140737488351232 := hx.h1
  clear hx h0 hf
  go_enter Tryz.func64, Tryz.ntmps64
  go_upto_region 1 with fail
  change Code.wp _ _ _ _ (w.alloc (Obj.cells d.es 69))
  have hM1 := heap_alloc_new w (Obj.cells d.es 69)
  generalize w.alloc (Obj.cells d.es 69) = w1 at hB1 hM1 HX ⊢
  have k0 := (bcell hM1 0).trans (es0 d H0.out)
  have HB1 := Lib.hid hB1
  have HM1 := Lib.hid hM1
  clear hB1 hM1
  have k2 := (bcell HM1.out 2).trans (ED.g2 d)
  go_wp2_with fail
  refine (meslist_any 2 (by omega) d.p2 d.n2 d.c2 d.t2 w1 HF.out.n2 HX.out.r2 HX.out.z2).mono ?_
  rintro e w2 ⟨s, b, rfl, hs, hb2⟩
  have HB2 := Lib.hid (HB1.out.trans (hb2.mono HB1.out.size))
  have HS := Lib.hid hs
  clear hb2 hs
  dsimp only
  go_wp2_with fail
  go_ret2
  exact Said2.mk s b (by have h : s.size ≤ 2 + 65538 * d.n2 := HS.out; have h2 : d.n2 ≤ 2147483647 := HF.out.n2; show s.size ≤ _; omega) HB2.out
set_option maxHeartbeats 4000000 in
set_option maxRecDepth 100000 in
theorem ext_23 (d : ED) (w : World) (hx : Ext w d) (hf : Fit d) (h0 : d.x0 = 23) : Calls Tryz.prog 64 #[.agg d.es] w (Said2 BB w) := by
  have H0 := Lib.hid h0
  have HF := Lib.hid hf
  have hB1 : Below w.heap.size w (w.alloc (Obj.cells d.es 69)) := (Below.refl _ _).alloc (Nat.le_refl _) _
  have HX := Lib.hid (hx.below hB1)
  have gS : d.s1.size ≤ 140737488351232 := hx.h1
  clear hx h0 hf
  go_enter Tryz.func64, Tryz.ntmps64
  go_upto_region 1 with fail
  change Code.wp _ _ _ _ (w.alloc (Obj.cells d.es 69))
  have hM1 := heap_alloc_new w (Obj.cells d.es 69)
  generalize w.alloc (Obj.cells d.es 69) = w1 at hB1 hM1 HX ⊢
  have k0 := (bcell hM1 0).trans (es0 d H0.out)
  have HB1 := Lib.hid hB1
  have HM1 := Lib.hid hM1
  clear hB1 hM1
  go_wp2_with fail
  go_ret2
  exact Said2.mk _ _ (Nat.zero_le _) HB1.out
set_option maxHeartbeats 4000000 in
set_option maxRecDepth 100000 in
theorem ext_49 (d : ED) (w : World) (hx : Ext w d) (hf : Fit d) (h0 : d.x0 = 49) : Calls Tryz.prog 64 #[.agg d.es] w (Said2 BB w) := by
  have H0 := Lib.hid h0
  have HF := Lib.hid hf
  have hB1 : Below w.heap.size w (w.alloc (Obj.cells d.es 69)) := (Below.refl _ _).alloc (Nat.le_refl _) _
  have HX := Lib.hid (hx.below hB1)
  have gS : d.s1.size ≤ 140737488351232 := hx.h1
  clear hx h0 hf
  go_enter Tryz.func64, Tryz.ntmps64
  go_upto_region 1 with fail
  change Code.wp _ _ _ _ (w.alloc (Obj.cells d.es 69))
  have hM1 := heap_alloc_new w (Obj.cells d.es 69)
  generalize w.alloc (Obj.cells d.es 69) = w1 at hB1 hM1 HX ⊢
  have k0 := (bcell hM1 0).trans (es0 d H0.out)
  have HB1 := Lib.hid hB1
  have HM1 := Lib.hid hM1
  clear hB1 hM1
  go_wp2_with fail
  go_ret2
  exact Said2.mk _ _ (Nat.zero_le _) HB1.out
set_option maxHeartbeats 4000000 in
set_option maxRecDepth 100000 in
theorem ext_41 (d : ED) (w : World) (hx : Ext w d) (hf : Fit d) (h0 : d.x0 = 41) : Calls Tryz.prog 64 #[.agg d.es] w (Said2 BB w) := by
  have H0 := Lib.hid h0
  have HF := Lib.hid hf
  have hB1 : Below w.heap.size w (w.alloc (Obj.cells d.es 69)) := (Below.refl _ _).alloc (Nat.le_refl _) _
  have HX := Lib.hid (hx.below hB1)
  have gS : d.s1.size ≤ 140737488351232 := hx.h1
  clear hx h0 hf
  go_enter Tryz.func64, Tryz.ntmps64
  go_upto_region 1 with fail
  change Code.wp _ _ _ _ (w.alloc (Obj.cells d.es 69))
  have hM1 := heap_alloc_new w (Obj.cells d.es 69)
  generalize w.alloc (Obj.cells d.es 69) = w1 at hB1 hM1 HX ⊢
  have k0 := (bcell hM1 0).trans (es0 d H0.out)
  have HB1 := Lib.hid hB1
  have HM1 := Lib.hid hM1
  clear hB1 hM1
  go_wp2_with (with_reducible refine wpList_load_row rfl 69 (.tmp 1) rfl w.heap.size (by kernel_rfl) 69 d.es (0, 0) _ HM1.out Tryz.underlying69 rfl (hi69 d) ?_)
  refine (extkeys_any d w1 HX.out HF.out).mono ?_
  rintro e w2 ⟨s, b, rfl, hs, hb2⟩
  have HB2 := Lib.hid (HB1.out.trans (hb2.mono HB1.out.size))
  have HS := Lib.hid hs
  clear hb2 hs
  dsimp only
  go_wp2_with fail
  go_ret2
  exact Said2.mk s b (by exact HS.out) HB2.out
set_option maxHeartbeats 4000000 in
set_option maxRecDepth 100000 in
theorem ext_42 (d : ED) (w : World) (hx : Ext w d) (hf : Fit d) (h0 : d.x0 = 42) : Calls Tryz.prog 64 #[.agg d.es] w (Said2 BB w) := by
  have H0 := Lib.hid h0
  have HF := Lib.hid hf
  have hB1 : Below w.heap.size w (w.alloc (Obj.cells d.es 69)) := (Below.refl _ _).alloc (Nat.le_refl _) _
  have HX := Lib.hid (hx.below hB1)
  have gS : d.s1.size ≤ 140737488351232 := hx.h1
  clear hx h0 hf
  go_enter Tryz.func64, Tryz.ntmps64
  go_upto_region 1 with fail
  change Code.wp _ _ _ _ (w.alloc (Obj.cells d.es 69))
  have hM1 := heap_alloc_new w (Obj.cells d.es 69)
  generalize w.alloc (Obj.cells d.es 69) = w1 at hB1 hM1 HX ⊢
  have k0 := (bcell hM1 0).trans (es0 d H0.out)
  have HB1 := Lib.hid hB1
  have HM1 := Lib.hid hM1
  clear hB1 hM1
  have k6 := (bcell HM1.out 6).trans (ED.g6 d)
  have k7 := (bcell HM1.out 7).trans (ED.g7 d)
  cases hb : d.b7
  · rw [hb] at k7
    clear hb
    go_wp2_with fail
    go_ret2
    exact Said2.mk _ _ (Nat.zero_le _) HB1.out
  · rw [hb] at k7
    clear hb
    go_wp2_with fail
    refine (recNum_some _ 4 w1 (by omega) (by omega)).mono ?_
    rintro e w2 ⟨s, rfl, hs, hb2⟩
    have HB2 := Lib.hid (HB1.out.trans (hb2.mono HB1.out.size))
    have HS := Lib.hid hs
    clear hb2 hs
    dsimp only
    go_wp2_with fail
    go_ret2
    exact Said2.mk s _ (by have h : s.size = 4 := HS.out; show s.size ≤ _; omega) HB2.out
set_option maxHeartbeats 4000000 in
set_option maxRecDepth 100000 in
theorem ext_44 (d : ED) (w : World) (hx : Ext w d) (hf : Fit d) (h0 : d.x0 = 44) : Calls Tryz.prog 64 #[.agg d.es] w (Said2 BB w) := by
  have H0 := Lib.hid h0
  have HF := Lib.hid hf
  have hB1 : Below w.heap.size w (w.alloc (Obj.cells d.es 69)) := (Below.refl _ _).alloc (Nat.le_refl _) _
  have HX := Lib.hid (hx.below hB1)
  have gS : d.s1.size ≤ 140737488351232 := hx.h1
  clear hx h0 hf
  go_enter Tryz.func64, Tryz.ntmps64
  go_upto_region 1 with fail
  change Code.wp _ _ _ _ (w.alloc (Obj.cells d.es 69))
  have hM1 := heap_alloc_new w (Obj.cells d.es 69)
  generalize w.alloc (Obj.cells d.es 69) = w1 at hB1 hM1 HX ⊢
  have k0 := (bcell hM1 0).trans (es0 d H0.out)
  have HB1 := Lib.hid hB1
  have HM1 := Lib.hid hM1
  clear hB1 hM1
  have k1 := (bcell HM1.out 1).trans (ED.g1 d)
  go_upto_region 28 with fail
  have hS0 : Below w1.heap.size w1 w1.drew := (Below.refl _ _).drew
  refine wp_region_held (S := fun w2 => Below w1.heap.size w1 w2) (by kernel_rfl) ?_
  change wpAnyH _ _ _ _ _ 9 _ _ w1.drew
  refine wpAnyH_takeG (i := 0) (d := 106) (g := none) (op := (Op.fieldAddr 69 (Operand.tmp 1) 1)) (v := .pointer (some ⟨w.heap.size, 1, none⟩)) (by kernel_rfl) (by kernel_rfl) (by kernel_rfl) (by kernel_rfl) (fun _ _ _ h => h) rfl (fun _ _ _ _ _ => by kernel_rfl) hS0 ?_
  refine wpAnyH_ldG (i := 1) (d := 107) (g := none) (t := 9) (x := (Operand.tmp 106)) (p := ⟨w.heap.size, 1, none⟩) (u := .string d.s1) (by kernel_rfl) (by kernel_rfl) (by kernel_rfl) (by kernel_rfl) (fun _ _ _ h => h) rfl (by kernel_rfl) (fun w2 h1 => ld9 w2 _ _ (bcellv h1 k1)) hS0 ?_
  refine wpAnyH_takeG (i := 3) (d := 109) (g := none) (op := (Op.fieldAddr 69 (Operand.tmp 1) 1)) (v := .pointer (some ⟨w.heap.size, 1, none⟩)) (by kernel_rfl) (by kernel_rfl) (by kernel_rfl) (by kernel_rfl) (fun _ _ _ h => h) rfl (fun _ _ _ _ _ => by kernel_rfl) hS0 ?_
  refine wpAnyH_ldG (i := 4) (d := 110) (g := none) (t := 9) (x := (Operand.tmp 109)) (p := ⟨w.heap.size, 1, none⟩) (u := .string d.s1) (by kernel_rfl) (by kernel_rfl) (by kernel_rfl) (by kernel_rfl) (fun _ _ _ h => h) rfl (by kernel_rfl) (fun w2 h1 => ld9 w2 _ _ (bcellv h1 k1)) hS0 ?_
  refine wpAnyH_call (i := 2) (f := 50) (xs := #[(Operand.tmp 107), (Operand.const (Value.int IntKind.i64 2))]) (ats := #[9, 3]) (d := 108) (vs := #[.string d.s1, .int .i64 2]) (by kernel_rfl) (by kernel_rfl) (by kernel_rfl) (by kernel_rfl) ((recVec_some d.s1 2 w1.drew (by omega) (by omega) (by omega)).mono ?_)
  rintro e w3 ⟨N1, rfl, z1, hb⟩
  have hS3 : Below w1.heap.size w1 w3 := hS0.trans (hb.mono hS0.size)
  refine ⟨_, rfl, hS3, ?_⟩
  clear hb
  refine wpAnyH_call (i := 5) (f := 51) (xs := #[(Operand.tmp 110), (Operand.const (Value.int IntKind.i64 2))]) (ats := #[9, 3]) (d := 111) (vs := #[.string d.s1, .int .i64 2]) (by kernel_rfl) (by kernel_rfl) (by kernel_rfl) (by kernel_rfl) ((recLong_some 2 (by omega) d.s1 w3 (by omega)).mono ?_)
  rintro e w4 ⟨r, rfl, _, rfl⟩
  refine ⟨_, rfl, hS3, ?_⟩
  rename World => w4
  refine wpAnyH_takeG (i := 6) (d := 112) (g := none) (op := (Op.unOp UnOp.not 4 (Operand.tmp 111))) (v := .bool (!r)) (by kernel_rfl) (by kernel_rfl) (by kernel_rfl) (by kernel_rfl) (fun _ _ _ h => h) rfl (fun _ _ _ _ _ => by kernel_rfl) hS3 ?_
  refine wpAnyH_takeG (i := 7) (d := 2) (g := none) (op := (Op.assign (Operand.tmp 108))) (v := .string N1) (by kernel_rfl) (by kernel_rfl) (by kernel_rfl) (by kernel_rfl) (fun _ _ _ h => h) rfl (fun _ _ _ _ _ => by kernel_rfl) hS3 ?_
  refine wpAnyH_takeG (i := 8) (d := 3) (g := none) (op := (Op.assign (Operand.tmp 112))) (v := .bool (!r)) (by kernel_rfl) (by kernel_rfl) (by kernel_rfl) (by kernel_rfl) (fun _ _ _ h => h) rfl (fun _ _ _ _ _ => by kernel_rfl) hS3 ?_
  refine wpAnyH_done (by kernel_rfl) ?_ 0
  simp only [Act.put, List.setIfInBounds_toArray, List.set_cons_zero, List.set_cons_succ]
  have HBZ := Lib.hid (HB1.out.trans (hS3.mono HB1.out.size))
  clear hS0
  go_wp2_with fail
  go_ret2
  exact Said2.mk N1 _ (by show N1.size ≤ _; omega) HBZ.out
set_option maxHeartbeats 4000000 in
set_option maxRecDepth 100000 in
theorem ext_54 (d : ED) (w : World) (hx : Ext w d) (hf : Fit d) (h0 : d.x0 = 54) : Calls Tryz.prog 64 #[.agg d.es] w (Said2 BB w) := by
  have H0 := Lib.hid h0
  have HF := Lib.hid hf
  have hB1 : Below w.heap.size w (w.alloc (Obj.cells d.es 69)) := (Below.refl _ _).alloc (Nat.le_refl _) _
  have HX := Lib.hid (hx.below hB1)
  have gS : d.s1.size ≤ 140737488351232 := hx.h1
  clear hx h0 hf
  go_enter Tryz.func64, Tryz.ntmps64
  go_upto_region 1 with fail
  change Code.wp _ _ _ _ (w.alloc (Obj.cells d.es 69))
  have hM1 := heap_alloc_new w (Obj.cells d.es 69)
  generalize w.alloc (Obj.cells d.es 69) = w1 at hB1 hM1 HX ⊢
  have k0 := (bcell hM1 0).trans (es0 d H0.out)
  have HB1 := Lib.hid hB1
  have HM1 := Lib.hid hM1
  clear hB1 hM1
  have k1 := (bcell HM1.out 1).trans (ED.g1 d)
  go_upto_region 50 with fail
  have hS0 : Below w1.heap.size w1 w1.drew := (Below.refl _ _).drew
  refine wp_region_held (S := fun w2 => Below w1.heap.size w1 w2) (by kernel_rfl) ?_
  change wpAnyH _ _ _ _ _ 9 _ _ w1.drew
  refine wpAnyH_takeG (i := 0) (d := 241) (g := none) (op := (Op.fieldAddr 69 (Operand.tmp 1) 1)) (v := .pointer (some ⟨w.heap.size, 1, none⟩)) (by kernel_rfl) (by kernel_rfl) (by kernel_rfl) (by kernel_rfl) (fun _ _ _ h => h) rfl (fun _ _ _ _ _ => by kernel_rfl) hS0 ?_
  refine wpAnyH_ldG (i := 1) (d := 242) (g := none) (t := 9) (x := (Operand.tmp 241)) (p := ⟨w.heap.size, 1, none⟩) (u := .string d.s1) (by kernel_rfl) (by kernel_rfl) (by kernel_rfl) (by kernel_rfl) (fun _ _ _ h => h) rfl (by kernel_rfl) (fun w2 h1 => ld9 w2 _ _ (bcellv h1 k1)) hS0 ?_
  refine wpAnyH_takeG (i := 3) (d := 244) (g := none) (op := (Op.fieldAddr 69 (Operand.tmp 1) 1)) (v := .pointer (some ⟨w.heap.size, 1, none⟩)) (by kernel_rfl) (by kernel_rfl) (by kernel_rfl) (by kernel_rfl) (fun _ _ _ h => h) rfl (fun _ _ _ _ _ => by kernel_rfl) hS0 ?_
  refine wpAnyH_ldG (i := 4) (d := 245) (g := none) (t := 9) (x := (Operand.tmp 244)) (p := ⟨w.heap.size, 1, none⟩) (u := .string d.s1) (by kernel_rfl) (by kernel_rfl) (by kernel_rfl) (by kernel_rfl) (fun _ _ _ h => h) rfl (by kernel_rfl) (fun w2 h1 => ld9 w2 _ _ (bcellv h1 k1)) hS0 ?_
  refine wpAnyH_call (i := 2) (f := 50) (xs := #[(Operand.tmp 242), (Operand.const (Value.int IntKind.i64 1))]) (ats := #[9, 3]) (d := 243) (vs := #[.string d.s1, .int .i64 1]) (by kernel_rfl) (by kernel_rfl) (by kernel_rfl) (by kernel_rfl) ((recVec_some d.s1 1 w1.drew (by omega) (by omega) (by omega)).mono ?_)
  rintro e w3 ⟨N1, rfl, z1, hb⟩
  have hS3 : Below w1.heap.size w1 w3 := hS0.trans (hb.mono hS0.size)
  refine ⟨_, rfl, hS3, ?_⟩
  clear hb
  refine wpAnyH_call (i := 5) (f := 51) (xs := #[(Operand.tmp 245), (Operand.const (Value.int IntKind.i64 1))]) (ats := #[9, 3]) (d := 246) (vs := #[.string d.s1, .int .i64 1]) (by kernel_rfl) (by kernel_rfl) (by kernel_rfl) (by kernel_rfl) ((recLong_some 1 (by omega) d.s1 w3 (by omega)).mono ?_)
  rintro e w4 ⟨r, rfl, _, rfl⟩
  refine ⟨_, rfl, hS3, ?_⟩
  rename World => w4
  refine wpAnyH_takeG (i := 6) (d := 247) (g := none) (op := (Op.unOp UnOp.not 4 (Operand.tmp 246))) (v := .bool (!r)) (by kernel_rfl) (by kernel_rfl) (by kernel_rfl) (by kernel_rfl) (fun _ _ _ h => h) rfl (fun _ _ _ _ _ => by kernel_rfl) hS3 ?_
  refine wpAnyH_takeG (i := 7) (d := 2) (g := none) (op := (Op.assign (Operand.tmp 243))) (v := .string N1) (by kernel_rfl) (by kernel_rfl) (by kernel_rfl) (by kernel_rfl) (fun _ _ _ h => h) rfl (fun _ _ _ _ _ => by kernel_rfl) hS3 ?_
  refine wpAnyH_takeG (i := 8) (d := 3) (g := none) (op := (Op.assign (Operand.tmp 247))) (v := .bool (!r)) (by kernel_rfl) (by kernel_rfl) (by kernel_rfl) (by kernel_rfl) (fun _ _ _ h => h) rfl (fun _ _ _ _ _ => by kernel_rfl) hS3 ?_
  refine wpAnyH_done (by kernel_rfl) ?_ 0
  simp only [Act.put, List.setIfInBounds_toArray, List.set_cons_zero, List.set_cons_succ]
  have HBZ := Lib.hid (HB1.out.trans (hS3.mono HB1.out.size))
  clear hS0
  go_wp2_with fail
  go_ret2
  exact Said2.mk N1 _ (by show N1.size ≤ _; omega) HBZ.out
set_option maxHeartbeats 4000000 in
set_option maxRecDepth 100000 in
theorem ext_14 (d : ED) (w : World) (hx : Ext w d) (hf : Fit d) (h0 : d.x0 = 14) : Calls Tryz.prog 64 #[.agg d.es] w (Said2 BB w) := by
  have H0 := Lib.hid h0
  have HF := Lib.hid hf
  have hB1 : Below w.heap.size w (w.alloc (Obj.cells d.es 69)) := (Below.refl _ _).alloc (Nat.le_refl _) _
  have HX := Lib.hid (hx.below hB1)
  have gS : d.s1.size ≤ 140737488351232 := hx.h1
  clear hx h0 hf
  go_enter Tryz.func64, Tryz.ntmps64
  go_upto_region 1 with fail
  change Code.wp _ _ _ _ (w.alloc (Obj.cells d.es 69))
  have hM1 := heap_alloc_new w (Obj.cells d.es 69)
  generalize w.alloc (Obj.cells d.es 69) = w1 at hB1 hM1 HX ⊢
  have k0 := (bcell hM1 0).trans (es0 d H0.out)
  have HB1 := Lib.hid hB1
  have HM1 := Lib.hid hM1
  clear hB1 hM1
  have k1 := (bcell HM1.out 1).trans (ED.g1 d)
  have k3 := (bcell HM1.out 3).trans (ED.g3 d)
  have gN : d.n3 ≤ 140737488351232 := HX.out.o3.2.2
  by_cases c : (d.n3 : Int) < 32768
  · go_upto_region 13 with fail
    have hS0 : Below w1.heap.size w1 w1.drew := (Below.refl _ _).drew
    refine wp_region_held (S := fun w2 => Below w1.heap.size w1 w2) (by kernel_rfl) ?_
    change wpAnyH _ _ _ _ _ 20 _ _ w1.drew
    refine wpAnyH_takeG (i := 0) (d := 52) (g := none) (op := (Op.fieldAddr 69 (Operand.tmp 1) 3)) (v := .pointer (some ⟨w.heap.size, 3, none⟩)) (by kernel_rfl) (by kernel_rfl) (by kernel_rfl) (by kernel_rfl) (fun _ _ _ h => h) rfl (fun _ _ _ _ _ => by kernel_rfl) hS0 ?_
    refine wpAnyH_ldG (i := 1) (d := 53) (g := none) (t := 23) (x := (Operand.tmp 52)) (p := ⟨w.heap.size, 3, none⟩) (u := .slice d.p3 d.n3 d.c3) (by kernel_rfl) (by kernel_rfl) (by kernel_rfl) (by kernel_rfl) (fun _ _ _ h => h) rfl (by kernel_rfl) (fun w2 h1 => ld23 w2 _ _ (bcellv h1 k3)) hS0 ?_
    refine wpAnyH_takeG (i := 4) (d := 56) (g := none) (op := (Op.fieldAddr 69 (Operand.tmp 1) 1)) (v := .pointer (some ⟨w.heap.size, 1, none⟩)) (by kernel_rfl) (by kernel_rfl) (by kernel_rfl) (by kernel_rfl) (fun _ _ _ h => h) rfl (fun _ _ _ _ _ => by kernel_rfl) hS0 ?_
    refine wpAnyH_ldG (i := 5) (d := 57) (g := none) (t := 9) (x := (Operand.tmp 56)) (p := ⟨w.heap.size, 1, none⟩) (u := .string d.s1) (by kernel_rfl) (by kernel_rfl) (by kernel_rfl) (by kernel_rfl) (fun _ _ _ h => h) rfl (by kernel_rfl) (fun w2 h1 => ld9 w2 _ _ (bcellv h1 k1)) hS0 ?_
    refine wpAnyH_takeG (i := 8) (d := 60) (g := none) (op := (Op.fieldAddr 69 (Operand.tmp 1) 3)) (v := .pointer (some ⟨w.heap.size, 3, none⟩)) (by kernel_rfl) (by kernel_rfl) (by kernel_rfl) (by kernel_rfl) (fun _ _ _ h => h) rfl (fun _ _ _ _ _ => by kernel_rfl) hS0 ?_
    refine wpAnyH_ldG (i := 9) (d := 61) (g := none) (t := 23) (x := (Operand.tmp 60)) (p := ⟨w.heap.size, 3, none⟩) (u := .slice d.p3 d.n3 d.c3) (by kernel_rfl) (by kernel_rfl) (by kernel_rfl) (by kernel_rfl) (fun _ _ _ h => h) rfl (by kernel_rfl) (fun w2 h1 => ld23 w2 _ _ (bcellv h1 k3)) hS0 ?_
    refine wpAnyH_takeG (i := 10) (d := 62) (g := none) (op := (Op.call { callee := (Callee.builtin Builtin.len), args := #[(Operand.tmp 61)], argTypes := #[23] })) (v := .int .i64 (d.n3 : Int)) (by kernel_rfl) (by kernel_rfl) (by kernel_rfl) (by kernel_rfl) (fun _ _ _ h => h) rfl (fun _ _ _ _ _ => by kernel_rfl) hS0 ?_
    refine wpAnyH_takeG (i := 11) (d := 63) (g := none) (op := (Op.binOp BinOp.lss 3 (Operand.tmp 62) (Operand.const (Value.int IntKind.i64 32768)) 3)) (v := .bool true) (by kernel_rfl) (by kernel_rfl) (by kernel_rfl) (by kernel_rfl) (fun _ _ _ h => h) rfl (fun ty pos af w2 _ => lss_run _ _ _ (by kernel_rfl) (by kernel_rfl) (by simp only [decide_eq_true_eq, decide_eq_false_iff_not]; omega) w2) hS0 ?_
    refine wpAnyH_call (i := 2) (f := 88) (xs := #[(Operand.tmp 53), (Operand.const (Value.int IntKind.i64 2))]) (ats := #[23, 3]) (d := 54) (vs := #[.slice d.p3 d.n3 d.c3, .int .i64 2]) (by kernel_rfl) (by kernel_rfl) (by kernel_rfl) (by kernel_rfl) ((extnums_any 2 (by omega) (by omega) d.p3 d.n3 d.c3 d.u3 w1.drew HX.out.o3 (HX.out.r3.below hS0)).mono ?_)
    rintro e w3 ⟨N1, rfl, z1, hb⟩
    have hS3 : Below w1.heap.size w1 w3 := hS0.trans (hb.mono hS0.size)
    refine ⟨_, rfl, hS3, ?_⟩
    clear hb
    refine wpAnyH_call (i := 3) (f := 50) (xs := #[(Operand.tmp 54), (Operand.const (Value.int IntKind.i64 2))]) (ats := #[9, 3]) (d := 55) (vs := #[.string N1, .int .i64 2]) (by kernel_rfl) (by kernel_rfl) (by kernel_rfl) (by kernel_rfl) ((recVec_some N1 2 w3 (by omega) (by omega) (by omega)).mono ?_)
    rintro e w4 ⟨N2, rfl, z2, hb⟩
    have hS4 : Below w1.heap.size w1 w4 := hS3.trans (hb.mono hS3.size)
    refine ⟨_, rfl, hS4, ?_⟩
    clear hb
    refine wpAnyH_call (i := 6) (f := 50) (xs := #[(Operand.tmp 57), (Operand.const (Value.int IntKind.i64 1))]) (ats := #[9, 3]) (d := 58) (vs := #[.string d.s1, .int .i64 1]) (by kernel_rfl) (by kernel_rfl) (by kernel_rfl) (by kernel_rfl) ((recVec_some d.s1 1 w4 (by omega) (by omega) (by omega)).mono ?_)
    rintro e w5 ⟨N3, rfl, z3, hb⟩
    have hS5 : Below w1.heap.size w1 w5 := hS4.trans (hb.mono hS4.size)
    refine ⟨_, rfl, hS5, ?_⟩
    clear hb
    have e0 : (N2 ++ N3).size = N2.size + N3.size := ByteArray.size_append
    refine wpAnyH_takeG (i := 7) (d := 59) (g := none) (op := (Op.binOp BinOp.add 9 (Operand.tmp 55) (Operand.tmp 58) 9)) (v := .string (N2 ++ N3)) (by kernel_rfl) (by kernel_rfl) (by kernel_rfl) (by kernel_rfl) (fun _ _ _ h => h) rfl (fun ty pos af w2 _ => cat_run _ _ _ (by kernel_rfl) (by kernel_rfl) (by omega) w2) hS5 ?_
    refine wpAnyH_takeG (i := 12) (d := 64) (g := none) (op := (Op.move (Operand.tmp 63))) (v := .bool true) (by kernel_rfl) (by kernel_rfl) (by kernel_rfl) (by kernel_rfl) (fun _ _ _ h => h) rfl (fun _ _ _ _ _ => by kernel_rfl) hS5 ?_
    refine wpAnyH_takeG (i := 13) (d := 65) (g := (some (12, true))) (op := (Op.fieldAddr 69 (Operand.tmp 1) 1)) (v := .pointer (some ⟨w.heap.size, 1, none⟩)) (by kernel_rfl) (by kernel_rfl) (by kernel_rfl) (by kernel_rfl) (fun _ _ _ h => h) (by kernel_rfl) (fun _ _ _ _ _ => by kernel_rfl) hS5 ?_
    refine wpAnyH_ldG (i := 14) (d := 66) (g := (some (12, true))) (t := 9) (x := (Operand.tmp 65)) (p := ⟨w.heap.size, 1, none⟩) (u := .string d.s1) (by kernel_rfl) (by kernel_rfl) (by kernel_rfl) (by kernel_rfl) (fun _ _ _ h => h) (by kernel_rfl) (by kernel_rfl) (fun w2 h1 => ld9 w2 _ _ (bcellv h1 k1)) hS5 ?_
    refine wpAnyH_callG (i := 15) (g := some (12, true)) (f := 51) (xs := #[(Operand.tmp 66), (Operand.const (Value.int IntKind.i64 1))]) (ats := #[9, 3]) (d := 67) (vs := #[.string d.s1, .int .i64 1]) (by kernel_rfl) (by kernel_rfl) (by kernel_rfl) (by kernel_rfl) (by kernel_rfl) ((recLong_some 1 (by omega) d.s1 w5 (by omega)).mono ?_)
    rintro e w6 ⟨r, rfl, _, rfl⟩
    refine ⟨_, rfl, hS5, ?_⟩
    rename World => w6
    refine wpAnyH_takeG (i := 16) (d := 68) (g := (some (12, true))) (op := (Op.unOp UnOp.not 4 (Operand.tmp 67))) (v := .bool (!r)) (by kernel_rfl) (by kernel_rfl) (by kernel_rfl) (by kernel_rfl) (fun _ _ _ h => h) (by kernel_rfl) (fun _ _ _ _ _ => by kernel_rfl) hS5 ?_
    refine wpAnyH_takeG (i := 17) (d := 69) (g := none) (op := (Op.pick (Operand.tmp 64) (Operand.tmp 68) (Operand.const (Value.bool false)))) (v := .bool (!r)) (by kernel_rfl) (by kernel_rfl) (by kernel_rfl) (by kernel_rfl) (fun _ _ _ h => h) rfl (fun _ _ _ _ _ => by kernel_rfl) hS5 ?_
    refine wpAnyH_takeG (i := 18) (d := 2) (g := none) (op := (Op.assign (Operand.tmp 59))) (v := .string (N2 ++ N3)) (by kernel_rfl) (by kernel_rfl) (by kernel_rfl) (by kernel_rfl) (fun _ _ _ h => h) rfl (fun _ _ _ _ _ => by kernel_rfl) hS5 ?_
    refine wpAnyH_takeG (i := 19) (d := 3) (g := none) (op := (Op.assign (Operand.tmp 69))) (v := .bool (!r)) (by kernel_rfl) (by kernel_rfl) (by kernel_rfl) (by kernel_rfl) (fun _ _ _ h => h) rfl (fun _ _ _ _ _ => by kernel_rfl) hS5 ?_
    refine wpAnyH_done (by kernel_rfl) ?_ 0
    simp only [Act.put, List.setIfInBounds_toArray, List.set_cons_zero, List.set_cons_succ]
    have HBZ := Lib.hid (HB1.out.trans (hS5.mono HB1.out.size))
    clear hS0
    go_wp2_with fail
    go_ret2
    exact Said2.mk (N2 ++ N3) _ (by show (N2 ++ N3).size ≤ _; omega) HBZ.out
  · go_upto_region 13 with fail
    have hS0 : Below w1.heap.size w1 w1.drew := (Below.refl _ _).drew
    refine wp_region_held (S := fun w2 => Below w1.heap.size w1 w2) (by kernel_rfl) ?_
    change wpAnyH _ _ _ _ _ 20 _ _ w1.drew
    refine wpAnyH_takeG (i := 0) (d := 52) (g := none) (op := (Op.fieldAddr 69 (Operand.tmp 1) 3)) (v := .pointer (some ⟨w.heap.size, 3, none⟩)) (by kernel_rfl) (by kernel_rfl) (by kernel_rfl) (by kernel_rfl) (fun _ _ _ h => h) rfl (fun _ _ _ _ _ => by kernel_rfl) hS0 ?_
    refine wpAnyH_ldG (i := 1) (d := 53) (g := none) (t := 23) (x := (Operand.tmp 52)) (p := ⟨w.heap.size, 3, none⟩) (u := .slice d.p3 d.n3 d.c3) (by kernel_rfl) (by kernel_rfl) (by kernel_rfl) (by kernel_rfl) (fun _ _ _ h => h) rfl (by kernel_rfl) (fun w2 h1 => ld23 w2 _ _ (bcellv h1 k3)) hS0 ?_
    refine wpAnyH_takeG (i := 4) (d := 56) (g := none) (op := (Op.fieldAddr 69 (Operand.tmp 1) 1)) (v := .pointer (some ⟨w.heap.size, 1, none⟩)) (by kernel_rfl) (by kernel_rfl) (by kernel_rfl) (by kernel_rfl) (fun _ _ _ h => h) rfl (fun _ _ _ _ _ => by kernel_rfl) hS0 ?_
    refine wpAnyH_ldG (i := 5) (d := 57) (g := none) (t := 9) (x := (Operand.tmp 56)) (p := ⟨w.heap.size, 1, none⟩) (u := .string d.s1) (by kernel_rfl) (by kernel_rfl) (by kernel_rfl) (by kernel_rfl) (fun _ _ _ h => h) rfl (by kernel_rfl) (fun w2 h1 => ld9 w2 _ _ (bcellv h1 k1)) hS0 ?_
    refine wpAnyH_takeG (i := 8) (d := 60) (g := none) (op := (Op.fieldAddr 69 (Operand.tmp 1) 3)) (v := .pointer (some ⟨w.heap.size, 3, none⟩)) (by kernel_rfl) (by kernel_rfl) (by kernel_rfl) (by kernel_rfl) (fun _ _ _ h => h) rfl (fun _ _ _ _ _ => by kernel_rfl) hS0 ?_
    refine wpAnyH_ldG (i := 9) (d := 61) (g := none) (t := 23) (x := (Operand.tmp 60)) (p := ⟨w.heap.size, 3, none⟩) (u := .slice d.p3 d.n3 d.c3) (by kernel_rfl) (by kernel_rfl) (by kernel_rfl) (by kernel_rfl) (fun _ _ _ h => h) rfl (by kernel_rfl) (fun w2 h1 => ld23 w2 _ _ (bcellv h1 k3)) hS0 ?_
    refine wpAnyH_takeG (i := 10) (d := 62) (g := none) (op := (Op.call { callee := (Callee.builtin Builtin.len), args := #[(Operand.tmp 61)], argTypes := #[23] })) (v := .int .i64 (d.n3 : Int)) (by kernel_rfl) (by kernel_rfl) (by kernel_rfl) (by kernel_rfl) (fun _ _ _ h => h) rfl (fun _ _ _ _ _ => by kernel_rfl) hS0 ?_
    refine wpAnyH_takeG (i := 11) (d := 63) (g := none) (op := (Op.binOp BinOp.lss 3 (Operand.tmp 62) (Operand.const (Value.int IntKind.i64 32768)) 3)) (v := .bool false) (by kernel_rfl) (by kernel_rfl) (by kernel_rfl) (by kernel_rfl) (fun _ _ _ h => h) rfl (fun ty pos af w2 _ => lss_run _ _ _ (by kernel_rfl) (by kernel_rfl) (by simp only [decide_eq_true_eq, decide_eq_false_iff_not]; omega) w2) hS0 ?_
    refine wpAnyH_call (i := 2) (f := 88) (xs := #[(Operand.tmp 53), (Operand.const (Value.int IntKind.i64 2))]) (ats := #[23, 3]) (d := 54) (vs := #[.slice d.p3 d.n3 d.c3, .int .i64 2]) (by kernel_rfl) (by kernel_rfl) (by kernel_rfl) (by kernel_rfl) ((extnums_any 2 (by omega) (by omega) d.p3 d.n3 d.c3 d.u3 w1.drew HX.out.o3 (HX.out.r3.below hS0)).mono ?_)
    rintro e w3 ⟨N1, rfl, z1, hb⟩
    have hS3 : Below w1.heap.size w1 w3 := hS0.trans (hb.mono hS0.size)
    refine ⟨_, rfl, hS3, ?_⟩
    clear hb
    refine wpAnyH_call (i := 3) (f := 50) (xs := #[(Operand.tmp 54), (Operand.const (Value.int IntKind.i64 2))]) (ats := #[9, 3]) (d := 55) (vs := #[.string N1, .int .i64 2]) (by kernel_rfl) (by kernel_rfl) (by kernel_rfl) (by kernel_rfl) ((recVec_some N1 2 w3 (by omega) (by omega) (by omega)).mono ?_)
    rintro e w4 ⟨N2, rfl, z2, hb⟩
    have hS4 : Below w1.heap.size w1 w4 := hS3.trans (hb.mono hS3.size)
    refine ⟨_, rfl, hS4, ?_⟩
    clear hb
    refine wpAnyH_call (i := 6) (f := 50) (xs := #[(Operand.tmp 57), (Operand.const (Value.int IntKind.i64 1))]) (ats := #[9, 3]) (d := 58) (vs := #[.string d.s1, .int .i64 1]) (by kernel_rfl) (by kernel_rfl) (by kernel_rfl) (by kernel_rfl) ((recVec_some d.s1 1 w4 (by omega) (by omega) (by omega)).mono ?_)
    rintro e w5 ⟨N3, rfl, z3, hb⟩
    have hS5 : Below w1.heap.size w1 w5 := hS4.trans (hb.mono hS4.size)
    refine ⟨_, rfl, hS5, ?_⟩
    clear hb
    have e0 : (N2 ++ N3).size = N2.size + N3.size := ByteArray.size_append
    refine wpAnyH_takeG (i := 7) (d := 59) (g := none) (op := (Op.binOp BinOp.add 9 (Operand.tmp 55) (Operand.tmp 58) 9)) (v := .string (N2 ++ N3)) (by kernel_rfl) (by kernel_rfl) (by kernel_rfl) (by kernel_rfl) (fun _ _ _ h => h) rfl (fun ty pos af w2 _ => cat_run _ _ _ (by kernel_rfl) (by kernel_rfl) (by omega) w2) hS5 ?_
    refine wpAnyH_takeG (i := 12) (d := 64) (g := none) (op := (Op.move (Operand.tmp 63))) (v := .bool false) (by kernel_rfl) (by kernel_rfl) (by kernel_rfl) (by kernel_rfl) (fun _ _ _ h => h) rfl (fun _ _ _ _ _ => by kernel_rfl) hS5 ?_
    refine wpAnyH_pass (i := 13) (d := 65) (g := (some (12, true))) (op := (Op.fieldAddr 69 (Operand.tmp 1) 1)) (by kernel_rfl) (by kernel_rfl) (by kernel_rfl) (by kernel_rfl) (fun _ _ _ h => h) (by kernel_rfl) hS5 ?_
    refine wpAnyH_pass (i := 14) (d := 66) (g := (some (12, true))) (op := (Op.load 9 (Operand.tmp 65))) (by kernel_rfl) (by kernel_rfl) (by kernel_rfl) (by kernel_rfl) (fun _ _ _ h => h) (by kernel_rfl) hS5 ?_
    refine wpAnyH_pass (i := 15) (d := 67) (g := (some (12, true))) (op := (Op.call { callee := (Callee.value (Operand.func 51)), args := #[(Operand.tmp 66), (Operand.const (Value.int IntKind.i64 1))], argTypes := #[9, 3] })) (by kernel_rfl) (by kernel_rfl) (by kernel_rfl) (by kernel_rfl) (fun _ _ _ h => h) (by kernel_rfl) hS5 ?_
    refine wpAnyH_pass (i := 16) (d := 68) (g := (some (12, true))) (op := (Op.unOp UnOp.not 4 (Operand.tmp 67))) (by kernel_rfl) (by kernel_rfl) (by kernel_rfl) (by kernel_rfl) (fun _ _ _ h => h) (by kernel_rfl) hS5 ?_
    refine wpAnyH_takeG (i := 17) (d := 69) (g := none) (op := (Op.pick (Operand.tmp 64) (Operand.tmp 68) (Operand.const (Value.bool false)))) (v := .bool false) (by kernel_rfl) (by kernel_rfl) (by kernel_rfl) (by kernel_rfl) (fun _ _ _ h => h) rfl (fun _ _ _ _ _ => by kernel_rfl) hS5 ?_
    refine wpAnyH_takeG (i := 18) (d := 2) (g := none) (op := (Op.assign (Operand.tmp 59))) (v := .string (N2 ++ N3)) (by kernel_rfl) (by kernel_rfl) (by kernel_rfl) (by kernel_rfl) (fun _ _ _ h => h) rfl (fun _ _ _ _ _ => by kernel_rfl) hS5 ?_
    refine wpAnyH_takeG (i := 19) (d := 3) (g := none) (op := (Op.assign (Operand.tmp 69))) (v := .bool false) (by kernel_rfl) (by kernel_rfl) (by kernel_rfl) (by kernel_rfl) (fun _ _ _ h => h) rfl (fun _ _ _ _ _ => by kernel_rfl) hS5 ?_
    refine wpAnyH_done (by kernel_rfl) ?_ 0
    simp only [Act.put, List.setIfInBounds_toArray, List.set_cons_zero, List.set_cons_succ]
    have HBZ := Lib.hid (HB1.out.trans (hS5.mono HB1.out.size))
    clear hS0
    go_wp2_with fail
    go_ret2
    exact Said2.mk (N2 ++ N3) _ (by show (N2 ++ N3).size ≤ _; omega) HBZ.out
end Go.Proofs.YtgnmgkpfgmpdfaaGreatDoor
