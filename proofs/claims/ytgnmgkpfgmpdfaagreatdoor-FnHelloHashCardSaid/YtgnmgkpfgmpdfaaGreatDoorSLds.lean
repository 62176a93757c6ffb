/- laws.plainExt, by the type (3). -/
import Derived.Test.YtgnmgkpfgmpdfaaGreatDoorSChk3
import Derived.Test.YtgnmgkpfgmpdfaaGreatDoorSOff
import Derived.Test.YtgnmgkpfgmpdfaaGreatDoorSExts
set_option linter.unusedVariables false
set_option linter.unusedSimpArgs false
section
namespace Go.Proofs.YtgnmgkpfgmpdfaaGreatDoor
open Go.RowKit

theorem load65' (W : World) (p : Addr) (u : Value) (h : W.cell? p = some u) : (Instr.loadAt 65 (.pointer (some p))).run Tryz.prog W = .ok u W := by
  simp [go_sem, Instr.loadAt, Instr.sureAddr, loadVar, h]
theorem wpList_ldG {ops : Array Oper} {rest : List Oper} {o : Oper} {a : Act} {w : World} {Q : Exit → Act → World → Prop} (hgd : Region.wanted o (yielded ops a.tmps) = true) (t : TypeId) (x : Operand) (ho : o.op = .load t x) (p : Addr) (u : Value) (hx : a.eval x = .pointer (some p))
    (hrun : (Instr.loadAt t (.pointer (some p))).run Tryz.prog w = .ok u w) (h : wpList Tryz.prog ops Q rest (a.put o.dst u) w) : wpList Tryz.prog ops Q (o :: rest) a w := by
  unfold wpList
  rw [if_pos hgd]
  refine .inl ?_
  unfold Oper.wp execOp
  simp only [ho, hx, Sem.run_bind, hrun, Result.andThen_ok, Sem.run_pure, Oper.upon]
  exact h
theorem idxAt0 {b o n : Nat} (c : Nat) (hn : 0 < n) (w : World) : (Instr.indexAt 65 (.slice (some ⟨b, o, none⟩) n c) (.int .i64 0)).run Tryz.prog w = .ok (.pointer (some ⟨b, o, none⟩)) w := by
  simp [Instr.indexAt, go_sem, hn, Addr.add]
set_option maxHeartbeats 4000000 in
set_option maxRecDepth 100000 in
theorem plain_41 (d : ED) (w : World) (hx : Ext w d) (hf : Fit d) (h0 : d.x0 = 41) : Tell 29 #[.agg d.es] w True := by
  have H0 := Lib.hid h0
  have HF := Lib.hid hf
  have hB1 : Below w.heap.size w (w.alloc (Obj.cells d.es 69)) := (Below.refl _ _).alloc (Nat.le_refl _) _
  have HX := Lib.hid (hx.below hB1)
  unfold Tell
  clear hx h0 hf
  go_enter Tryz.func29, Tryz.ntmps29
  go_upto_region 1 with fail
  change Code.wp _ _ _ _ (w.alloc (Obj.cells d.es 69))
  have hM1 := heap_alloc_new w (Obj.cells d.es 69)
  generalize w.alloc (Obj.cells d.es 69) = w1 at hB1 hM1 HX ⊢
  have k0 := (bcell hM1 0).trans (es0 d H0.out)
  have HB1 := Lib.hid hB1
  have HM1 := Lib.hid hM1
  clear hB1 hM1
  have k11 := (bcell HM1.out 11).trans (ED.g11 d)
  by_cases h1 : (d.n11 : Int) = 0
  · go_wp2_with fail
    go_ret
    exact Told.some _ trivial HB1.out
  · go_wp2_with (refine wpList_ldG (by simp [Region.wanted, yielded, h1]; omega) 69 (.tmp 1) rfl ⟨w.heap.size, 0, none⟩ (.agg d.es) (by kernel_rfl) (loadRow w1 HM1.out Tryz.underlying69 rfl (hi69 d)) ?_)
    refine (offered_any d w1 HX.out HF.out).mono ?_
    rintro e w2 ⟨r, rfl, _, hb2⟩
    have HB2 := Lib.hid (HB1.out.trans (hb2.mono HB1.out.size))
    clear hb2
    dsimp only
    go_wp2_with fail
    go_ret
    exact Told.some _ trivial HB2.out
set_option maxHeartbeats 4000000 in
set_option maxRecDepth 100000 in
theorem plain_48 (d : ED) (w : World) (hx : Ext w d) (hf : Fit d) (h0 : d.x0 = 48) : Tell 29 #[.agg d.es] w True := by
  have H0 := Lib.hid h0
  have HF := Lib.hid hf
  have hB1 : Below w.heap.size w (w.alloc (Obj.cells d.es 69)) := (Below.refl _ _).alloc (Nat.le_refl _) _
  have HX := Lib.hid (hx.below hB1)
  unfold Tell
  clear hx h0 hf
  go_enter Tryz.func29, Tryz.ntmps29
  go_upto_region 1 with fail
  change Code.wp _ _ _ _ (w.alloc (Obj.cells d.es 69))
  have hM1 := heap_alloc_new w (Obj.cells d.es 69)
  generalize w.alloc (Obj.cells d.es 69) = w1 at hB1 hM1 HX ⊢
  have k0 := (bcell hM1 0).trans (es0 d H0.out)
  have HB1 := Lib.hid hB1
  have HM1 := Lib.hid hM1
  clear hB1 hM1
  have k12 := (bcell HM1.out 12).trans (ED.g12 d)
  go_wp2_with fail
  refine (filters_any d.p12 d.n12 d.c12 d.a12 d.z12 w1 HX.out.o12 HX.out.r12).mono ?_
  rintro e w2 ⟨r, rfl, _, hb2⟩
  have HB2 := Lib.hid (HB1.out.trans (hb2.mono HB1.out.size))
  clear hb2
  dsimp only
  go_wp2_with fail
  go_ret
  exact Told.some _ trivial HB2.out
set_option maxHeartbeats 4000000 in
set_option maxRecDepth 100000 in
theorem plain_51 (d : ED) (w : World) (hx : Ext w d) (hf : Fit d) (h0 : d.x0 = 51) : Tell 29 #[.agg d.es] w True := by
  have H0 := Lib.hid h0
  have HF := Lib.hid hf
  have hB1 : Below w.heap.size w (w.alloc (Obj.cells d.es 69)) := (Below.refl _ _).alloc (Nat.le_refl _) _
  have HX := Lib.hid (hx.below hB1)
  unfold Tell
  clear hx h0 hf
  go_enter Tryz.func29, Tryz.ntmps29
  go_upto_region 1 with fail
  change Code.wp _ _ _ _ (w.alloc (Obj.cells d.es 69))
  have hM1 := heap_alloc_new w (Obj.cells d.es 69)
  generalize w.alloc (Obj.cells d.es 69) = w1 at hB1 hM1 HX ⊢
  have k0 := (bcell hM1 0).trans (es0 d H0.out)
  have HB1 := Lib.hid hB1
  have HM1 := Lib.hid hM1
  clear hB1 hM1
  have k8 := (bcell HM1.out 8).trans (ED.g8 d)
  have k9 := (bcell HM1.out 9).trans (ED.g9 d)
  have k10 := (bcell HM1.out 10).trans (ED.g10 d)
  by_cases h1 : (d.n10 : Int) = 1
  · obtain ⟨b9, o9, e9, c1⟩ := HX.out.r10 0 (by omega)
    simp only [Nat.add_zero] at c1
    have g9 : (0 : Int) < d.n10 := by omega
    have k10' : w1.cell? ⟨w.heap.size, 10, none⟩ = some (.slice (some ⟨b9, o9, none⟩) d.n10 d.c10) := by rw [← e9]; exact k10
    clear k10 e9
    go_wp2_with fail
    have hb5 := (Below.refl w1.heap.size w1).alloc (Nat.le_refl _) (Obj.cells #[.int .u16 23, .int .u16 24, .int .u16 29] 28)
    have hs5 := new_sl1 w1 #[.int .u16 23, .int .u16 24, .int .u16 29] 3 (fun j => ([23, 24, 29] : List Int).getD j 0) (fun j hj => by
      match j, hj with
      | 0, _ => rfl
      | 1, _ => rfl
      | 2, _ => rfl
      | j + 3, hj => omega)
    generalize w1.alloc (Obj.cells #[.int .u16 23, .int .u16 24, .int .u16 29] 28) = w5 at hb5 hs5 ⊢
    have HB5 := Lib.hid (HB1.out.trans (hb5.mono HB1.out.size))
    clear hb5
    refine (among_any _ (some ⟨w1.heap.size, 0, none⟩) 3 3 _ w5 (by decide) hs5).mono ?_
    rintro e w6 ⟨r, rfl, _, rfl⟩
    clear hs5
    dsimp only
    go_wp2_with fail
    go_ret
    exact Told.some _ trivial HB5.out
  · by_cases h2 : (d.n9 : Int) = 1
    · obtain ⟨b9, o9, e9, c1, c2⟩ := HX.out.r9 0 (by omega)
      simp only [Nat.zero_mul, Nat.add_zero] at c1 c2
      have g9 : 0 < d.n9 := by omega
      have k9' : w1.cell? ⟨w.heap.size, 9, none⟩ = some (.slice (some ⟨b9, o9, none⟩) d.n9 d.c9) := by rw [← e9]; exact k9
      have HO9 := Lib.hid (e9 ▸ HX.out.o9 : NilOk (some ⟨b9, o9, none⟩) d.n9 d.c9)
      have HR9 := Lib.hid (e9 ▸ HX.out.r9 : Sl2 w1 (some ⟨b9, o9, none⟩) d.n9 (fun j => .int .u16 (d.a9 j)) (fun j => .string (d.z9 j)))
      clear k9 e9
      go_upto_region 36 with fail
      have hS0 : Below w1.heap.size w1 w1.drew := (Below.refl _ _).drew
      refine wp_region_held (S := fun w2 => Below w1.heap.size w1 w2) (by kernel_rfl) ?_
      change wpAnyH _ _ _ _ _ 20 _ _ w1.drew
      refine wpAnyH_takeG (i := 0) (d := 165) (g := none) (op := (Op.fieldAddr 69 (Operand.tmp 1) 9)) (v := .pointer (some ⟨w.heap.size, 9, none⟩)) (by kernel_rfl) (by kernel_rfl) (by kernel_rfl) (by kernel_rfl) (fun _ _ _ h => h) rfl (fun _ _ _ _ _ => by kernel_rfl) hS0 ?_
      refine wpAnyH_ldG (i := 1) (d := 166) (g := none) (t := 65) (x := (Operand.tmp 165)) (p := ⟨w.heap.size, 9, none⟩) (u := .slice (some ⟨b9, o9, none⟩) d.n9 d.c9) (by kernel_rfl) (by kernel_rfl) (by kernel_rfl) (by kernel_rfl) (fun _ _ _ h => h) rfl (by kernel_rfl) (fun w2 h1 => load65' w2 _ _ (bcellv h1 k9')) hS0 ?_
      refine wpAnyH_call (i := 2) (f := 69) (xs := #[(Operand.tmp 166)]) (ats := #[65]) (d := 167) (vs := #[.slice (some ⟨b9, o9, none⟩) d.n9 d.c9]) (by kernel_rfl) (by kernel_rfl) (by kernel_rfl) (by kernel_rfl) ((shares_any (some ⟨b9, o9, none⟩) d.n9 d.c9 d.a9 d.z9 w1.drew HO9.out (HR9.out.below hS0)).mono ?_)
      rintro e w3 ⟨r, rfl, _, hb3⟩
      have hS3 : Below w1.heap.size w1 w3 := hS0.trans (hb3.mono hS0.size)
      refine ⟨_, rfl, hS3, ?_⟩
      clear hb3
      refine wpAnyH_takeG (i := 3) (d := 168) (g := none) (op := (Op.move (Operand.tmp 167))) (v := .bool r) (by kernel_rfl) (by kernel_rfl) (by kernel_rfl) (by kernel_rfl) (fun _ _ _ h => h) rfl (fun _ _ _ _ _ => by kernel_rfl) hS3 ?_
      cases r
      rotate_left
      · refine wpAnyH_takeG (i := 4) (d := 169) (g := (some (3, true))) (op := (Op.fieldAddr 69 (Operand.tmp 1) 9)) (v := .pointer (some ⟨w.heap.size, 9, none⟩)) (by kernel_rfl) (by kernel_rfl) (by kernel_rfl) (by kernel_rfl) (fun _ _ _ h => h) (by kernel_rfl) (fun _ _ _ _ _ => by kernel_rfl) hS3 ?_
        refine wpAnyH_ldG (i := 5) (d := 170) (g := (some (3, true))) (t := 65) (x := (Operand.tmp 169)) (p := ⟨w.heap.size, 9, none⟩) (u := .slice (some ⟨b9, o9, none⟩) d.n9 d.c9) (by kernel_rfl) (by kernel_rfl) (by kernel_rfl) (by kernel_rfl) (fun _ _ _ h => h) (by kernel_rfl) (by kernel_rfl) (fun w2 h1 => load65' w2 _ _ (bcellv h1 k9')) hS3 ?_
        refine wpAnyH_takeG (i := 6) (d := 171) (g := (some (3, true))) (op := (Op.indexAddr 65 (Operand.tmp 170) (Operand.const (Value.int IntKind.i64 0)))) (v := .pointer (some ⟨b9, o9, none⟩)) (by kernel_rfl) (by kernel_rfl) (by kernel_rfl) (by kernel_rfl) (fun _ _ _ h => h) (by kernel_rfl) (fun ty pos af w2 _ => idx_run _ _ _ (by kernel_rfl) (by kernel_rfl) w2 (idxAt0 d.c9 g9 w2)) hS3 ?_
        refine wpAnyH_takeG (i := 7) (d := 172) (g := (some (3, true))) (op := (Op.fieldAddr 115 (Operand.tmp 171) 1)) (v := .pointer (some ⟨b9, o9 + 1, none⟩)) (by kernel_rfl) (by kernel_rfl) (by kernel_rfl) (by kernel_rfl) (fun _ _ _ h => h) (by kernel_rfl) (fun _ _ _ _ _ => by kernel_rfl) hS3 ?_
        refine wpAnyH_ldG (i := 8) (d := 173) (g := (some (3, true))) (t := 9) (x := (Operand.tmp 172)) (p := ⟨b9, o9 + 1, none⟩) (u := .string (d.z9 0)) (by kernel_rfl) (by kernel_rfl) (by kernel_rfl) (by kernel_rfl) (fun _ _ _ h => h) (by kernel_rfl) (by kernel_rfl) (fun w2 h1 => load9 w2 _ _ (bcellv h1 c2)) hS3 ?_
        refine wpAnyH_takeG (i := 9) (d := 174) (g := (some (3, true))) (op := (Op.call { callee := (Callee.builtin Builtin.len), args := #[(Operand.tmp 173)], argTypes := #[9] })) (v := .int .i64 ((d.z9 0).size : Int)) (by kernel_rfl) (by kernel_rfl) (by kernel_rfl) (by kernel_rfl) (fun _ _ _ h => h) (by kernel_rfl) (fun _ _ _ _ _ => by kernel_rfl) hS3 ?_
        refine wpAnyH_takeG (i := 10) (d := 175) (g := (some (3, true))) (op := (Op.binOp BinOp.add 3 (Operand.tmp 174) (Operand.const (Value.int IntKind.i64 2)) 3)) (v := .int .i64 (IntKind.i64.wrap (((d.z9 0).size : Int) + 2))) (by kernel_rfl) (by kernel_rfl) (by kernel_rfl) (by kernel_rfl) (fun _ _ _ h => h) (by kernel_rfl) (fun _ _ _ _ _ => by kernel_rfl) hS3 ?_
        refine wpAnyH_takeG (i := 11) (d := 176) (g := (some (3, true))) (op := (Op.fieldAddr 69 (Operand.tmp 1) 9)) (v := .pointer (some ⟨w.heap.size, 9, none⟩)) (by kernel_rfl) (by kernel_rfl) (by kernel_rfl) (by kernel_rfl) (fun _ _ _ h => h) (by kernel_rfl) (fun _ _ _ _ _ => by kernel_rfl) hS3 ?_
        refine wpAnyH_ldG (i := 12) (d := 177) (g := (some (3, true))) (t := 65) (x := (Operand.tmp 176)) (p := ⟨w.heap.size, 9, none⟩) (u := .slice (some ⟨b9, o9, none⟩) d.n9 d.c9) (by kernel_rfl) (by kernel_rfl) (by kernel_rfl) (by kernel_rfl) (fun _ _ _ h => h) (by kernel_rfl) (by kernel_rfl) (fun w2 h1 => load65' w2 _ _ (bcellv h1 k9')) hS3 ?_
        refine wpAnyH_takeG (i := 13) (d := 178) (g := (some (3, true))) (op := (Op.indexAddr 65 (Operand.tmp 177) (Operand.const (Value.int IntKind.i64 0)))) (v := .pointer (some ⟨b9, o9, none⟩)) (by kernel_rfl) (by kernel_rfl) (by kernel_rfl) (by kernel_rfl) (fun _ _ _ h => h) (by kernel_rfl) (fun ty pos af w2 _ => idx_run _ _ _ (by kernel_rfl) (by kernel_rfl) w2 (idxAt0 d.c9 g9 w2)) hS3 ?_
        refine wpAnyH_takeG (i := 14) (d := 179) (g := (some (3, true))) (op := (Op.fieldAddr 115 (Operand.tmp 178) 0)) (v := .pointer (some ⟨b9, o9, none⟩)) (by kernel_rfl) (by kernel_rfl) (by kernel_rfl) (by kernel_rfl) (fun _ _ _ h => h) (by kernel_rfl) (fun _ _ _ _ _ => by kernel_rfl) hS3 ?_
        refine wpAnyH_ldG (i := 15) (d := 180) (g := (some (3, true))) (t := 28) (x := (Operand.tmp 179)) (p := ⟨b9, o9, none⟩) (u := .int .u16 (d.a9 0)) (by kernel_rfl) (by kernel_rfl) (by kernel_rfl) (by kernel_rfl) (fun _ _ _ h => h) (by kernel_rfl) (by kernel_rfl) (fun w2 h1 => load28' w2 _ _ (bcellv h1 c1)) hS3 ?_
        refine wpAnyH_takeG (i := 16) (d := 181) (g := (some (3, true))) (op := (Op.convert 28 3 (Operand.tmp 180))) (v := .int .i64 (IntKind.i64.wrap (d.a9 0))) (by kernel_rfl) (by kernel_rfl) (by kernel_rfl) (by kernel_rfl) (fun _ _ _ h => h) (by kernel_rfl) (fun _ _ _ _ _ => by kernel_rfl) hS3 ?_
        refine wpAnyH_takeG (i := 17) (d := 182) (g := (some (3, true))) (op := (Op.binOp BinOp.neq 3 (Operand.tmp 175) (Operand.tmp 181) 3)) (v := .bool (!(IntKind.i64.wrap (((d.z9 0).size : Int) + 2) == IntKind.i64.wrap (d.a9 0)))) (by kernel_rfl) (by kernel_rfl) (by kernel_rfl) (by kernel_rfl) (fun _ _ _ h => h) (by kernel_rfl) (fun _ _ _ _ _ => by kernel_rfl) hS3 ?_
        refine wpAnyH_takeG (i := 18) (d := 183) (g := none) (op := (Op.pick (Operand.tmp 168) (Operand.tmp 182) (Operand.const (Value.bool false)))) (v := .bool (!(IntKind.i64.wrap (((d.z9 0).size : Int) + 2) == IntKind.i64.wrap (d.a9 0)))) (by kernel_rfl) (by kernel_rfl) (by kernel_rfl) (by kernel_rfl) (fun _ _ _ h => h) rfl (fun _ _ _ _ _ => by kernel_rfl) hS3 ?_
        refine wpAnyH_takeG (i := 19) (d := 2) (g := none) (op := (Op.assign (Operand.tmp 183))) (v := .bool (!(IntKind.i64.wrap (((d.z9 0).size : Int) + 2) == IntKind.i64.wrap (d.a9 0)))) (by kernel_rfl) (by kernel_rfl) (by kernel_rfl) (by kernel_rfl) (fun _ _ _ h => h) rfl (fun _ _ _ _ _ => by kernel_rfl) hS3 ?_
        refine wpAnyH_done (by kernel_rfl) ?_ 0
        simp only [Act.put, List.setIfInBounds_toArray, List.set_cons_zero, List.set_cons_succ]
        have HBZ := Lib.hid (HB1.out.trans (hS3.mono HB1.out.size))
        clear hS0 hS3
        go_wp2_with fail
        go_ret
        exact Told.some _ trivial HBZ.out
      · refine wpAnyH_pass (i := 4) (d := 169) (g := (some (3, true))) (op := (Op.fieldAddr 69 (Operand.tmp 1) 9)) (by kernel_rfl) (by kernel_rfl) (by kernel_rfl) (by kernel_rfl) (fun _ _ _ h => h) (by kernel_rfl) hS3 ?_
        refine wpAnyH_pass (i := 5) (d := 170) (g := (some (3, true))) (op := (Op.load 65 (Operand.tmp 169))) (by kernel_rfl) (by kernel_rfl) (by kernel_rfl) (by kernel_rfl) (fun _ _ _ h => h) (by kernel_rfl) hS3 ?_
        refine wpAnyH_pass (i := 6) (d := 171) (g := (some (3, true))) (op := (Op.indexAddr 65 (Operand.tmp 170) (Operand.const (Value.int IntKind.i64 0)))) (by kernel_rfl) (by kernel_rfl) (by kernel_rfl) (by kernel_rfl) (fun _ _ _ h => h) (by kernel_rfl) hS3 ?_
        refine wpAnyH_pass (i := 7) (d := 172) (g := (some (3, true))) (op := (Op.fieldAddr 115 (Operand.tmp 171) 1)) (by kernel_rfl) (by kernel_rfl) (by kernel_rfl) (by kernel_rfl) (fun _ _ _ h => h) (by kernel_rfl) hS3 ?_
        refine wpAnyH_pass (i := 8) (d := 173) (g := (some (3, true))) (op := (Op.load 9 (Operand.tmp 172))) (by kernel_rfl) (by kernel_rfl) (by kernel_rfl) (by kernel_rfl) (fun _ _ _ h => h) (by kernel_rfl) hS3 ?_
        refine wpAnyH_pass (i := 9) (d := 174) (g := (some (3, true))) (op := (Op.call { callee := (Callee.builtin Builtin.len), args := #[(Operand.tmp 173)], argTypes := #[9] })) (by kernel_rfl) (by kernel_rfl) (by kernel_rfl) (by kernel_rfl) (fun _ _ _ h => h) (by kernel_rfl) hS3 ?_
        refine wpAnyH_pass (i := 10) (d := 175) (g := (some (3, true))) (op := (Op.binOp BinOp.add 3 (Operand.tmp 174) (Operand.const (Value.int IntKind.i64 2)) 3)) (by kernel_rfl) (by kernel_rfl) (by kernel_rfl) (by kernel_rfl) (fun _ _ _ h => h) (by kernel_rfl) hS3 ?_
        refine wpAnyH_pass (i := 11) (d := 176) (g := (some (3, true))) (op := (Op.fieldAddr 69 (Operand.tmp 1) 9)) (by kernel_rfl) (by kernel_rfl) (by kernel_rfl) (by kernel_rfl) (fun _ _ _ h => h) (by kernel_rfl) hS3 ?_
        refine wpAnyH_pass (i := 12) (d := 177) (g := (some (3, true))) (op := (Op.load 65 (Operand.tmp 176))) (by kernel_rfl) (by kernel_rfl) (by kernel_rfl) (by kernel_rfl) (fun _ _ _ h => h) (by kernel_rfl) hS3 ?_
        refine wpAnyH_pass (i := 13) (d := 178) (g := (some (3, true))) (op := (Op.indexAddr 65 (Operand.tmp 177) (Operand.const (Value.int IntKind.i64 0)))) (by kernel_rfl) (by kernel_rfl) (by kernel_rfl) (by kernel_rfl) (fun _ _ _ h => h) (by kernel_rfl) hS3 ?_
        refine wpAnyH_pass (i := 14) (d := 179) (g := (some (3, true))) (op := (Op.fieldAddr 115 (Operand.tmp 178) 0)) (by kernel_rfl) (by kernel_rfl) (by kernel_rfl) (by kernel_rfl) (fun _ _ _ h => h) (by kernel_rfl) hS3 ?_
        refine wpAnyH_pass (i := 15) (d := 180) (g := (some (3, true))) (op := (Op.load 28 (Operand.tmp 179))) (by kernel_rfl) (by kernel_rfl) (by kernel_rfl) (by kernel_rfl) (fun _ _ _ h => h) (by kernel_rfl) hS3 ?_
        refine wpAnyH_pass (i := 16) (d := 181) (g := (some (3, true))) (op := (Op.convert 28 3 (Operand.tmp 180))) (by kernel_rfl) (by kernel_rfl) (by kernel_rfl) (by kernel_rfl) (fun _ _ _ h => h) (by kernel_rfl) hS3 ?_
        refine wpAnyH_pass (i := 17) (d := 182) (g := (some (3, true))) (op := (Op.binOp BinOp.neq 3 (Operand.tmp 175) (Operand.tmp 181) 3)) (by kernel_rfl) (by kernel_rfl) (by kernel_rfl) (by kernel_rfl) (fun _ _ _ h => h) (by kernel_rfl) hS3 ?_
        refine wpAnyH_takeG (i := 18) (d := 183) (g := none) (op := (Op.pick (Operand.tmp 168) (Operand.tmp 182) (Operand.const (Value.bool false)))) (v := .bool false) (by kernel_rfl) (by kernel_rfl) (by kernel_rfl) (by kernel_rfl) (fun _ _ _ h => h) rfl (fun _ _ _ _ _ => by kernel_rfl) hS3 ?_
        refine wpAnyH_takeG (i := 19) (d := 2) (g := none) (op := (Op.assign (Operand.tmp 183))) (v := .bool false) (by kernel_rfl) (by kernel_rfl) (by kernel_rfl) (by kernel_rfl) (fun _ _ _ h => h) rfl (fun _ _ _ _ _ => by kernel_rfl) hS3 ?_
        refine wpAnyH_done (by kernel_rfl) ?_ 0
        simp only [Act.put, List.setIfInBounds_toArray, List.set_cons_zero, List.set_cons_succ]
        have HBZ := Lib.hid (HB1.out.trans (hS3.mono HB1.out.size))
        clear hS0 hS3
        go_wp2_with fail
        go_ret
        exact Told.some _ trivial HBZ.out
    · go_wp2_with fail
      refine (shares_any d.p8 d.n8 d.c8 d.a8 d.z8 w1 HX.out.o8 HX.out.r8).mono ?_
      rintro e w2 ⟨r, rfl, _, hb2⟩
      have HB2 := Lib.hid (HB1.out.trans (hb2.mono HB1.out.size))
      clear hb2
      dsimp only
      go_wp2_with fail
      go_ret
      exact Told.some _ trivial HB2.out
end Go.Proofs.YtgnmgkpfgmpdfaaGreatDoor
end

/- Loads of one cell, by its type. -/
section
namespace Go.Proofs.YtgnmgkpfgmpdfaaGreatDoor
open Go.RowKit

theorem ld9 (W : World) (p : Addr) (u : Value) (h : W.cell? p = some u) : (Instr.loadAt 9 (.pointer (some p))).run Tryz.prog W = .ok u W := by
  simp [go_sem, Instr.loadAt, Instr.sureAddr, loadVar, h]
theorem ld23 (W : World) (p : Addr) (u : Value) (h : W.cell? p = some u) : (Instr.loadAt 23 (.pointer (some p))).run Tryz.prog W = .ok u W := by
  simp [go_sem, Instr.loadAt, Instr.sureAddr, loadVar, h]
theorem ld66 (W : World) (p : Addr) (u : Value) (h : W.cell? p = some u) : (Instr.loadAt 66 (.pointer (some p))).run Tryz.prog W = .ok u W := by
  simp [go_sem, Instr.loadAt, Instr.sureAddr, loadVar, h]
theorem ld26 (W : World) (p : Addr) (u : Value) (h : W.cell? p = some u) : (Instr.loadAt 26 (.pointer (some p))).run Tryz.prog W = .ok u W := by
  simp [go_sem, Instr.loadAt, Instr.sureAddr, loadVar, h]
theorem ld22 (W : World) (p : Addr) (u : Value) (h : W.cell? p = some u) : (Instr.loadAt 22 (.pointer (some p))).run Tryz.prog W = .ok u W := by
  simp [go_sem, Instr.loadAt, Instr.sureAddr, loadVar, h]
end Go.Proofs.YtgnmgkpfgmpdfaaGreatDoor
end
