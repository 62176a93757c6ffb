/- laws.owned of a client hello. -/
import Derived.Test.YtgnmgkpfgmpdfaaGreatDoorSPx
import Derived.Test.YtgnmgkpfgmpdfaaGreatDoorSFitC
import Derived.Deep.DeepCutAuto
set_option linter.unusedVariables false
set_option linter.unusedSimpArgs false
namespace Go.Proofs.YtgnmgkpfgmpdfaaGreatDoor
open Go.RowKit

/-- A client hello without anything. -/
def zMD : MD where
  x0 := 1
  b1 := false
  x2 := 0
  x3 := 0
  x4 := 0
  s5 := ⟨#[]⟩
  s6 := ⟨#[]⟩
  s7 := ⟨#[]⟩
  p8 := none
  n8 := 0
  c8 := 0
  p9 := none
  n9 := 0
  c9 := 0
  p10 := none
  n10 := 0
  c10 := 0
  p11 := none
  n11 := 0
  c11 := 0
  p12 := none
  n12 := 0
  c12 := 0
  p13 := none
  n13 := 0
  c13 := 0
  x14 := 0
  x15 := 0
  s16 := ⟨#[]⟩
  s17 := ⟨#[]⟩
  s18 := ⟨#[]⟩
  x19 := 0
  x20 := 0
  x21 := 0
  s22 := ⟨#[]⟩
  s23 := ⟨#[]⟩
  p24 := none
  n24 := 0
  c24 := 0
  u8 := fun _ => 0
  u9 := fun _ => 0
  D10 := fun _ => zED 0
  t11 := fun _ => ⟨#[]⟩
  z24 := fun _ => ⟨#[]⟩
  q24 := fun _ => none
  m24 := fun _ => 0
  k24 := fun _ => 0
def zero31 : Array Value := #[.int .u8 0, .bool false, .int .u8 0, .int .u8 0, .int .u32 0, .string ⟨#[]⟩, .string ⟨#[]⟩, .string ⟨#[]⟩, .slice none 0 0, .slice none 0 0, .slice none 0 0, .slice none 0 0, .slice none 0 0, .slice none 0 0, .int .u16 0, .int .u16 0, .string ⟨#[]⟩, .string ⟨#[]⟩, .string ⟨#[]⟩, .int .i64 0, .int .u8 0, .int .u16 0, .string ⟨#[]⟩, .string ⟨#[]⟩, .slice none 0 0]
/-- A client hello with the fields that the hash sees, and a cookie. -/
def ownE (d : MD) (q : Option Addr) (l c : Nat) : MD := { zMD with x2 := 254, x3 := 253, x4 := d.x4, s5 := d.s5, s6 := d.s6, s7 := d.s7, p8 := d.p8, n8 := d.n8, c8 := d.c8, u8 := d.u8, p9 := d.p9, n9 := d.n9, c9 := d.c9, u9 := d.u9, p10 := q, n10 := l, c10 := c }
/-- What a good hello is. -/
def OkM (d : MD) : Prop := d.s5.size = 28 ∧ d.s7.size ≤ 32 ∧ ((0 < d.n9 ∧ d.n9 < 256) ∧ ∀ j, j < d.n9 → d.u9 j = 0) ∧ 0 < d.n8 ∧ d.n8 < 10000
/-- What the checked message comes to. -/
def OwnQ (d : MD) (w0 w : World) (e : Ending) (w' : World) : Prop := ∃ (q : Option Addr) (l c : Nat) (b : Bool), e = .returned (.tuple #[.agg (ownE d q l c).es, .bool b]) ∧
  (b = true → OkM d ∧ d.s6.size < 256 ∧ GoodE w0 w.heap.size w' (.slice q l c) l) ∧ Below w.heap.size w w'
theorem hi31 (d : MD) : (Tryz.prog.info? 31).map (·.size) = some d.es.size := by
  show _ = some 25
  kernel_rfl
theorem mes0 (d : MD) {x : Int} (h : d.x0 = x) : d.es[0]? = some (.int .u8 x) := by rw [← h]; rfl
theorem ml5 (W : World) (p : Addr) (u : Value) (h : W.cell? p = some u) : (Instr.loadAt 5 (.pointer (some p))).run Tryz.prog W = .ok u W := by
  simp [go_sem, Instr.loadAt, Instr.sureAddr, loadVar, h]
theorem ml24 (W : World) (p : Addr) (u : Value) (h : W.cell? p = some u) : (Instr.loadAt 24 (.pointer (some p))).run Tryz.prog W = .ok u W := by
  simp [go_sem, Instr.loadAt, Instr.sureAddr, loadVar, h]
theorem ld31 {a : Act} {x : Operand} {p : Addr} {u : Value} {d : Nat} {w : World} (ty : TypeId) (pos : String) (af : Array Edge) (hx : a.eval x = .pointer (some p)) (h : (Instr.loadAt 31 (.pointer (some p))).run Tryz.prog w = .ok u w) :
    (execOp a.eval ⟨some d, .load 31 x, ty, pos, af, none⟩).run Tryz.prog w = .ok (.value u) w := by
  unfold execOp
  simp only [hx, Sem.run_bind, h, Result.andThen_ok, Sem.run_pure]
set_option maxHeartbeats 8000000 in
set_option maxRecDepth 100000 in
theorem owned_any (d : MD) (w0 w : World) (hw : Below w0.heap.size w0 w) (hx : MsgR w0 d) (h1 : d.x0 = 1) (hl : d.n10 ≤ MX ∧ ∀ j, j < d.n10 → Fit (d.D10 j)) : Calls Tryz.prog 6 #[.agg d.es] w (OwnQ d w0 w) := by
  have HW := Lib.hid hw
  have H0 := Lib.hid h1
  have HX := Lib.hid hx
  have HL := Lib.hid hl
  clear hx h1 hl hw
  go_enter Tryz.func6, Tryz.ntmps6
  have hB1 : Below w.heap.size w ((w.alloc (Obj.cells d.es 31)).alloc (Obj.cells zero31 31)) := ((Below.refl _ _).alloc (Nat.le_refl _) _).alloc (by simp) _
  have hE1 : ((w.alloc (Obj.cells d.es 31)).alloc (Obj.cells zero31 31)).heap[w.heap.size]? = some (.cells d.es 31 (0, 0)) := by
    rw [heap_alloc_old _ _ (by simp)]
    exact heap_alloc_new _ _
  have hR1 : ((w.alloc (Obj.cells d.es 31)).alloc (Obj.cells zero31 31)).heap[w.heap.size + 1]? = some (.cells zero31 31 (0, 0)) := by
    have h := heap_alloc_new (w.alloc (Obj.cells d.es 31)) (Obj.cells zero31 31)
    rwa [World.size_alloc] at h
  have hs1 : ((w.alloc (Obj.cells d.es 31)).alloc (Obj.cells zero31 31)).heap.size = w.heap.size + 2 := by simp
  go_upto_region 1 with fail
  change Code.wp _ _ _ _ ((w.alloc (Obj.cells d.es 31)).alloc (Obj.cells zero31 31))
  generalize (w.alloc (Obj.cells d.es 31)).alloc (Obj.cells zero31 31) = w1 at hB1 hE1 hR1 hs1 ⊢
  have k0 := (bcell hE1 0).trans (mes0 d H0.out)
  have HS1 := Lib.hid hs1
  have HE1 := Lib.hid hE1
  have HR1 := Lib.hid hR1
  have HB1 := Lib.hid hB1
  clear hs1 hE1 hR1 hB1
  go_upto_region 2 with (refine wpList_store_row (o := ⟨none, .store 31 (.tmp 4) (.tmp 10), _, _, _, _⟩) rfl 31 (.tmp 4) (.tmp 10) rfl w1.heap.size zMD.es (by kernel_rfl) (by kernel_rfl) 31 zero31 (heap_alloc_new w1 _) (by kernel_rfl) rfl (MD.one _) ?_; change wpList _ _ _ _ _ ((w1.alloc (Obj.cells zero31 31)).setRow w1.heap.size _); rw [setRow_alloc])
  have hb2 := (Below.refl w1.heap.size w1).alloc (Nat.le_refl _) (Obj.cells zMD.es 31)
  have hX2 := heap_alloc_new w1 (Obj.cells zMD.es 31)
  generalize w1.alloc (Obj.cells zMD.es 31) = w2 at hb2 hX2 ⊢
  have hE2 := bblk hb2 HE1.out
  have hR2 := bblk hb2 HR1.out
  have hB2 := HB1.out.trans (hb2.mono HB1.out.size)
  have gX : w1.heap.size = w.heap.size + 2 := HS1.out
  generalize w1.heap.size = X at hX2 gX ⊢
  have k0 := (bcell hE2 0).trans (mes0 d H0.out)
  have GX := Lib.hid gX
  have HB2 := Lib.hid hB2
  have HE2 := Lib.hid hE2
  have HR2 := Lib.hid hR2
  have HX2 := Lib.hid hX2
  clear hb2 hX2 hE2 hR2 hB2 gX HB1 HE1 HR1 HS1
  go_upto_region 6 with fail
  have hS0 : w2.drew.heap[w.heap.size]? = some (.cells d.es 31 (0, 0)) := HE2.out
  have hX0 : w2.drew.heap[X]? = some (.cells zMD.es 31 (0, 0)) := HX2.out
  have hR0 : w2.drew.heap[w.heap.size + 1]? = some (.cells zero31 31 (0, 0)) := HR2.out
  have hB0 : Below w.heap.size w w2.drew := HB2.out.drew
  refine wp_region_held (S := fun wz => wz.heap[w.heap.size]? = some (.cells d.es 31 (0, 0))) (by kernel_rfl) ?_
  change wpAnyH _ _ _ _ _ 24 _ _ w2.drew
  generalize w2.drew = wd at hS0 hX0 hR0 hB0 ⊢
  clear HE2 HX2 HR2 HB2 k0
  have HX2 := Lib.hid hX0
  have HR2 := Lib.hid hR0
  have HB2 := Lib.hid hB0
  clear hX0 hR0 hB0
  refine wpAnyH_takeG (i := 0) (d := 16) (g := none) (op := (Op.fieldAddr 31 (Operand.tmp 1) 4)) (v := .pointer (some ⟨w.heap.size, 4, none⟩)) (by kernel_rfl) (by kernel_rfl) (by kernel_rfl) (by kernel_rfl) (fun _ _ _ h => h) rfl (fun _ _ _ _ _ => by kernel_rfl) hS0 ?_
  refine wpAnyH_ldG (i := 1) (d := 17) (g := none) (t := 22) (x := (Operand.tmp 16)) (p := ⟨w.heap.size, 4, none⟩) (u := .int .u32 d.x4) (by kernel_rfl) (by kernel_rfl) (by kernel_rfl) (by kernel_rfl) (fun _ _ _ h => h) rfl (by kernel_rfl) (fun w1 h1 => ld22 w1 _ _ ((bcell h1 4).trans (MD.g4 d))) hS0 ?_
  refine wpAnyH_takeG (i := 2) (d := 18) (g := none) (op := (Op.fieldAddr 31 (Operand.tmp 1) 5)) (v := .pointer (some ⟨w.heap.size, 5, none⟩)) (by kernel_rfl) (by kernel_rfl) (by kernel_rfl) (by kernel_rfl) (fun _ _ _ h => h) rfl (fun _ _ _ _ _ => by kernel_rfl) hS0 ?_
  refine wpAnyH_ldG (i := 3) (d := 19) (g := none) (t := 9) (x := (Operand.tmp 18)) (p := ⟨w.heap.size, 5, none⟩) (u := .string d.s5) (by kernel_rfl) (by kernel_rfl) (by kernel_rfl) (by kernel_rfl) (fun _ _ _ h => h) rfl (by kernel_rfl) (fun w1 h1 => ld9 w1 _ _ ((bcell h1 5).trans (MD.g5 d))) hS0 ?_
  refine wpAnyH_takeG (i := 4) (d := 20) (g := none) (op := (Op.fieldAddr 31 (Operand.tmp 1) 7)) (v := .pointer (some ⟨w.heap.size, 7, none⟩)) (by kernel_rfl) (by kernel_rfl) (by kernel_rfl) (by kernel_rfl) (fun _ _ _ h => h) rfl (fun _ _ _ _ _ => by kernel_rfl) hS0 ?_
  refine wpAnyH_ldG (i := 5) (d := 21) (g := none) (t := 9) (x := (Operand.tmp 20)) (p := ⟨w.heap.size, 7, none⟩) (u := .string d.s7) (by kernel_rfl) (by kernel_rfl) (by kernel_rfl) (by kernel_rfl) (fun _ _ _ h => h) rfl (by kernel_rfl) (fun w1 h1 => ld9 w1 _ _ ((bcell h1 7).trans (MD.g7 d))) hS0 ?_
  refine wpAnyH_takeG (i := 6) (d := 22) (g := none) (op := (Op.fieldAddr 31 (Operand.tmp 1) 8)) (v := .pointer (some ⟨w.heap.size, 8, none⟩)) (by kernel_rfl) (by kernel_rfl) (by kernel_rfl) (by kernel_rfl) (fun _ _ _ h => h) rfl (fun _ _ _ _ _ => by kernel_rfl) hS0 ?_
  refine wpAnyH_ldG (i := 7) (d := 23) (g := none) (t := 23) (x := (Operand.tmp 22)) (p := ⟨w.heap.size, 8, none⟩) (u := .slice d.p8 d.n8 d.c8) (by kernel_rfl) (by kernel_rfl) (by kernel_rfl) (by kernel_rfl) (fun _ _ _ h => h) rfl (by kernel_rfl) (fun w1 h1 => ld23 w1 _ _ ((bcell h1 8).trans (MD.g8 d))) hS0 ?_
  refine wpAnyH_takeG (i := 8) (d := 24) (g := none) (op := (Op.fieldAddr 31 (Operand.tmp 1) 9)) (v := .pointer (some ⟨w.heap.size, 9, none⟩)) (by kernel_rfl) (by kernel_rfl) (by kernel_rfl) (by kernel_rfl) (fun _ _ _ h => h) rfl (fun _ _ _ _ _ => by kernel_rfl) hS0 ?_
  refine wpAnyH_ldG (i := 9) (d := 25) (g := none) (t := 24) (x := (Operand.tmp 24)) (p := ⟨w.heap.size, 9, none⟩) (u := .slice d.p9 d.n9 d.c9) (by kernel_rfl) (by kernel_rfl) (by kernel_rfl) (by kernel_rfl) (fun _ _ _ h => h) rfl (by kernel_rfl) (fun w1 h1 => ml24 w1 _ _ ((bcell h1 9).trans (MD.g9 d))) hS0 ?_
  refine wpAnyH_takeG (i := 10) (d := 26) (g := none) (op := (Op.fieldAddr 31 (Operand.tmp 4) 2)) (v := .pointer (some ⟨X, 2, none⟩)) (by kernel_rfl) (by kernel_rfl) (by kernel_rfl) (by kernel_rfl) (fun _ _ _ h => h) rfl (fun _ _ _ _ _ => by kernel_rfl) hS0 ?_
  have x2 : wd.cell? ⟨X, 2, none⟩ = some (.int .u8 0) := (bcell HX2.out 2).trans rfl
  have f2 := bfrozen HX2.out 2
  refine wpAnyH_list (i := 11) (o := ⟨none, .store 5 (.tmp 26) (.const (.int .u8 254)), _, _, _, _⟩) (by kernel_rfl) rfl rfl ?_
  simp only [Act.put, List.setIfInBounds_toArray, List.set_cons_zero, List.set_cons_succ]
  go_wp2_with fail
  have hS1 : (wd.setCell ⟨X, 2, none⟩ (.int .u8 254)).heap[w.heap.size]? = some (.cells d.es 31 (0, 0)) := (Below.heap_setCell _ ⟨X, 2, none⟩ _ w.heap.size (by have := GX.out; show w.heap.size ≠ X; omega)).trans hS0
  refine ⟨hS1, ?_⟩
  have hX9 : (wd.setCell ⟨X, 2, none⟩ (.int .u8 254)).heap[X]? = some (.cells (({ zMD with x2 := 254 } : MD)).es 31 (0, 0)) := bset HX2.out 2 (.int .u8 254)
  have hR9 : (wd.setCell ⟨X, 2, none⟩ (.int .u8 254)).heap[w.heap.size + 1]? = some (.cells zero31 31 (0, 0)) := (Below.heap_setCell _ ⟨X, 2, none⟩ _ (w.heap.size + 1) (by have := GX.out; show w.heap.size + 1 ≠ X; omega)).trans HR2.out
  have hB9 : Below w.heap.size w (wd.setCell ⟨X, 2, none⟩ (.int .u8 254)) := HB2.out.setCell (p := ⟨X, 2, none⟩) (by have := GX.out; show w.heap.size ≤ X; omega) _
  generalize (wd.setCell ⟨X, 2, none⟩ (.int .u8 254)) = wd at hS1 hX9 hR9 hB9 ⊢
  clear x2 f2 hS0 HX2 HR2 HB2
  have HX2 := Lib.hid hX9
  have HR2 := Lib.hid hR9
  have HB2 := Lib.hid hB9
  clear hX9 hR9 hB9
  refine wpAnyH_takeG (i := 12) (d := 27) (g := none) (op := (Op.fieldAddr 31 (Operand.tmp 4) 3)) (v := .pointer (some ⟨X, 3, none⟩)) (by kernel_rfl) (by kernel_rfl) (by kernel_rfl) (by kernel_rfl) (fun _ _ _ h => h) rfl (fun _ _ _ _ _ => by kernel_rfl) hS1 ?_
  have x3 : wd.cell? ⟨X, 3, none⟩ = some (.int .u8 0) := (bcell HX2.out 3).trans rfl
  have f3 := bfrozen HX2.out 3
  refine wpAnyH_list (i := 13) (o := ⟨none, .store 5 (.tmp 27) (.const (.int .u8 253)), _, _, _, _⟩) (by kernel_rfl) rfl rfl ?_
  simp only [Act.put, List.setIfInBounds_toArray, List.set_cons_zero, List.set_cons_succ]
  go_wp2_with fail
  have hS2 : (wd.setCell ⟨X, 3, none⟩ (.int .u8 253)).heap[w.heap.size]? = some (.cells d.es 31 (0, 0)) := (Below.heap_setCell _ ⟨X, 3, none⟩ _ w.heap.size (by have := GX.out; show w.heap.size ≠ X; omega)).trans hS1
  refine ⟨hS2, ?_⟩
  have hX9 : (wd.setCell ⟨X, 3, none⟩ (.int .u8 253)).heap[X]? = some (.cells (({ zMD with x2 := 254, x3 := 253 } : MD)).es 31 (0, 0)) := bset HX2.out 3 (.int .u8 253)
  have hR9 : (wd.setCell ⟨X, 3, none⟩ (.int .u8 253)).heap[w.heap.size + 1]? = some (.cells zero31 31 (0, 0)) := (Below.heap_setCell _ ⟨X, 3, none⟩ _ (w.heap.size + 1) (by have := GX.out; show w.heap.size + 1 ≠ X; omega)).trans HR2.out
  have hB9 : Below w.heap.size w (wd.setCell ⟨X, 3, none⟩ (.int .u8 253)) := HB2.out.setCell (p := ⟨X, 3, none⟩) (by have := GX.out; show w.heap.size ≤ X; omega) _
  generalize (wd.setCell ⟨X, 3, none⟩ (.int .u8 253)) = wd at hS2 hX9 hR9 hB9 ⊢
  clear x3 f3 hS1 HX2 HR2 HB2
  have HX2 := Lib.hid hX9
  have HR2 := Lib.hid hR9
  have HB2 := Lib.hid hB9
  clear hX9 hR9 hB9
  refine wpAnyH_takeG (i := 14) (d := 28) (g := none) (op := (Op.fieldAddr 31 (Operand.tmp 4) 4)) (v := .pointer (some ⟨X, 4, none⟩)) (by kernel_rfl) (by kernel_rfl) (by kernel_rfl) (by kernel_rfl) (fun _ _ _ h => h) rfl (fun _ _ _ _ _ => by kernel_rfl) hS2 ?_
  have x4 : wd.cell? ⟨X, 4, none⟩ = some (.int .u32 0) := (bcell HX2.out 4).trans rfl
  have f4 := bfrozen HX2.out 4
  refine wpAnyH_list (i := 15) (o := ⟨none, .store 22 (.tmp 28) (.tmp 17), _, _, _, _⟩) (by kernel_rfl) rfl rfl ?_
  simp only [Act.put, List.setIfInBounds_toArray, List.set_cons_zero, List.set_cons_succ]
  go_wp2_with fail
  have hS3 : (wd.setCell ⟨X, 4, none⟩ (.int .u32 d.x4)).heap[w.heap.size]? = some (.cells d.es 31 (0, 0)) := (Below.heap_setCell _ ⟨X, 4, none⟩ _ w.heap.size (by have := GX.out; show w.heap.size ≠ X; omega)).trans hS2
  refine ⟨hS3, ?_⟩
  have hX9 : (wd.setCell ⟨X, 4, none⟩ (.int .u32 d.x4)).heap[X]? = some (.cells (({ zMD with x2 := 254, x3 := 253, x4 := d.x4 } : MD)).es 31 (0, 0)) := bset HX2.out 4 (.int .u32 d.x4)
  have hR9 : (wd.setCell ⟨X, 4, none⟩ (.int .u32 d.x4)).heap[w.heap.size + 1]? = some (.cells zero31 31 (0, 0)) := (Below.heap_setCell _ ⟨X, 4, none⟩ _ (w.heap.size + 1) (by have := GX.out; show w.heap.size + 1 ≠ X; omega)).trans HR2.out
  have hB9 : Below w.heap.size w (wd.setCell ⟨X, 4, none⟩ (.int .u32 d.x4)) := HB2.out.setCell (p := ⟨X, 4, none⟩) (by have := GX.out; show w.heap.size ≤ X; omega) _
  generalize (wd.setCell ⟨X, 4, none⟩ (.int .u32 d.x4)) = wd at hS3 hX9 hR9 hB9 ⊢
  clear x4 f4 hS2 HX2 HR2 HB2
  have HX2 := Lib.hid hX9
  have HR2 := Lib.hid hR9
  have HB2 := Lib.hid hB9
  clear hX9 hR9 hB9
  refine wpAnyH_takeG (i := 16) (d := 29) (g := none) (op := (Op.fieldAddr 31 (Operand.tmp 4) 5)) (v := .pointer (some ⟨X, 5, none⟩)) (by kernel_rfl) (by kernel_rfl) (by kernel_rfl) (by kernel_rfl) (fun _ _ _ h => h) rfl (fun _ _ _ _ _ => by kernel_rfl) hS3 ?_
  have x5 : wd.cell? ⟨X, 5, none⟩ = some (.string ⟨#[]⟩) := (bcell HX2.out 5).trans rfl
  have f5 := bfrozen HX2.out 5
  refine wpAnyH_list (i := 17) (o := ⟨none, .store 9 (.tmp 29) (.tmp 19), _, _, _, _⟩) (by kernel_rfl) rfl rfl ?_
  simp only [Act.put, List.setIfInBounds_toArray, List.set_cons_zero, List.set_cons_succ]
  go_wp2_with fail
  have hS4 : (wd.setCell ⟨X, 5, none⟩ (.string d.s5)).heap[w.heap.size]? = some (.cells d.es 31 (0, 0)) := (Below.heap_setCell _ ⟨X, 5, none⟩ _ w.heap.size (by have := GX.out; show w.heap.size ≠ X; omega)).trans hS3
  refine ⟨hS4, ?_⟩
  have hX9 : (wd.setCell ⟨X, 5, none⟩ (.string d.s5)).heap[X]? = some (.cells (({ zMD with x2 := 254, x3 := 253, x4 := d.x4, s5 := d.s5 } : MD)).es 31 (0, 0)) := bset HX2.out 5 (.string d.s5)
  have hR9 : (wd.setCell ⟨X, 5, none⟩ (.string d.s5)).heap[w.heap.size + 1]? = some (.cells zero31 31 (0, 0)) := (Below.heap_setCell _ ⟨X, 5, none⟩ _ (w.heap.size + 1) (by have := GX.out; show w.heap.size + 1 ≠ X; omega)).trans HR2.out
  have hB9 : Below w.heap.size w (wd.setCell ⟨X, 5, none⟩ (.string d.s5)) := HB2.out.setCell (p := ⟨X, 5, none⟩) (by have := GX.out; show w.heap.size ≤ X; omega) _
  generalize (wd.setCell ⟨X, 5, none⟩ (.string d.s5)) = wd at hS4 hX9 hR9 hB9 ⊢
  clear x5 f5 hS3 HX2 HR2 HB2
  have HX2 := Lib.hid hX9
  have HR2 := Lib.hid hR9
  have HB2 := Lib.hid hB9
  clear hX9 hR9 hB9
  refine wpAnyH_takeG (i := 18) (d := 30) (g := none) (op := (Op.fieldAddr 31 (Operand.tmp 4) 7)) (v := .pointer (some ⟨X, 7, none⟩)) (by kernel_rfl) (by kernel_rfl) (by kernel_rfl) (by kernel_rfl) (fun _ _ _ h => h) rfl (fun _ _ _ _ _ => by kernel_rfl) hS4 ?_
  have x7 : wd.cell? ⟨X, 7, none⟩ = some (.string ⟨#[]⟩) := (bcell HX2.out 7).trans rfl
  have f7 := bfrozen HX2.out 7
  refine wpAnyH_list (i := 19) (o := ⟨none, .store 9 (.tmp 30) (.tmp 21), _, _, _, _⟩) (by kernel_rfl) rfl rfl ?_
  simp only [Act.put, List.setIfInBounds_toArray, List.set_cons_zero, List.set_cons_succ]
  go_wp2_with fail
  have hS5 : (wd.setCell ⟨X, 7, none⟩ (.string d.s7)).heap[w.heap.size]? = some (.cells d.es 31 (0, 0)) := (Below.heap_setCell _ ⟨X, 7, none⟩ _ w.heap.size (by have := GX.out; show w.heap.size ≠ X; omega)).trans hS4
  refine ⟨hS5, ?_⟩
  have hX9 : (wd.setCell ⟨X, 7, none⟩ (.string d.s7)).heap[X]? = some (.cells (({ zMD with x2 := 254, x3 := 253, x4 := d.x4, s5 := d.s5, s7 := d.s7 } : MD)).es 31 (0, 0)) := bset HX2.out 7 (.string d.s7)
  have hR9 : (wd.setCell ⟨X, 7, none⟩ (.string d.s7)).heap[w.heap.size + 1]? = some (.cells zero31 31 (0, 0)) := (Below.heap_setCell _ ⟨X, 7, none⟩ _ (w.heap.size + 1) (by have := GX.out; show w.heap.size + 1 ≠ X; omega)).trans HR2.out
  have hB9 : Below w.heap.size w (wd.setCell ⟨X, 7, none⟩ (.string d.s7)) := HB2.out.setCell (p := ⟨X, 7, none⟩) (by have := GX.out; show w.heap.size ≤ X; omega) _
  generalize (wd.setCell ⟨X, 7, none⟩ (.string d.s7)) = wd at hS5 hX9 hR9 hB9 ⊢
  clear x7 f7 hS4 HX2 HR2 HB2
  have HX2 := Lib.hid hX9
  have HR2 := Lib.hid hR9
  have HB2 := Lib.hid hB9
  clear hX9 hR9 hB9
  refine wpAnyH_takeG (i := 20) (d := 31) (g := none) (op := (Op.fieldAddr 31 (Operand.tmp 4) 8)) (v := .pointer (some ⟨X, 8, none⟩)) (by kernel_rfl) (by kernel_rfl) (by kernel_rfl) (by kernel_rfl) (fun _ _ _ h => h) rfl (fun _ _ _ _ _ => by kernel_rfl) hS5 ?_
  have x8 : wd.cell? ⟨X, 8, none⟩ = some (.slice none 0 0) := (bcell HX2.out 8).trans rfl
  have f8 := bfrozen HX2.out 8
  refine wpAnyH_list (i := 21) (o := ⟨none, .store 23 (.tmp 31) (.tmp 23), _, _, _, _⟩) (by kernel_rfl) rfl rfl ?_
  simp only [Act.put, List.setIfInBounds_toArray, List.set_cons_zero, List.set_cons_succ]
  go_wp2_with fail
  have hS6 : (wd.setCell ⟨X, 8, none⟩ (.slice d.p8 d.n8 d.c8)).heap[w.heap.size]? = some (.cells d.es 31 (0, 0)) := (Below.heap_setCell _ ⟨X, 8, none⟩ _ w.heap.size (by have := GX.out; show w.heap.size ≠ X; omega)).trans hS5
  refine ⟨hS6, ?_⟩
  have hX9 : (wd.setCell ⟨X, 8, none⟩ (.slice d.p8 d.n8 d.c8)).heap[X]? = some (.cells (({ zMD with x2 := 254, x3 := 253, x4 := d.x4, s5 := d.s5, s7 := d.s7, p8 := d.p8, n8 := d.n8, c8 := d.c8, u8 := d.u8 } : MD)).es 31 (0, 0)) := bset HX2.out 8 (.slice d.p8 d.n8 d.c8)
  have hR9 : (wd.setCell ⟨X, 8, none⟩ (.slice d.p8 d.n8 d.c8)).heap[w.heap.size + 1]? = some (.cells zero31 31 (0, 0)) := (Below.heap_setCell _ ⟨X, 8, none⟩ _ (w.heap.size + 1) (by have := GX.out; show w.heap.size + 1 ≠ X; omega)).trans HR2.out
  have hB9 : Below w.heap.size w (wd.setCell ⟨X, 8, none⟩ (.slice d.p8 d.n8 d.c8)) := HB2.out.setCell (p := ⟨X, 8, none⟩) (by have := GX.out; show w.heap.size ≤ X; omega) _
  generalize (wd.setCell ⟨X, 8, none⟩ (.slice d.p8 d.n8 d.c8)) = wd at hS6 hX9 hR9 hB9 ⊢
  clear x8 f8 hS5 HX2 HR2 HB2
  have HX2 := Lib.hid hX9
  have HR2 := Lib.hid hR9
  have HB2 := Lib.hid hB9
  clear hX9 hR9 hB9
  refine wpAnyH_takeG (i := 22) (d := 32) (g := none) (op := (Op.fieldAddr 31 (Operand.tmp 4) 9)) (v := .pointer (some ⟨X, 9, none⟩)) (by kernel_rfl) (by kernel_rfl) (by kernel_rfl) (by kernel_rfl) (fun _ _ _ h => h) rfl (fun _ _ _ _ _ => by kernel_rfl) hS6 ?_
  have x9 : wd.cell? ⟨X, 9, none⟩ = some (.slice none 0 0) := (bcell HX2.out 9).trans rfl
  have f9 := bfrozen HX2.out 9
  refine wpAnyH_list (i := 23) (o := ⟨none, .store 24 (.tmp 32) (.tmp 25), _, _, _, _⟩) (by kernel_rfl) rfl rfl ?_
  simp only [Act.put, List.setIfInBounds_toArray, List.set_cons_zero, List.set_cons_succ]
  go_wp2_with fail
  have hS7 : (wd.setCell ⟨X, 9, none⟩ (.slice d.p9 d.n9 d.c9)).heap[w.heap.size]? = some (.cells d.es 31 (0, 0)) := (Below.heap_setCell _ ⟨X, 9, none⟩ _ w.heap.size (by have := GX.out; show w.heap.size ≠ X; omega)).trans hS6
  refine ⟨hS7, wpAnyH_done (by kernel_rfl) ?_ 0⟩
  have hX9 : (wd.setCell ⟨X, 9, none⟩ (.slice d.p9 d.n9 d.c9)).heap[X]? = some (.cells (({ zMD with x2 := 254, x3 := 253, x4 := d.x4, s5 := d.s5, s7 := d.s7, p8 := d.p8, n8 := d.n8, c8 := d.c8, u8 := d.u8, p9 := d.p9, n9 := d.n9, c9 := d.c9, u9 := d.u9 } : MD)).es 31 (0, 0)) := bset HX2.out 9 (.slice d.p9 d.n9 d.c9)
  have hR9 : (wd.setCell ⟨X, 9, none⟩ (.slice d.p9 d.n9 d.c9)).heap[w.heap.size + 1]? = some (.cells zero31 31 (0, 0)) := (Below.heap_setCell _ ⟨X, 9, none⟩ _ (w.heap.size + 1) (by have := GX.out; show w.heap.size + 1 ≠ X; omega)).trans HR2.out
  have hB9 : Below w.heap.size w (wd.setCell ⟨X, 9, none⟩ (.slice d.p9 d.n9 d.c9)) := HB2.out.setCell (p := ⟨X, 9, none⟩) (by have := GX.out; show w.heap.size ≤ X; omega) _
  generalize (wd.setCell ⟨X, 9, none⟩ (.slice d.p9 d.n9 d.c9)) = wd at hS7 hX9 hR9 hB9 ⊢
  clear x9 f9 hS6 HX2 HR2 HB2
  have HX2 := Lib.hid hX9
  have HR2 := Lib.hid hR9
  have HB2 := Lib.hid hB9
  clear hX9 hR9 hB9
  have HE2 := Lib.hid hS7
  clear hS7
  have k10 := (bcell HE2.out 10).trans (MD.g10 d)
  go_wp2_with fail
  refine (plainexts_any d.p10 d.n10 d.c10 d.D10 w0 wd (HW.out.trans (HB2.out.mono HW.out.size)) HX.out.o10 HL.out.1 HX.out.r10 HL.out.2).mono ?_
  rintro e w4 ⟨q, l, c, b, rfl, hgood, hb4⟩
  have hE4 := bblk hb4 HE2.out
  have hX4 := bblk hb4 HX2.out
  have hR4 := bblk hb4 HR2.out
  have hB4 := HB2.out.trans (hb4.mono HB2.out.size)
  have hXd : X < wd.heap.size := blt HX2.out
  have x10 : w4.cell? ⟨X, 10, none⟩ = some (.slice none 0 0) := (bcell hX4 10).trans rfl
  have f10 := bfrozen hX4 10
  have hX5 : (w4.setCell ⟨X, 10, none⟩ (.slice q l c)).heap[X]? = some (.cells ({ zMD with x2 := 254, x3 := 253, x4 := d.x4, s5 := d.s5, s7 := d.s7, p8 := d.p8, n8 := d.n8, c8 := d.c8, u8 := d.u8, p9 := d.p9, n9 := d.n9, c9 := d.c9, u9 := d.u9, p10 := q, n10 := l, c10 := c } : MD).es 31 (0, 0)) := bset hX4 10 (.slice q l c)
  have hE5 : (w4.setCell ⟨X, 10, none⟩ (.slice q l c)).heap[w.heap.size]? = some (.cells d.es 31 (0, 0)) := (Below.heap_setCell _ ⟨X, 10, none⟩ _ w.heap.size (by have := GX.out; show w.heap.size ≠ X; omega)).trans hE4
  have hR5 : (w4.setCell ⟨X, 10, none⟩ (.slice q l c)).heap[w.heap.size + 1]? = some (.cells zero31 31 (0, 0)) := (Below.heap_setCell _ ⟨X, 10, none⟩ _ (w.heap.size + 1) (by have := GX.out; show w.heap.size + 1 ≠ X; omega)).trans hR4
  have hB5 : Below w.heap.size w (w4.setCell ⟨X, 10, none⟩ (.slice q l c)) := hB4.setCell (p := ⟨X, 10, none⟩) (by have := GX.out; show w.heap.size ≤ X; omega) _
  have hG5 : b = true → GoodE w0 (X + 1) (w4.setCell ⟨X, 10, none⟩ (.slice q l c)) (.slice q l c) l := fun h => by
    obtain ⟨D, h1, h2, h3⟩ := hgood h
    exact ⟨D, h1, own_of_heap h2 hXd (fun g hg _ => Below.heap_setCell _ ⟨X, 10, none⟩ _ g (by show g ≠ X; omega)), h3⟩
  have HXD := Lib.hid hXd
  have HGG := Lib.hid hgood
  clear hE4 hX4 hR4 hB4 hb4 hXd hgood HE2 HX2 HR2 HB2 k10
  dsimp only
  go_upto_region 8 with fail
  generalize w4.setCell ⟨X, 10, none⟩ (.slice q l c) = w5 at hX5 hE5 hR5 hB5 hG5 ⊢
  have HE5 := Lib.hid hE5
  have HX5 := Lib.hid hX5
  have HR5 := Lib.hid hR5
  have HB5 := Lib.hid hB5
  have HG5 := Lib.hid hG5
  clear hE5 hX5 hR5 hB5 hG5 HGG x10 f10
  have k5 := (bcell HE5.out 5).trans (MD.g5 d)
  have k7 := (bcell HE5.out 7).trans (MD.g7 d)
  have k8 := (bcell HE5.out 8).trans (MD.g8 d)
  have k9 := (bcell HE5.out 9).trans (MD.g9 d)
  go_cut [5] (fun v wc => (∃ r, v = .bool r ∧ (r = true → b = true ∧ OkM d)) ∧ wc = w5)
  case first =>
    cases b
    · go_wp2_with fail
      go_meet
      case rel => exact ⟨⟨_, rfl, fun h => Bool.noConfusion h⟩, by trivial⟩
    by_cases h1 : (d.s5.size : Int) = 28
    rotate_left
    · go_wp2_with fail
      go_meet
      case rel => exact ⟨⟨_, rfl, fun h => Bool.noConfusion h⟩, by trivial⟩
    by_cases h2 : (d.s7.size : Int) ≤ 32
    rotate_left
    · go_wp2_with fail
      go_meet
      case rel => exact ⟨⟨_, rfl, fun h => Bool.noConfusion h⟩, by trivial⟩
    go_wp2_with fail
    refine (zeros_any d.p9 d.n9 d.c9 d.u9 w5 HX.out.o9.2.2 (HX.out.r9.below (HW.out.trans (HB5.out.mono HW.out.size)))).mono ?_
    rintro e w6 ⟨r, rfl, hr, rfl⟩
    rename World => w5
    have HR := Lib.hid hr
    clear hr
    dsimp only
    cases r
    · go_wp2_with fail
      go_meet
      case rel => exact ⟨⟨_, rfl, fun h => Bool.noConfusion h⟩, by trivial⟩
    by_cases h3 : (d.n8 : Int) > 0
    rotate_left
    · go_wp2_with fail
      go_meet
      case rel => exact ⟨⟨_, rfl, fun h => Bool.noConfusion h⟩, by trivial⟩
    by_cases h4 : (d.n8 : Int) ≤ 9999
    rotate_left
    · go_wp2_with fail
      go_meet
      case rel => exact ⟨⟨_, rfl, fun h => absurd (of_decide_eq_true h) (by omega)⟩, by trivial⟩
    go_wp2_with fail
    go_meet
    case rel => exact ⟨⟨_, rfl, fun _ => ⟨rfl, by omega, by omega, HR.out (by trivial), by omega, by omega⟩⟩, by trivial⟩
  obtain ⟨⟨r, rfl, hr⟩, hw⟩ := hcut
  subst hw
  rename World => w5
  have HR := Lib.hid hr
  have k0 := (bcell HE5.out 0).trans (mes0 d H0.out)
  have k6 := (bcell HE5.out 6).trans (MD.g6 d)
  have x6 : w5.cell? ⟨X, 6, none⟩ = some (.string ⟨#[]⟩) := (bcell HX5.out 6).trans rfl
  have f6 := bfrozen HX5.out 6
  have hX6 : (w5.setCell ⟨X, 6, none⟩ (.string d.s6)).heap[X]? = some (.cells (ownE d q l c).es 31 (0, 0)) := bset HX5.out 6 (.string d.s6)
  have hE6 : (w5.setCell ⟨X, 6, none⟩ (.string d.s6)).heap[w.heap.size]? = some (.cells d.es 31 (0, 0)) := (Below.heap_setCell _ ⟨X, 6, none⟩ _ w.heap.size (by have := GX.out; show w.heap.size ≠ X; omega)).trans HE5.out
  have hR6 : (w5.setCell ⟨X, 6, none⟩ (.string d.s6)).heap[w.heap.size + 1]? = some (.cells zero31 31 (0, 0)) := (Below.heap_setCell _ ⟨X, 6, none⟩ _ (w.heap.size + 1) (by have := GX.out; show w.heap.size + 1 ≠ X; omega)).trans HR5.out
  have hB6 : Below w.heap.size w (w5.setCell ⟨X, 6, none⟩ (.string d.s6)) := HB5.out.setCell (p := ⟨X, 6, none⟩) (by have := GX.out; show w.heap.size ≤ X; omega) _
  have hG6 : b = true → GoodE w0 (X + 1) (w5.setCell ⟨X, 6, none⟩ (.string d.s6)) (.slice q l c) l := fun h => by
    obtain ⟨D, h1, h2, h3⟩ := HG5.out h
    exact ⟨D, h1, own_of_heap h2 (Nat.le_refl _) (fun g hg _ => Below.heap_setCell _ ⟨X, 6, none⟩ _ g (by show g ≠ X; omega)), h3⟩
  clear hr HE5 HX5 HR5 HB5 HG5 k5 k7 k8 k9
  go_upto_region 11 with fail
  generalize w5.setCell ⟨X, 6, none⟩ (.string d.s6) = w5 at hX6 hE6 hR6 hB6 hG6 ⊢
  have HE5 := Lib.hid hE6
  have HX5 := Lib.hid hX6
  have HR5 := Lib.hid hR6
  have HB5 := Lib.hid hB6
  have HG5 := Lib.hid hG6
  clear hE6 hX6 hR6 hB6 hG6 k0 k6 x6 f6
  cases r
  · have hS0 : w5.drew.heap[w.heap.size]? = some (.cells d.es 31 (0, 0)) ∧ w5.drew.heap[X]? = some (.cells (ownE d q l c).es 31 (0, 0)) := ⟨HE5.out, HX5.out⟩
    refine wp_region_held (S := fun wz => wz.heap[w.heap.size]? = some (.cells d.es 31 (0, 0)) ∧ wz.heap[X]? = some (.cells (ownE d q l c).es 31 (0, 0))) (by kernel_rfl) ?_
    change wpAnyH _ _ _ _ _ 10 _ _ w5.drew
    refine wpAnyH_takeG (i := 0) (d := 76) (g := none) (op := (Op.load 31 (Operand.tmp 4))) (v := .agg (ownE d q l c).es) (by kernel_rfl) (by kernel_rfl) (by kernel_rfl) (by kernel_rfl) (fun _ _ _ h => h) rfl (fun ty pos af wz h => ld31 _ _ _ (by kernel_rfl) (loadRow wz h.2 Tryz.underlying31 rfl (hi31 _))) hS0 ?_
    refine wpAnyH_takeG (i := 1) (d := 77) (g := none) (op := (Op.move (Operand.tmp 5))) (v := .bool false) (by kernel_rfl) (by kernel_rfl) (by kernel_rfl) (by kernel_rfl) (fun _ _ _ h => h) rfl (fun _ _ _ _ _ => by kernel_rfl) hS0 ?_
    refine wpAnyH_takeG (i := 2) (d := 78) (g := none) (op := (Op.move (Operand.tmp 77))) (v := .bool false) (by kernel_rfl) (by kernel_rfl) (by kernel_rfl) (by kernel_rfl) (fun _ _ _ h => h) rfl (fun _ _ _ _ _ => by kernel_rfl) hS0 ?_
    refine wpAnyH_pass (i := 3) (d := 79) (g := (some (2, true))) (op := (Op.fieldAddr 31 (Operand.tmp 1) 6)) (by kernel_rfl) (by kernel_rfl) (by kernel_rfl) (by kernel_rfl) (fun _ _ _ h => h) (by kernel_rfl) hS0 ?_
    refine wpAnyH_pass (i := 4) (d := 80) (g := (some (2, true))) (op := (Op.load 9 (Operand.tmp 79))) (by kernel_rfl) (by kernel_rfl) (by kernel_rfl) (by kernel_rfl) (fun _ _ _ h => h) (by kernel_rfl) hS0 ?_
    refine wpAnyH_pass (i := 5) (d := 81) (g := (some (2, true))) (op := (Op.call { callee := (Callee.builtin Builtin.len), args := #[(Operand.tmp 80)], argTypes := #[9] })) (by kernel_rfl) (by kernel_rfl) (by kernel_rfl) (by kernel_rfl) (fun _ _ _ h => h) (by kernel_rfl) hS0 ?_
    refine wpAnyH_pass (i := 6) (d := 82) (g := (some (2, true))) (op := (Op.binOp BinOp.lss 3 (Operand.tmp 81) (Operand.const (Value.int IntKind.i64 256)) 3)) (by kernel_rfl) (by kernel_rfl) (by kernel_rfl) (by kernel_rfl) (fun _ _ _ h => h) (by kernel_rfl) hS0 ?_
    refine wpAnyH_takeG (i := 7) (d := 83) (g := none) (op := (Op.pick (Operand.tmp 78) (Operand.tmp 82) (Operand.const (Value.bool false)))) (v := .bool false) (by kernel_rfl) (by kernel_rfl) (by kernel_rfl) (by kernel_rfl) (fun _ _ _ h => h) rfl (fun _ _ _ _ _ => by kernel_rfl) hS0 ?_
    refine wpAnyH_list (i := 8) (o := ⟨none, .store 31 (.tmp 2) (.tmp 76), _, _, _, _⟩) (by kernel_rfl) rfl rfl ?_
    refine wpList_store_row (o := ⟨none, .store 31 (.tmp 2) (.tmp 76), _, _, _, _⟩) rfl 31 (.tmp 2) (.tmp 76) rfl (w.heap.size + 1) (ownE d q l c).es (by kernel_rfl) (by kernel_rfl) 31 zero31 HR5.out (hi31 _) rfl (MD.one _) ?_
    have hR6 := setRow_heap w5.drew (w.heap.size + 1) zero31 (ownE d q l c).es 31 (0, 0) HR5.out
    have hS1 : (w5.drew.setRow (w.heap.size + 1) (ownE d q l c).es).heap[w.heap.size]? = some (.cells d.es 31 (0, 0)) ∧ (w5.drew.setRow (w.heap.size + 1) (ownE d q l c).es).heap[X]? = some (.cells (ownE d q l c).es 31 (0, 0)) := ⟨(setRow_other _ _ _ _ (by omega)).trans hS0.1, (setRow_other _ _ _ _ (by have := GX.out; omega)).trans hS0.2⟩
    have hsame : ∀ g, X + 1 ≤ g → w5.heap[g]? ≠ none → (w5.drew.setRow (w.heap.size + 1) (ownE d q l c).es).heap[g]? = w5.heap[g]? := fun g hg _ => setRow_other _ _ _ _ (by have := GX.out; omega)
    have hB6 := below_setRow HB5.out.drew (Nat.le_succ _) (ownE d q l c).es
    generalize w5.drew.setRow (w.heap.size + 1) (ownE d q l c).es = w6 at hR6 hS1 hB6 hsame ⊢
    refine ⟨hS1, ?_⟩
    refine wpAnyH_takeG (i := 9) (d := 3) (g := none) (op := (Op.assign (Operand.tmp 83))) (v := .bool false) (by kernel_rfl) (by kernel_rfl) (by kernel_rfl) (by kernel_rfl) (fun _ _ _ h => h) rfl (fun _ _ _ _ _ => by kernel_rfl) hS1 ?_
    refine wpAnyH_done (by kernel_rfl) ?_ 0
    simp only [Act.put, List.setIfInBounds_toArray, List.set_cons_zero, List.set_cons_succ]
    have HR6 := Lib.hid hR6
    have HB6 := Lib.hid hB6
    have HSAME := Lib.hid hsame
    clear hR6 hB6 hS0 hS1 hsame
    go_wp2_with fail
    refine bodyPost_ret (results_cell_row_tmp rfl _ _ (w.heap.size + 1) 31 (ownE d q l c).es (0, 0) _ (by kernel_rfl) HR6.out Tryz.underlying31 rfl (hi31 _)) rfl ?_
    exact ⟨q, l, c, false, rfl, fun h => Bool.noConfusion h, HB6.out⟩
  · by_cases hc : (d.s6.size : Int) < 256
    · have hS0 : w5.drew.heap[w.heap.size]? = some (.cells d.es 31 (0, 0)) ∧ w5.drew.heap[X]? = some (.cells (ownE d q l c).es 31 (0, 0)) := ⟨HE5.out, HX5.out⟩
      refine wp_region_held (S := fun wz => wz.heap[w.heap.size]? = some (.cells d.es 31 (0, 0)) ∧ wz.heap[X]? = some (.cells (ownE d q l c).es 31 (0, 0))) (by kernel_rfl) ?_
      change wpAnyH _ _ _ _ _ 10 _ _ w5.drew
      refine wpAnyH_takeG (i := 0) (d := 76) (g := none) (op := (Op.load 31 (Operand.tmp 4))) (v := .agg (ownE d q l c).es) (by kernel_rfl) (by kernel_rfl) (by kernel_rfl) (by kernel_rfl) (fun _ _ _ h => h) rfl (fun ty pos af wz h => ld31 _ _ _ (by kernel_rfl) (loadRow wz h.2 Tryz.underlying31 rfl (hi31 _))) hS0 ?_
      refine wpAnyH_takeG (i := 1) (d := 77) (g := none) (op := (Op.move (Operand.tmp 5))) (v := .bool true) (by kernel_rfl) (by kernel_rfl) (by kernel_rfl) (by kernel_rfl) (fun _ _ _ h => h) rfl (fun _ _ _ _ _ => by kernel_rfl) hS0 ?_
      refine wpAnyH_takeG (i := 2) (d := 78) (g := none) (op := (Op.move (Operand.tmp 77))) (v := .bool true) (by kernel_rfl) (by kernel_rfl) (by kernel_rfl) (by kernel_rfl) (fun _ _ _ h => h) rfl (fun _ _ _ _ _ => by kernel_rfl) hS0 ?_
      refine wpAnyH_takeG (i := 3) (d := 79) (g := (some (2, true))) (op := (Op.fieldAddr 31 (Operand.tmp 1) 6)) (v := .pointer (some ⟨w.heap.size, 6, none⟩)) (by kernel_rfl) (by kernel_rfl) (by kernel_rfl) (by kernel_rfl) (fun _ _ _ h => h) (by kernel_rfl) (fun _ _ _ _ _ => by kernel_rfl) hS0 ?_
      refine wpAnyH_ldG (i := 4) (d := 80) (g := (some (2, true))) (t := 9) (x := (Operand.tmp 79)) (p := ⟨w.heap.size, 6, none⟩) (u := .string d.s6) (by kernel_rfl) (by kernel_rfl) (by kernel_rfl) (by kernel_rfl) (fun _ _ _ h => h) (by kernel_rfl) (by kernel_rfl) (fun wz h => ld9 wz _ _ ((bcell h.1 6).trans (MD.g6 d))) hS0 ?_
      refine wpAnyH_takeG (i := 5) (d := 81) (g := (some (2, true))) (op := (Op.call { callee := (Callee.builtin Builtin.len), args := #[(Operand.tmp 80)], argTypes := #[9] })) (v := .int .i64 (d.s6.size : Int)) (by kernel_rfl) (by kernel_rfl) (by kernel_rfl) (by kernel_rfl) (fun _ _ _ h => h) (by kernel_rfl) (fun _ _ _ _ _ => by kernel_rfl) hS0 ?_
      refine wpAnyH_takeG (i := 6) (d := 82) (g := (some (2, true))) (op := (Op.binOp BinOp.lss 3 (Operand.tmp 81) (Operand.const (Value.int IntKind.i64 256)) 3)) (v := .bool true) (by kernel_rfl) (by kernel_rfl) (by kernel_rfl) (by kernel_rfl) (fun _ _ _ h => h) (by kernel_rfl) (fun ty pos af wz _ => lss_run _ _ _ (by kernel_rfl) (by kernel_rfl) (by simp only [decide_eq_true_eq, decide_eq_false_iff_not]; omega) wz) hS0 ?_
      refine wpAnyH_takeG (i := 7) (d := 83) (g := none) (op := (Op.pick (Operand.tmp 78) (Operand.tmp 82) (Operand.const (Value.bool false)))) (v := .bool true) (by kernel_rfl) (by kernel_rfl) (by kernel_rfl) (by kernel_rfl) (fun _ _ _ h => h) rfl (fun _ _ _ _ _ => by kernel_rfl) hS0 ?_
      refine wpAnyH_list (i := 8) (o := ⟨none, .store 31 (.tmp 2) (.tmp 76), _, _, _, _⟩) (by kernel_rfl) rfl rfl ?_
      refine wpList_store_row (o := ⟨none, .store 31 (.tmp 2) (.tmp 76), _, _, _, _⟩) rfl 31 (.tmp 2) (.tmp 76) rfl (w.heap.size + 1) (ownE d q l c).es (by kernel_rfl) (by kernel_rfl) 31 zero31 HR5.out (hi31 _) rfl (MD.one _) ?_
      have hR6 := setRow_heap w5.drew (w.heap.size + 1) zero31 (ownE d q l c).es 31 (0, 0) HR5.out
      have hS1 : (w5.drew.setRow (w.heap.size + 1) (ownE d q l c).es).heap[w.heap.size]? = some (.cells d.es 31 (0, 0)) ∧ (w5.drew.setRow (w.heap.size + 1) (ownE d q l c).es).heap[X]? = some (.cells (ownE d q l c).es 31 (0, 0)) := ⟨(setRow_other _ _ _ _ (by omega)).trans hS0.1, (setRow_other _ _ _ _ (by have := GX.out; omega)).trans hS0.2⟩
      have hsame : ∀ g, X + 1 ≤ g → w5.heap[g]? ≠ none → (w5.drew.setRow (w.heap.size + 1) (ownE d q l c).es).heap[g]? = w5.heap[g]? := fun g hg _ => setRow_other _ _ _ _ (by have := GX.out; omega)
      have hB6 := below_setRow HB5.out.drew (Nat.le_succ _) (ownE d q l c).es
      generalize w5.drew.setRow (w.heap.size + 1) (ownE d q l c).es = w6 at hR6 hS1 hB6 hsame ⊢
      refine ⟨hS1, ?_⟩
      refine wpAnyH_takeG (i := 9) (d := 3) (g := none) (op := (Op.assign (Operand.tmp 83))) (v := .bool true) (by kernel_rfl) (by kernel_rfl) (by kernel_rfl) (by kernel_rfl) (fun _ _ _ h => h) rfl (fun _ _ _ _ _ => by kernel_rfl) hS1 ?_
      refine wpAnyH_done (by kernel_rfl) ?_ 0
      simp only [Act.put, List.setIfInBounds_toArray, List.set_cons_zero, List.set_cons_succ]
      have HR6 := Lib.hid hR6
      have HB6 := Lib.hid hB6
      have HSAME := Lib.hid hsame
      clear hR6 hB6 hS0 hS1 hsame
      go_wp2_with fail
      refine bodyPost_ret (results_cell_row_tmp rfl _ _ (w.heap.size + 1) 31 (ownE d q l c).es (0, 0) _ (by kernel_rfl) HR6.out Tryz.underlying31 rfl (hi31 _)) rfl ?_
      have hbt := (HR.out (by trivial)).1
      refine ⟨q, l, c, true, rfl, fun _ => ⟨(HR.out (by trivial)).2, by omega, ?_⟩, HB6.out⟩
      obtain ⟨D, h1, h2, h3⟩ := HG5.out hbt
      exact ⟨D, h1, own_of_heap h2 (by have := GX.out; omega) (HSAME.out), h3⟩
    · have hS0 : w5.drew.heap[w.heap.size]? = some (.cells d.es 31 (0, 0)) ∧ w5.drew.heap[X]? = some (.cells (ownE d q l c).es 31 (0, 0)) := ⟨HE5.out, HX5.out⟩
      refine wp_region_held (S := fun wz => wz.heap[w.heap.size]? = some (.cells d.es 31 (0, 0)) ∧ wz.heap[X]? = some (.cells (ownE d q l c).es 31 (0, 0))) (by kernel_rfl) ?_
      change wpAnyH _ _ _ _ _ 10 _ _ w5.drew
      refine wpAnyH_takeG (i := 0) (d := 76) (g := none) (op := (Op.load 31 (Operand.tmp 4))) (v := .agg (ownE d q l c).es) (by kernel_rfl) (by kernel_rfl) (by kernel_rfl) (by kernel_rfl) (fun _ _ _ h => h) rfl (fun ty pos af wz h => ld31 _ _ _ (by kernel_rfl) (loadRow wz h.2 Tryz.underlying31 rfl (hi31 _))) hS0 ?_
      refine wpAnyH_takeG (i := 1) (d := 77) (g := none) (op := (Op.move (Operand.tmp 5))) (v := .bool true) (by kernel_rfl) (by kernel_rfl) (by kernel_rfl) (by kernel_rfl) (fun _ _ _ h => h) rfl (fun _ _ _ _ _ => by kernel_rfl) hS0 ?_
      refine wpAnyH_takeG (i := 2) (d := 78) (g := none) (op := (Op.move (Operand.tmp 77))) (v := .bool true) (by kernel_rfl) (by kernel_rfl) (by kernel_rfl) (by kernel_rfl) (fun _ _ _ h => h) rfl (fun _ _ _ _ _ => by kernel_rfl) hS0 ?_
      refine wpAnyH_takeG (i := 3) (d := 79) (g := (some (2, true))) (op := (Op.fieldAddr 31 (Operand.tmp 1) 6)) (v := .pointer (some ⟨w.heap.size, 6, none⟩)) (by kernel_rfl) (by kernel_rfl) (by kernel_rfl) (by kernel_rfl) (fun _ _ _ h => h) (by kernel_rfl) (fun _ _ _ _ _ => by kernel_rfl) hS0 ?_
      refine wpAnyH_ldG (i := 4) (d := 80) (g := (some (2, true))) (t := 9) (x := (Operand.tmp 79)) (p := ⟨w.heap.size, 6, none⟩) (u := .string d.s6) (by kernel_rfl) (by kernel_rfl) (by kernel_rfl) (by kernel_rfl) (fun _ _ _ h => h) (by kernel_rfl) (by kernel_rfl) (fun wz h => ld9 wz _ _ ((bcell h.1 6).trans (MD.g6 d))) hS0 ?_
      refine wpAnyH_takeG (i := 5) (d := 81) (g := (some (2, true))) (op := (Op.call { callee := (Callee.builtin Builtin.len), args := #[(Operand.tmp 80)], argTypes := #[9] })) (v := .int .i64 (d.s6.size : Int)) (by kernel_rfl) (by kernel_rfl) (by kernel_rfl) (by kernel_rfl) (fun _ _ _ h => h) (by kernel_rfl) (fun _ _ _ _ _ => by kernel_rfl) hS0 ?_
      refine wpAnyH_takeG (i := 6) (d := 82) (g := (some (2, true))) (op := (Op.binOp BinOp.lss 3 (Operand.tmp 81) (Operand.const (Value.int IntKind.i64 256)) 3)) (v := .bool false) (by kernel_rfl) (by kernel_rfl) (by kernel_rfl) (by kernel_rfl) (fun _ _ _ h => h) (by kernel_rfl) (fun ty pos af wz _ => lss_run _ _ _ (by kernel_rfl) (by kernel_rfl) (by simp only [decide_eq_true_eq, decide_eq_false_iff_not]; omega) wz) hS0 ?_
      refine wpAnyH_takeG (i := 7) (d := 83) (g := none) (op := (Op.pick (Operand.tmp 78) (Operand.tmp 82) (Operand.const (Value.bool false)))) (v := .bool false) (by kernel_rfl) (by kernel_rfl) (by kernel_rfl) (by kernel_rfl) (fun _ _ _ h => h) rfl (fun _ _ _ _ _ => by kernel_rfl) hS0 ?_
      refine wpAnyH_list (i := 8) (o := ⟨none, .store 31 (.tmp 2) (.tmp 76), _, _, _, _⟩) (by kernel_rfl) rfl rfl ?_
      refine wpList_store_row (o := ⟨none, .store 31 (.tmp 2) (.tmp 76), _, _, _, _⟩) rfl 31 (.tmp 2) (.tmp 76) rfl (w.heap.size + 1) (ownE d q l c).es (by kernel_rfl) (by kernel_rfl) 31 zero31 HR5.out (hi31 _) rfl (MD.one _) ?_
      have hR6 := setRow_heap w5.drew (w.heap.size + 1) zero31 (ownE d q l c).es 31 (0, 0) HR5.out
      have hS1 : (w5.drew.setRow (w.heap.size + 1) (ownE d q l c).es).heap[w.heap.size]? = some (.cells d.es 31 (0, 0)) ∧ (w5.drew.setRow (w.heap.size + 1) (ownE d q l c).es).heap[X]? = some (.cells (ownE d q l c).es 31 (0, 0)) := ⟨(setRow_other _ _ _ _ (by omega)).trans hS0.1, (setRow_other _ _ _ _ (by have := GX.out; omega)).trans hS0.2⟩
      have hsame : ∀ g, X + 1 ≤ g → w5.heap[g]? ≠ none → (w5.drew.setRow (w.heap.size + 1) (ownE d q l c).es).heap[g]? = w5.heap[g]? := fun g hg _ => setRow_other _ _ _ _ (by have := GX.out; omega)
      have hB6 := below_setRow HB5.out.drew (Nat.le_succ _) (ownE d q l c).es
      generalize w5.drew.setRow (w.heap.size + 1) (ownE d q l c).es = w6 at hR6 hS1 hB6 hsame ⊢
      refine ⟨hS1, ?_⟩
      refine wpAnyH_takeG (i := 9) (d := 3) (g := none) (op := (Op.assign (Operand.tmp 83))) (v := .bool false) (by kernel_rfl) (by kernel_rfl) (by kernel_rfl) (by kernel_rfl) (fun _ _ _ h => h) rfl (fun _ _ _ _ _ => by kernel_rfl) hS1 ?_
      refine wpAnyH_done (by kernel_rfl) ?_ 0
      simp only [Act.put, List.setIfInBounds_toArray, List.set_cons_zero, List.set_cons_succ]
      have HR6 := Lib.hid hR6
      have HB6 := Lib.hid hB6
      have HSAME := Lib.hid hsame
      clear hR6 hB6 hS0 hS1 hsame
      go_wp2_with fail
      refine bodyPost_ret (results_cell_row_tmp rfl _ _ (w.heap.size + 1) 31 (ownE d q l c).es (0, 0) _ (by kernel_rfl) HR6.out Tryz.underlying31 rfl (hi31 _)) rfl ?_
      exact ⟨q, l, c, false, rfl, fun h => Bool.noConfusion h, HB6.out⟩
end Go.Proofs.YtgnmgkpfgmpdfaaGreatDoor
