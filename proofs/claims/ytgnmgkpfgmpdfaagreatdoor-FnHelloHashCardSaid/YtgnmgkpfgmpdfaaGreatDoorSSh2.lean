/- laws.shaped, the other types. -/
import Derived.Test.YtgnmgkpfgmpdfaaGreatDoorSSh1
import Derived.Test.YtgnmgkpfgmpdfaaGreatDoorSPlain
import Derived.Test.YtgnmgkpfgmpdfaaGreatDoorSLds
set_option linter.unusedVariables false
set_option linter.unusedSimpArgs false
namespace Go.Proofs.YtgnmgkpfgmpdfaaGreatDoor
open Go.RowKit

set_option maxHeartbeats 4000000 in
set_option maxRecDepth 100000 in
theorem shaped_14 (d : ED) (w : World) (hx : Ext w d) (h0 : d.x0 = 14) : Calls Tryz.prog 27 #[.agg d.es] w (Shaped d w) := by
  have H0 := Lib.hid h0
  have HX := Lib.hid hx
  clear hx h0
  go_enter Tryz.func27, Tryz.ntmps27
  have hB1 : Below w.heap.size w ((w.alloc (Obj.cells d.es 69)).alloc (Obj.cells zero69 69)) := ((Below.refl _ _).alloc (Nat.le_refl _) _).alloc (by simp) _
  have hE1 : ((w.alloc (Obj.cells d.es 69)).alloc (Obj.cells zero69 69)).heap[w.heap.size]? = some (.cells d.es 69 (0, 0)) := by
    rw [heap_alloc_old _ _ (by simp)]
    exact heap_alloc_new _ _
  have hR1 : ((w.alloc (Obj.cells d.es 69)).alloc (Obj.cells zero69 69)).heap[w.heap.size + 1]? = some (.cells zero69 69 (0, 0)) := by
    have h := heap_alloc_new (w.alloc (Obj.cells d.es 69)) (Obj.cells zero69 69)
    rwa [World.size_alloc] at h
  have hs1 : ((w.alloc (Obj.cells d.es 69)).alloc (Obj.cells zero69 69)).heap.size = w.heap.size + 2 := by simp
  go_upto_region 1 with fail
  change Code.wp _ _ _ _ ((w.alloc (Obj.cells d.es 69)).alloc (Obj.cells zero69 69))
  generalize (w.alloc (Obj.cells d.es 69)).alloc (Obj.cells zero69 69) = w1 at hB1 hE1 hR1 hs1 ⊢
  have k0 := (bcell hE1 0).trans (es0 d H0.out)
  have HS1 := Lib.hid hs1
  have HE1 := Lib.hid hE1
  have HR1 := Lib.hid hR1
  have HB1 := Lib.hid hB1
  clear hs1 hE1 hR1 hB1
  go_upto_region 2 with (refine wpList_store_row (o := ⟨none, .store 69 (.tmp 3) (.tmp 6), _, _, _, _⟩) rfl 69 (.tmp 3) (.tmp 6) rfl w1.heap.size (zED 14).es (by kernel_rfl) (by kernel_rfl) 69 zero69 (heap_alloc_new w1 _) (by kernel_rfl) rfl (ED.one _) ?_; change wpList _ _ _ _ _ ((w1.alloc (Obj.cells zero69 69)).setRow w1.heap.size _); rw [setRow_alloc])
  have hb2 := (Below.refl w1.heap.size w1).alloc (Nat.le_refl _) (Obj.cells (zED 14).es 69)
  have hX2 := heap_alloc_new w1 (Obj.cells (zED 14).es 69)
  generalize w1.alloc (Obj.cells (zED 14).es 69) = w2 at hb2 hX2 ⊢
  have hE2 := bblk hb2 HE1.out
  have hR2 := bblk hb2 HR1.out
  have hB2 := HB1.out.trans (hb2.mono HB1.out.size)
  have gX : w1.heap.size = w.heap.size + 2 := HS1.out
  generalize w1.heap.size = X at hX2 gX ⊢
  have k0 := (bcell hE2 0).trans (es0 d H0.out)
  have GX := Lib.hid gX
  have HB2 := Lib.hid hB2
  have HE2 := Lib.hid hE2
  have HR2 := Lib.hid hR2
  have HX2 := Lib.hid hX2
  clear hb2 hX2 hE2 hR2 hB2 gX HB1 HE1 HR1 HS1
  go_upto_region 16 with fail
  have hS0 : w2.drew.heap[w.heap.size]? = some (.cells d.es 69 (0, 0)) := HE2.out
  have hX0 : w2.drew.heap[X]? = some (.cells (zED 14).es 69 (0, 0)) := HX2.out
  have hR0 : w2.drew.heap[w.heap.size + 1]? = some (.cells zero69 69 (0, 0)) := HR2.out
  have hB0 : Below w.heap.size w w2.drew := HB2.out.drew
  refine wp_region_held (S := fun w0 => w0.heap[w.heap.size]? = some (.cells d.es 69 (0, 0))) (by kernel_rfl) ?_
  change wpAnyH _ _ _ _ _ 8 _ _ w2.drew
  generalize w2.drew = wd at hS0 hX0 hR0 hB0 ⊢
  clear HE2 HX2 HR2 HB2
  have HX2 := Lib.hid hX0
  have HR2 := Lib.hid hR0
  have HB2 := Lib.hid hB0
  clear hX0 hR0 hB0 k0
  refine wpAnyH_takeG (i := 0) (d := 32) (g := none) (op := (Op.fieldAddr 69 (Operand.tmp 1) 3)) (v := .pointer (some ⟨w.heap.size, 3, none⟩)) (by kernel_rfl) (by kernel_rfl) (by kernel_rfl) (by kernel_rfl) (fun _ _ _ h => h) rfl (fun _ _ _ _ _ => by kernel_rfl) hS0 ?_
  refine wpAnyH_ldG (i := 1) (d := 33) (g := none) (t := 23) (x := (Operand.tmp 32)) (p := ⟨w.heap.size, 3, none⟩) (u := .slice d.p3 d.n3 d.c3) (by kernel_rfl) (by kernel_rfl) (by kernel_rfl) (by kernel_rfl) (fun _ _ _ h => h) rfl (by kernel_rfl) (fun w1 h1 => ld23 w1 _ _ ((bcell h1 3).trans (ED.g3 d))) hS0 ?_
  refine wpAnyH_takeG (i := 2) (d := 34) (g := none) (op := (Op.fieldAddr 69 (Operand.tmp 1) 1)) (v := .pointer (some ⟨w.heap.size, 1, none⟩)) (by kernel_rfl) (by kernel_rfl) (by kernel_rfl) (by kernel_rfl) (fun _ _ _ h => h) rfl (fun _ _ _ _ _ => by kernel_rfl) hS0 ?_
  refine wpAnyH_ldG (i := 3) (d := 35) (g := none) (t := 9) (x := (Operand.tmp 34)) (p := ⟨w.heap.size, 1, none⟩) (u := .string d.s1) (by kernel_rfl) (by kernel_rfl) (by kernel_rfl) (by kernel_rfl) (fun _ _ _ h => h) rfl (by kernel_rfl) (fun w1 h1 => ld9 w1 _ _ ((bcell h1 1).trans (ED.g1 d))) hS0 ?_
  refine wpAnyH_takeG (i := 4) (d := 36) (g := none) (op := (Op.fieldAddr 69 (Operand.tmp 3) 3)) (v := .pointer (some ⟨X, 3, none⟩)) (by kernel_rfl) (by kernel_rfl) (by kernel_rfl) (by kernel_rfl) (fun _ _ _ h => h) rfl (fun _ _ _ _ _ => by kernel_rfl) hS0 ?_
  have x3 : wd.cell? ⟨X, 3, none⟩ = some (.slice none 0 0) := (bcell HX2.out 3).trans rfl
  have f3 := bfrozen HX2.out 3
  refine wpAnyH_list (i := 5) (o := ⟨none, .store 23 (.tmp 36) (.tmp 33), _, _, _, _⟩) (by kernel_rfl) rfl rfl ?_
  simp only [Act.put, List.setIfInBounds_toArray, List.set_cons_zero, List.set_cons_succ]
  go_wp2_with fail
  have hS1 : (wd.setCell ⟨X, 3, none⟩ (.slice d.p3 d.n3 d.c3)).heap[w.heap.size]? = some (.cells d.es 69 (0, 0)) := (Below.heap_setCell _ ⟨X, 3, none⟩ _ w.heap.size (by have := GX.out; show w.heap.size ≠ X; omega)).trans hS0
  refine ⟨hS1, ?_⟩
  clear x3 f3 hS0
  refine wpAnyH_takeG (i := 6) (d := 37) (g := none) (op := (Op.fieldAddr 69 (Operand.tmp 3) 1)) (v := .pointer (some ⟨X, 1, none⟩)) (by kernel_rfl) (by kernel_rfl) (by kernel_rfl) (by kernel_rfl) (fun _ _ _ h => h) rfl (fun _ _ _ _ _ => by kernel_rfl) hS1 ?_
  have x1 : (wd.setCell ⟨X, 3, none⟩ (.slice d.p3 d.n3 d.c3)).cell? ⟨X, 1, none⟩ = some (.string ⟨#[]⟩) := (bcell (bset HX2.out 3 (.slice d.p3 d.n3 d.c3)) 1).trans rfl
  have f1 := bfrozen (bset HX2.out 3 (.slice d.p3 d.n3 d.c3)) 1
  refine wpAnyH_list (i := 7) (o := ⟨none, .store 9 (.tmp 37) (.tmp 35), _, _, _, _⟩) (by kernel_rfl) rfl rfl ?_
  simp only [Act.put, List.setIfInBounds_toArray, List.set_cons_zero, List.set_cons_succ]
  go_wp2_with fail
  have hS2 : ((wd.setCell ⟨X, 3, none⟩ (.slice d.p3 d.n3 d.c3)).setCell ⟨X, 1, none⟩ (.string d.s1)).heap[w.heap.size]? = some (.cells d.es 69 (0, 0)) := (Below.heap_setCell _ ⟨X, 1, none⟩ _ w.heap.size (by have := GX.out; show w.heap.size ≠ X; omega)).trans hS1
  refine ⟨hS2, wpAnyH_done (by kernel_rfl) ?_ 0⟩
  clear x1 f1 hS1
  go_upto_region 40 with fail
  obtain ⟨D, hx0, hext, hfit, hX3⟩ : ∃ D : ED, D.x0 = d.x0 ∧ (∀ w0, Ext w0 d → Ext w0 D) ∧ (Fit d → Fit D) ∧ ((wd.setCell ⟨X, 3, none⟩ (.slice d.p3 d.n3 d.c3)).setCell ⟨X, 1, none⟩ (.string d.s1)).heap[X]? = some (.cells D.es 69 (0, 0)) := ⟨{ zED 14 with p3 := d.p3, n3 := d.n3, c3 := d.c3, u3 := d.u3, s1 := d.s1 }, H0.out.symm, fun w0 h => have z := Ext.zero w0 d.x0; { z with o3 := h.o3, r3 := h.r3, h1 := h.h1 }, fun f => { Fit.zero d.x0 with n3 := f.n3 }, (bset (bset HX2.out 3 _) 1 _)⟩
  have hR3 : ((wd.setCell ⟨X, 3, none⟩ (.slice d.p3 d.n3 d.c3)).setCell ⟨X, 1, none⟩ (.string d.s1)).heap[w.heap.size + 1]? = some (.cells zero69 69 (0, 0)) := ((Below.heap_setCell _ ⟨X, 1, none⟩ _ (w.heap.size + 1) (by have := GX.out; show w.heap.size + 1 ≠ X; omega)).trans ((Below.heap_setCell _ ⟨X, 3, none⟩ _ (w.heap.size + 1) (by have := GX.out; show w.heap.size + 1 ≠ X; omega)).trans HR2.out))
  have hB3 : Below w.heap.size w ((wd.setCell ⟨X, 3, none⟩ (.slice d.p3 d.n3 d.c3)).setCell ⟨X, 1, none⟩ (.string d.s1)) := ((HB2.out.setCell (p := ⟨X, 3, none⟩) (by have := GX.out; show w.heap.size ≤ X; omega) _).setCell (p := ⟨X, 1, none⟩) (by have := GX.out; show w.heap.size ≤ X; omega) _)
  generalize ((wd.setCell ⟨X, 3, none⟩ (.slice d.p3 d.n3 d.c3)).setCell ⟨X, 1, none⟩ (.string d.s1)) = w3 at hX3 hR3 hB3 ⊢
  have HX3 := Lib.hid hX3
  have HR3 := Lib.hid hR3
  have HB3 := Lib.hid hB3
  have HEX := Lib.hid hext
  have HX0 := Lib.hid hx0
  have HFT := Lib.hid hfit
  clear hX3 hR3 hB3 hext hx0 hfit
  go_wp2_with (first | (refine wpList_load_row rfl 69 (.tmp 3) rfl X (by kernel_rfl) 69 D.es (0, 0) _ HX3.out Tryz.underlying69 rfl (hi69 _) ?_) | (refine wpList_store_row (o := ⟨none, .store 69 (.tmp 2) (.tmp 104), _, _, _, _⟩) rfl 69 (.tmp 2) (.tmp 104) rfl (w.heap.size + 1) D.es (by kernel_rfl) (by kernel_rfl) 69 zero69 HR3.out (hi69 _) rfl (ED.one _) ?_))
  refine bodyPost_ret (results_cell_row rfl _ _ (w.heap.size + 1) 69 D.es (0, 0) _ (by kernel_rfl) (setRow_heap w3 (w.heap.size + 1) zero69 _ 69 _ HR3.out) Tryz.underlying69 rfl (hi69 _)) rfl ?_
  have hB4 := below_setRow HB3.out (Nat.le_succ _) D.es
  exact ⟨D, rfl, HX0.out, HEX.out, HFT.out, hB4⟩
set_option maxHeartbeats 4000000 in
set_option maxRecDepth 100000 in
theorem shaped_41 (d : ED) (w : World) (hx : Ext w d) (h0 : d.x0 = 41) : Calls Tryz.prog 27 #[.agg d.es] w (Shaped d w) := by
  have H0 := Lib.hid h0
  have HX := Lib.hid hx
  clear hx h0
  go_enter Tryz.func27, Tryz.ntmps27
  have hB1 : Below w.heap.size w ((w.alloc (Obj.cells d.es 69)).alloc (Obj.cells zero69 69)) := ((Below.refl _ _).alloc (Nat.le_refl _) _).alloc (by simp) _
  have hE1 : ((w.alloc (Obj.cells d.es 69)).alloc (Obj.cells zero69 69)).heap[w.heap.size]? = some (.cells d.es 69 (0, 0)) := by
    rw [heap_alloc_old _ _ (by simp)]
    exact heap_alloc_new _ _
  have hR1 : ((w.alloc (Obj.cells d.es 69)).alloc (Obj.cells zero69 69)).heap[w.heap.size + 1]? = some (.cells zero69 69 (0, 0)) := by
    have h := heap_alloc_new (w.alloc (Obj.cells d.es 69)) (Obj.cells zero69 69)
    rwa [World.size_alloc] at h
  have hs1 : ((w.alloc (Obj.cells d.es 69)).alloc (Obj.cells zero69 69)).heap.size = w.heap.size + 2 := by simp
  go_upto_region 1 with fail
  change Code.wp _ _ _ _ ((w.alloc (Obj.cells d.es 69)).alloc (Obj.cells zero69 69))
  generalize (w.alloc (Obj.cells d.es 69)).alloc (Obj.cells zero69 69) = w1 at hB1 hE1 hR1 hs1 ⊢
  have k0 := (bcell hE1 0).trans (es0 d H0.out)
  have HS1 := Lib.hid hs1
  have HE1 := Lib.hid hE1
  have HR1 := Lib.hid hR1
  have HB1 := Lib.hid hB1
  clear hs1 hE1 hR1 hB1
  go_upto_region 2 with (refine wpList_store_row (o := ⟨none, .store 69 (.tmp 3) (.tmp 6), _, _, _, _⟩) rfl 69 (.tmp 3) (.tmp 6) rfl w1.heap.size (zED 41).es (by kernel_rfl) (by kernel_rfl) 69 zero69 (heap_alloc_new w1 _) (by kernel_rfl) rfl (ED.one _) ?_; change wpList _ _ _ _ _ ((w1.alloc (Obj.cells zero69 69)).setRow w1.heap.size _); rw [setRow_alloc])
  have hb2 := (Below.refl w1.heap.size w1).alloc (Nat.le_refl _) (Obj.cells (zED 41).es 69)
  have hX2 := heap_alloc_new w1 (Obj.cells (zED 41).es 69)
  generalize w1.alloc (Obj.cells (zED 41).es 69) = w2 at hb2 hX2 ⊢
  have hE2 := bblk hb2 HE1.out
  have hR2 := bblk hb2 HR1.out
  have hB2 := HB1.out.trans (hb2.mono HB1.out.size)
  have gX : w1.heap.size = w.heap.size + 2 := HS1.out
  generalize w1.heap.size = X at hX2 gX ⊢
  have k0 := (bcell hE2 0).trans (es0 d H0.out)
  have GX := Lib.hid gX
  have HB2 := Lib.hid hB2
  have HE2 := Lib.hid hE2
  have HR2 := Lib.hid hR2
  have HX2 := Lib.hid hX2
  clear hb2 hX2 hE2 hR2 hB2 gX HB1 HE1 HR1 HS1
  have k11 := (bcell HE2.out 11).trans (ED.g11 d)
  by_cases h11 : (d.n11 : Int) > 0
  · skip
    go_upto_region 25 with fail
    have hS0 : w2.drew.heap[w.heap.size]? = some (.cells d.es 69 (0, 0)) := HE2.out
    have hX0 : w2.drew.heap[X]? = some (.cells (zED 41).es 69 (0, 0)) := HX2.out
    have hR0 : w2.drew.heap[w.heap.size + 1]? = some (.cells zero69 69 (0, 0)) := HR2.out
    have hB0 : Below w.heap.size w w2.drew := HB2.out.drew
    refine wp_region_held (S := fun w0 => w0.heap[w.heap.size]? = some (.cells d.es 69 (0, 0))) (by kernel_rfl) ?_
    change wpAnyH _ _ _ _ _ 8 _ _ w2.drew
    generalize w2.drew = wd at hS0 hX0 hR0 hB0 ⊢
    clear HE2 HX2 HR2 HB2
    have HX2 := Lib.hid hX0
    have HR2 := Lib.hid hR0
    have HB2 := Lib.hid hB0
    clear hX0 hR0 hB0 k0
    refine wpAnyH_takeG (i := 0) (d := 54) (g := none) (op := (Op.fieldAddr 69 (Operand.tmp 1) 11)) (v := .pointer (some ⟨w.heap.size, 11, none⟩)) (by kernel_rfl) (by kernel_rfl) (by kernel_rfl) (by kernel_rfl) (fun _ _ _ h => h) rfl (fun _ _ _ _ _ => by kernel_rfl) hS0 ?_
    refine wpAnyH_ldG (i := 1) (d := 55) (g := none) (t := 66) (x := (Operand.tmp 54)) (p := ⟨w.heap.size, 11, none⟩) (u := .slice d.p11 d.n11 d.c11) (by kernel_rfl) (by kernel_rfl) (by kernel_rfl) (by kernel_rfl) (fun _ _ _ h => h) rfl (by kernel_rfl) (fun w1 h1 => ld66 w1 _ _ ((bcell h1 11).trans (ED.g11 d))) hS0 ?_
    refine wpAnyH_takeG (i := 2) (d := 56) (g := none) (op := (Op.fieldAddr 69 (Operand.tmp 1) 2)) (v := .pointer (some ⟨w.heap.size, 2, none⟩)) (by kernel_rfl) (by kernel_rfl) (by kernel_rfl) (by kernel_rfl) (fun _ _ _ h => h) rfl (fun _ _ _ _ _ => by kernel_rfl) hS0 ?_
    refine wpAnyH_ldG (i := 3) (d := 57) (g := none) (t := 26) (x := (Operand.tmp 56)) (p := ⟨w.heap.size, 2, none⟩) (u := .slice d.p2 d.n2 d.c2) (by kernel_rfl) (by kernel_rfl) (by kernel_rfl) (by kernel_rfl) (fun _ _ _ h => h) rfl (by kernel_rfl) (fun w1 h1 => ld26 w1 _ _ ((bcell h1 2).trans (ED.g2 d))) hS0 ?_
    refine wpAnyH_takeG (i := 4) (d := 58) (g := none) (op := (Op.fieldAddr 69 (Operand.tmp 3) 11)) (v := .pointer (some ⟨X, 11, none⟩)) (by kernel_rfl) (by kernel_rfl) (by kernel_rfl) (by kernel_rfl) (fun _ _ _ h => h) rfl (fun _ _ _ _ _ => by kernel_rfl) hS0 ?_
    have x11 : wd.cell? ⟨X, 11, none⟩ = some (.slice none 0 0) := (bcell HX2.out 11).trans rfl
    have f11 := bfrozen HX2.out 11
    refine wpAnyH_list (i := 5) (o := ⟨none, .store 66 (.tmp 58) (.tmp 55), _, _, _, _⟩) (by kernel_rfl) rfl rfl ?_
    simp only [Act.put, List.setIfInBounds_toArray, List.set_cons_zero, List.set_cons_succ]
    go_wp2_with fail
    have hS1 : (wd.setCell ⟨X, 11, none⟩ (.slice d.p11 d.n11 d.c11)).heap[w.heap.size]? = some (.cells d.es 69 (0, 0)) := (Below.heap_setCell _ ⟨X, 11, none⟩ _ w.heap.size (by have := GX.out; show w.heap.size ≠ X; omega)).trans hS0
    refine ⟨hS1, ?_⟩
    clear x11 f11 hS0
    refine wpAnyH_takeG (i := 6) (d := 59) (g := none) (op := (Op.fieldAddr 69 (Operand.tmp 3) 2)) (v := .pointer (some ⟨X, 2, none⟩)) (by kernel_rfl) (by kernel_rfl) (by kernel_rfl) (by kernel_rfl) (fun _ _ _ h => h) rfl (fun _ _ _ _ _ => by kernel_rfl) hS1 ?_
    have x2 : (wd.setCell ⟨X, 11, none⟩ (.slice d.p11 d.n11 d.c11)).cell? ⟨X, 2, none⟩ = some (.slice none 0 0) := (bcell (bset HX2.out 11 (.slice d.p11 d.n11 d.c11)) 2).trans rfl
    have f2 := bfrozen (bset HX2.out 11 (.slice d.p11 d.n11 d.c11)) 2
    refine wpAnyH_list (i := 7) (o := ⟨none, .store 26 (.tmp 59) (.tmp 57), _, _, _, _⟩) (by kernel_rfl) rfl rfl ?_
    simp only [Act.put, List.setIfInBounds_toArray, List.set_cons_zero, List.set_cons_succ]
    go_wp2_with fail
    have hS2 : ((wd.setCell ⟨X, 11, none⟩ (.slice d.p11 d.n11 d.c11)).setCell ⟨X, 2, none⟩ (.slice d.p2 d.n2 d.c2)).heap[w.heap.size]? = some (.cells d.es 69 (0, 0)) := (Below.heap_setCell _ ⟨X, 2, none⟩ _ w.heap.size (by have := GX.out; show w.heap.size ≠ X; omega)).trans hS1
    refine ⟨hS2, wpAnyH_done (by kernel_rfl) ?_ 0⟩
    clear x2 f2 hS1
    go_upto_region 40 with fail
    obtain ⟨D, hx0, hext, hfit, hX3⟩ : ∃ D : ED, D.x0 = d.x0 ∧ (∀ w0, Ext w0 d → Ext w0 D) ∧ (Fit d → Fit D) ∧ ((wd.setCell ⟨X, 11, none⟩ (.slice d.p11 d.n11 d.c11)).setCell ⟨X, 2, none⟩ (.slice d.p2 d.n2 d.c2)).heap[X]? = some (.cells D.es 69 (0, 0)) := ⟨{ zED 41 with p11 := d.p11, n11 := d.n11, c11 := d.c11, a11 := d.a11, z11 := d.z11, p2 := d.p2, n2 := d.n2, c2 := d.c2, t2 := d.t2 }, H0.out.symm, fun w0 h => have z := Ext.zero w0 d.x0; { z with o11 := h.o11, r11 := h.r11, z11 := h.z11, o2 := h.o2, r2 := h.r2, z2 := h.z2 }, fun f => { Fit.zero d.x0 with n11 := f.n11, n2 := f.n2 }, (bset (bset HX2.out 11 _) 2 _)⟩
    have hR3 : ((wd.setCell ⟨X, 11, none⟩ (.slice d.p11 d.n11 d.c11)).setCell ⟨X, 2, none⟩ (.slice d.p2 d.n2 d.c2)).heap[w.heap.size + 1]? = some (.cells zero69 69 (0, 0)) := ((Below.heap_setCell _ ⟨X, 2, none⟩ _ (w.heap.size + 1) (by have := GX.out; show w.heap.size + 1 ≠ X; omega)).trans ((Below.heap_setCell _ ⟨X, 11, none⟩ _ (w.heap.size + 1) (by have := GX.out; show w.heap.size + 1 ≠ X; omega)).trans HR2.out))
    have hB3 : Below w.heap.size w ((wd.setCell ⟨X, 11, none⟩ (.slice d.p11 d.n11 d.c11)).setCell ⟨X, 2, none⟩ (.slice d.p2 d.n2 d.c2)) := ((HB2.out.setCell (p := ⟨X, 11, none⟩) (by have := GX.out; show w.heap.size ≤ X; omega) _).setCell (p := ⟨X, 2, none⟩) (by have := GX.out; show w.heap.size ≤ X; omega) _)
    generalize ((wd.setCell ⟨X, 11, none⟩ (.slice d.p11 d.n11 d.c11)).setCell ⟨X, 2, none⟩ (.slice d.p2 d.n2 d.c2)) = w3 at hX3 hR3 hB3 ⊢
    have HX3 := Lib.hid hX3
    have HR3 := Lib.hid hR3
    have HB3 := Lib.hid hB3
    have HEX := Lib.hid hext
    have HX0 := Lib.hid hx0
    have HFT := Lib.hid hfit
    clear hX3 hR3 hB3 hext hx0 hfit
    go_wp2_with (first | (refine wpList_load_row rfl 69 (.tmp 3) rfl X (by kernel_rfl) 69 D.es (0, 0) _ HX3.out Tryz.underlying69 rfl (hi69 _) ?_) | (refine wpList_store_row (o := ⟨none, .store 69 (.tmp 2) (.tmp 104), _, _, _, _⟩) rfl 69 (.tmp 2) (.tmp 104) rfl (w.heap.size + 1) D.es (by kernel_rfl) (by kernel_rfl) 69 zero69 HR3.out (hi69 _) rfl (ED.one _) ?_))
    refine bodyPost_ret (results_cell_row rfl _ _ (w.heap.size + 1) 69 D.es (0, 0) _ (by kernel_rfl) (setRow_heap w3 (w.heap.size + 1) zero69 _ 69 _ HR3.out) Tryz.underlying69 rfl (hi69 _)) rfl ?_
    have hB4 := below_setRow HB3.out (Nat.le_succ _) D.es
    exact ⟨D, rfl, HX0.out, HEX.out, HFT.out, hB4⟩
  · have k6 := (bcell HE2.out 6).trans (ED.g6 d)
    have x6 : w2.cell? ⟨X, 6, none⟩ = _ := (bcell HX2.out 6).trans (ED.g6 _)
    have f6 := bfrozen HX2.out 6
    go_upto_region 40 with fail
    obtain ⟨D, hx0, hext, hfit, hX3⟩ : ∃ D : ED, D.x0 = d.x0 ∧ (∀ w0, Ext w0 d → Ext w0 D) ∧ (Fit d → Fit D) ∧ (w2.setCell ⟨X, 6, none⟩ (.int .u32 (bits .and .u32 d.x6 65535))).heap[X]? = some (.cells D.es 69 (0, 0)) := ⟨{ zED 41 with x6 := bits .and .u32 d.x6 65535 }, H0.out.symm, fun w0 h => have z := Ext.zero w0 d.x0; { z with }, fun f => { Fit.zero d.x0 with }, (bset HX2.out 6 _)⟩
    have hR3 : (w2.setCell ⟨X, 6, none⟩ (.int .u32 (bits .and .u32 d.x6 65535))).heap[w.heap.size + 1]? = some (.cells zero69 69 (0, 0)) := ((Below.heap_setCell _ ⟨X, 6, none⟩ _ (w.heap.size + 1) (by have := GX.out; show w.heap.size + 1 ≠ X; omega)).trans HR2.out)
    have hB3 : Below w.heap.size w (w2.setCell ⟨X, 6, none⟩ (.int .u32 (bits .and .u32 d.x6 65535))) := (HB2.out.setCell (p := ⟨X, 6, none⟩) (by have := GX.out; show w.heap.size ≤ X; omega) _)
    generalize (w2.setCell ⟨X, 6, none⟩ (.int .u32 (bits .and .u32 d.x6 65535))) = w3 at hX3 hR3 hB3 ⊢
    have HX3 := Lib.hid hX3
    have HR3 := Lib.hid hR3
    have HB3 := Lib.hid hB3
    have HEX := Lib.hid hext
    have HX0 := Lib.hid hx0
    have HFT := Lib.hid hfit
    clear hX3 hR3 hB3 hext hx0 hfit
    go_wp2_with (first | (refine wpList_load_row rfl 69 (.tmp 3) rfl X (by kernel_rfl) 69 D.es (0, 0) _ HX3.out Tryz.underlying69 rfl (hi69 _) ?_) | (refine wpList_store_row (o := ⟨none, .store 69 (.tmp 2) (.tmp 104), _, _, _, _⟩) rfl 69 (.tmp 2) (.tmp 104) rfl (w.heap.size + 1) D.es (by kernel_rfl) (by kernel_rfl) 69 zero69 HR3.out (hi69 _) rfl (ED.one _) ?_))
    refine bodyPost_ret (results_cell_row rfl _ _ (w.heap.size + 1) 69 D.es (0, 0) _ (by kernel_rfl) (setRow_heap w3 (w.heap.size + 1) zero69 _ 69 _ HR3.out) Tryz.underlying69 rfl (hi69 _)) rfl ?_
    have hB4 := below_setRow HB3.out (Nat.le_succ _) D.es
    exact ⟨D, rfl, HX0.out, HEX.out, HFT.out, hB4⟩
set_option maxHeartbeats 4000000 in
set_option maxRecDepth 100000 in
theorem shaped_42 (d : ED) (w : World) (hx : Ext w d) (h0 : d.x0 = 42) : Calls Tryz.prog 27 #[.agg d.es] w (Shaped d w) := by
  have H0 := Lib.hid h0
  have HX := Lib.hid hx
  clear hx h0
  go_enter Tryz.func27, Tryz.ntmps27
  have hB1 : Below w.heap.size w ((w.alloc (Obj.cells d.es 69)).alloc (Obj.cells zero69 69)) := ((Below.refl _ _).alloc (Nat.le_refl _) _).alloc (by simp) _
  have hE1 : ((w.alloc (Obj.cells d.es 69)).alloc (Obj.cells zero69 69)).heap[w.heap.size]? = some (.cells d.es 69 (0, 0)) := by
    rw [heap_alloc_old _ _ (by simp)]
    exact heap_alloc_new _ _
  have hR1 : ((w.alloc (Obj.cells d.es 69)).alloc (Obj.cells zero69 69)).heap[w.heap.size + 1]? = some (.cells zero69 69 (0, 0)) := by
    have h := heap_alloc_new (w.alloc (Obj.cells d.es 69)) (Obj.cells zero69 69)
    rwa [World.size_alloc] at h
  have hs1 : ((w.alloc (Obj.cells d.es 69)).alloc (Obj.cells zero69 69)).heap.size = w.heap.size + 2 := by simp
  go_upto_region 1 with fail
  change Code.wp _ _ _ _ ((w.alloc (Obj.cells d.es 69)).alloc (Obj.cells zero69 69))
  generalize (w.alloc (Obj.cells d.es 69)).alloc (Obj.cells zero69 69) = w1 at hB1 hE1 hR1 hs1 ⊢
  have k0 := (bcell hE1 0).trans (es0 d H0.out)
  have HS1 := Lib.hid hs1
  have HE1 := Lib.hid hE1
  have HR1 := Lib.hid hR1
  have HB1 := Lib.hid hB1
  clear hs1 hE1 hR1 hB1
  go_upto_region 2 with (refine wpList_store_row (o := ⟨none, .store 69 (.tmp 3) (.tmp 6), _, _, _, _⟩) rfl 69 (.tmp 3) (.tmp 6) rfl w1.heap.size (zED 42).es (by kernel_rfl) (by kernel_rfl) 69 zero69 (heap_alloc_new w1 _) (by kernel_rfl) rfl (ED.one _) ?_; change wpList _ _ _ _ _ ((w1.alloc (Obj.cells zero69 69)).setRow w1.heap.size _); rw [setRow_alloc])
  have hb2 := (Below.refl w1.heap.size w1).alloc (Nat.le_refl _) (Obj.cells (zED 42).es 69)
  have hX2 := heap_alloc_new w1 (Obj.cells (zED 42).es 69)
  generalize w1.alloc (Obj.cells (zED 42).es 69) = w2 at hb2 hX2 ⊢
  have hE2 := bblk hb2 HE1.out
  have hR2 := bblk hb2 HR1.out
  have hB2 := HB1.out.trans (hb2.mono HB1.out.size)
  have gX : w1.heap.size = w.heap.size + 2 := HS1.out
  generalize w1.heap.size = X at hX2 gX ⊢
  have k0 := (bcell hE2 0).trans (es0 d H0.out)
  have GX := Lib.hid gX
  have HB2 := Lib.hid hB2
  have HE2 := Lib.hid hE2
  have HR2 := Lib.hid hR2
  have HX2 := Lib.hid hX2
  clear hb2 hX2 hE2 hR2 hB2 gX HB1 HE1 HR1 HS1
  have k7 := (bcell HE2.out 7).trans (ED.g7 d)
  cases hb : d.b7
  rotate_left
  · rw [hb] at k7
    have HBB := Lib.hid hb
    clear hb
    go_upto_region 29 with fail
    have hS0 : w2.drew.heap[w.heap.size]? = some (.cells d.es 69 (0, 0)) := HE2.out
    have hX0 : w2.drew.heap[X]? = some (.cells (zED 42).es 69 (0, 0)) := HX2.out
    have hR0 : w2.drew.heap[w.heap.size + 1]? = some (.cells zero69 69 (0, 0)) := HR2.out
    have hB0 : Below w.heap.size w w2.drew := HB2.out.drew
    refine wp_region_held (S := fun w0 => w0.heap[w.heap.size]? = some (.cells d.es 69 (0, 0))) (by kernel_rfl) ?_
    change wpAnyH _ _ _ _ _ 6 _ _ w2.drew
    generalize w2.drew = wd at hS0 hX0 hR0 hB0 ⊢
    clear HE2 HX2 HR2 HB2
    have HX2 := Lib.hid hX0
    have HR2 := Lib.hid hR0
    have HB2 := Lib.hid hB0
    clear hX0 hR0 hB0 k0
    refine wpAnyH_takeG (i := 0) (d := 68) (g := none) (op := (Op.fieldAddr 69 (Operand.tmp 1) 6)) (v := .pointer (some ⟨w.heap.size, 6, none⟩)) (by kernel_rfl) (by kernel_rfl) (by kernel_rfl) (by kernel_rfl) (fun _ _ _ h => h) rfl (fun _ _ _ _ _ => by kernel_rfl) hS0 ?_
    refine wpAnyH_ldG (i := 1) (d := 69) (g := none) (t := 22) (x := (Operand.tmp 68)) (p := ⟨w.heap.size, 6, none⟩) (u := .int .u32 d.x6) (by kernel_rfl) (by kernel_rfl) (by kernel_rfl) (by kernel_rfl) (fun _ _ _ h => h) rfl (by kernel_rfl) (fun w1 h1 => ld22 w1 _ _ ((bcell h1 6).trans (ED.g6 d))) hS0 ?_
    refine wpAnyH_takeG (i := 2) (d := 70) (g := none) (op := (Op.fieldAddr 69 (Operand.tmp 3) 7)) (v := .pointer (some ⟨X, 7, none⟩)) (by kernel_rfl) (by kernel_rfl) (by kernel_rfl) (by kernel_rfl) (fun _ _ _ h => h) rfl (fun _ _ _ _ _ => by kernel_rfl) hS0 ?_
    have x7 : wd.cell? ⟨X, 7, none⟩ = some (.bool false) := (bcell HX2.out 7).trans rfl
    have f7 := bfrozen HX2.out 7
    refine wpAnyH_list (i := 3) (o := ⟨none, .store 4 (.tmp 70) (.const (.bool true)), _, _, _, _⟩) (by kernel_rfl) rfl rfl ?_
    simp only [Act.put, List.setIfInBounds_toArray, List.set_cons_zero, List.set_cons_succ]
    go_wp2_with fail
    have hS1 : (wd.setCell ⟨X, 7, none⟩ (.bool true)).heap[w.heap.size]? = some (.cells d.es 69 (0, 0)) := (Below.heap_setCell _ ⟨X, 7, none⟩ _ w.heap.size (by have := GX.out; show w.heap.size ≠ X; omega)).trans hS0
    refine ⟨hS1, ?_⟩
    clear x7 f7 hS0
    refine wpAnyH_takeG (i := 4) (d := 71) (g := none) (op := (Op.fieldAddr 69 (Operand.tmp 3) 6)) (v := .pointer (some ⟨X, 6, none⟩)) (by kernel_rfl) (by kernel_rfl) (by kernel_rfl) (by kernel_rfl) (fun _ _ _ h => h) rfl (fun _ _ _ _ _ => by kernel_rfl) hS1 ?_
    have x6 : (wd.setCell ⟨X, 7, none⟩ (.bool true)).cell? ⟨X, 6, none⟩ = some (.int .u32 0) := (bcell (bset HX2.out 7 (.bool true)) 6).trans rfl
    have f6 := bfrozen (bset HX2.out 7 (.bool true)) 6
    refine wpAnyH_list (i := 5) (o := ⟨none, .store 22 (.tmp 71) (.tmp 69), _, _, _, _⟩) (by kernel_rfl) rfl rfl ?_
    simp only [Act.put, List.setIfInBounds_toArray, List.set_cons_zero, List.set_cons_succ]
    go_wp2_with fail
    have hS2 : ((wd.setCell ⟨X, 7, none⟩ (.bool true)).setCell ⟨X, 6, none⟩ (.int .u32 d.x6)).heap[w.heap.size]? = some (.cells d.es 69 (0, 0)) := (Below.heap_setCell _ ⟨X, 6, none⟩ _ w.heap.size (by have := GX.out; show w.heap.size ≠ X; omega)).trans hS1
    refine ⟨hS2, wpAnyH_done (by kernel_rfl) ?_ 0⟩
    clear x6 f6 hS1
    go_upto_region 40 with fail
    obtain ⟨D, hx0, hext, hfit, hX3⟩ : ∃ D : ED, D.x0 = d.x0 ∧ (∀ w0, Ext w0 d → Ext w0 D) ∧ (Fit d → Fit D) ∧ ((wd.setCell ⟨X, 7, none⟩ (.bool true)).setCell ⟨X, 6, none⟩ (.int .u32 d.x6)).heap[X]? = some (.cells D.es 69 (0, 0)) := ⟨{ zED 42 with b7 := true, x6 := d.x6 }, H0.out.symm, fun w0 h => have z := Ext.zero w0 d.x0; { z with }, fun f => { Fit.zero d.x0 with }, (bset (bset HX2.out 7 _) 6 _)⟩
    have hR3 : ((wd.setCell ⟨X, 7, none⟩ (.bool true)).setCell ⟨X, 6, none⟩ (.int .u32 d.x6)).heap[w.heap.size + 1]? = some (.cells zero69 69 (0, 0)) := ((Below.heap_setCell _ ⟨X, 6, none⟩ _ (w.heap.size + 1) (by have := GX.out; show w.heap.size + 1 ≠ X; omega)).trans ((Below.heap_setCell _ ⟨X, 7, none⟩ _ (w.heap.size + 1) (by have := GX.out; show w.heap.size + 1 ≠ X; omega)).trans HR2.out))
    have hB3 : Below w.heap.size w ((wd.setCell ⟨X, 7, none⟩ (.bool true)).setCell ⟨X, 6, none⟩ (.int .u32 d.x6)) := ((HB2.out.setCell (p := ⟨X, 7, none⟩) (by have := GX.out; show w.heap.size ≤ X; omega) _).setCell (p := ⟨X, 6, none⟩) (by have := GX.out; show w.heap.size ≤ X; omega) _)
    generalize ((wd.setCell ⟨X, 7, none⟩ (.bool true)).setCell ⟨X, 6, none⟩ (.int .u32 d.x6)) = w3 at hX3 hR3 hB3 ⊢
    have HX3 := Lib.hid hX3
    have HR3 := Lib.hid hR3
    have HB3 := Lib.hid hB3
    have HEX := Lib.hid hext
    have HX0 := Lib.hid hx0
    have HFT := Lib.hid hfit
    clear hX3 hR3 hB3 hext hx0 hfit
    go_wp2_with (first | (refine wpList_load_row rfl 69 (.tmp 3) rfl X (by kernel_rfl) 69 D.es (0, 0) _ HX3.out Tryz.underlying69 rfl (hi69 _) ?_) | (refine wpList_store_row (o := ⟨none, .store 69 (.tmp 2) (.tmp 104), _, _, _, _⟩) rfl 69 (.tmp 2) (.tmp 104) rfl (w.heap.size + 1) D.es (by kernel_rfl) (by kernel_rfl) 69 zero69 HR3.out (hi69 _) rfl (ED.one _) ?_))
    refine bodyPost_ret (results_cell_row rfl _ _ (w.heap.size + 1) 69 D.es (0, 0) _ (by kernel_rfl) (setRow_heap w3 (w.heap.size + 1) zero69 _ 69 _ HR3.out) Tryz.underlying69 rfl (hi69 _)) rfl ?_
    have hB4 := below_setRow HB3.out (Nat.le_succ _) D.es
    exact ⟨D, rfl, HX0.out, HEX.out, HFT.out, hB4⟩
  · rw [hb] at k7
    have HBB := Lib.hid hb
    clear hb
    go_upto_region 40 with fail
    obtain ⟨D, hx0, hext, hfit, hX3⟩ : ∃ D : ED, D.x0 = d.x0 ∧ (∀ w0, Ext w0 d → Ext w0 D) ∧ (Fit d → Fit D) ∧ w2.heap[X]? = some (.cells D.es 69 (0, 0)) := ⟨zED 42, H0.out.symm, fun w0 h => have z := Ext.zero w0 d.x0; { z with }, fun f => { Fit.zero d.x0 with }, HX2.out⟩
    have hR3 : w2.heap[w.heap.size + 1]? = some (.cells zero69 69 (0, 0)) := HR2.out
    have hB3 : Below w.heap.size w w2 := HB2.out
    generalize w2 = w3 at hX3 hR3 hB3 ⊢
    have HX3 := Lib.hid hX3
    have HR3 := Lib.hid hR3
    have HB3 := Lib.hid hB3
    have HEX := Lib.hid hext
    have HX0 := Lib.hid hx0
    have HFT := Lib.hid hfit
    clear hX3 hR3 hB3 hext hx0 hfit
    go_wp2_with (first | (refine wpList_load_row rfl 69 (.tmp 3) rfl X (by kernel_rfl) 69 D.es (0, 0) _ HX3.out Tryz.underlying69 rfl (hi69 _) ?_) | (refine wpList_store_row (o := ⟨none, .store 69 (.tmp 2) (.tmp 104), _, _, _, _⟩) rfl 69 (.tmp 2) (.tmp 104) rfl (w.heap.size + 1) D.es (by kernel_rfl) (by kernel_rfl) 69 zero69 HR3.out (hi69 _) rfl (ED.one _) ?_))
    refine bodyPost_ret (results_cell_row rfl _ _ (w.heap.size + 1) 69 D.es (0, 0) _ (by kernel_rfl) (setRow_heap w3 (w.heap.size + 1) zero69 _ 69 _ HR3.out) Tryz.underlying69 rfl (hi69 _)) rfl ?_
    have hB4 := below_setRow HB3.out (Nat.le_succ _) D.es
    exact ⟨D, rfl, HX0.out, HEX.out, HFT.out, hB4⟩
set_option maxHeartbeats 4000000 in
set_option maxRecDepth 100000 in
theorem shaped_51 (d : ED) (w : World) (hx : Ext w d) (h0 : d.x0 = 51) : Calls Tryz.prog 27 #[.agg d.es] w (Shaped d w) := by
  have H0 := Lib.hid h0
  have HX := Lib.hid hx
  clear hx h0
  go_enter Tryz.func27, Tryz.ntmps27
  have hB1 : Below w.heap.size w ((w.alloc (Obj.cells d.es 69)).alloc (Obj.cells zero69 69)) := ((Below.refl _ _).alloc (Nat.le_refl _) _).alloc (by simp) _
  have hE1 : ((w.alloc (Obj.cells d.es 69)).alloc (Obj.cells zero69 69)).heap[w.heap.size]? = some (.cells d.es 69 (0, 0)) := by
    rw [heap_alloc_old _ _ (by simp)]
    exact heap_alloc_new _ _
  have hR1 : ((w.alloc (Obj.cells d.es 69)).alloc (Obj.cells zero69 69)).heap[w.heap.size + 1]? = some (.cells zero69 69 (0, 0)) := by
    have h := heap_alloc_new (w.alloc (Obj.cells d.es 69)) (Obj.cells zero69 69)
    rwa [World.size_alloc] at h
  have hs1 : ((w.alloc (Obj.cells d.es 69)).alloc (Obj.cells zero69 69)).heap.size = w.heap.size + 2 := by simp
  go_upto_region 1 with fail
  change Code.wp _ _ _ _ ((w.alloc (Obj.cells d.es 69)).alloc (Obj.cells zero69 69))
  generalize (w.alloc (Obj.cells d.es 69)).alloc (Obj.cells zero69 69) = w1 at hB1 hE1 hR1 hs1 ⊢
  have k0 := (bcell hE1 0).trans (es0 d H0.out)
  have HS1 := Lib.hid hs1
  have HE1 := Lib.hid hE1
  have HR1 := Lib.hid hR1
  have HB1 := Lib.hid hB1
  clear hs1 hE1 hR1 hB1
  go_upto_region 2 with (refine wpList_store_row (o := ⟨none, .store 69 (.tmp 3) (.tmp 6), _, _, _, _⟩) rfl 69 (.tmp 3) (.tmp 6) rfl w1.heap.size (zED 51).es (by kernel_rfl) (by kernel_rfl) 69 zero69 (heap_alloc_new w1 _) (by kernel_rfl) rfl (ED.one _) ?_; change wpList _ _ _ _ _ ((w1.alloc (Obj.cells zero69 69)).setRow w1.heap.size _); rw [setRow_alloc])
  have hb2 := (Below.refl w1.heap.size w1).alloc (Nat.le_refl _) (Obj.cells (zED 51).es 69)
  have hX2 := heap_alloc_new w1 (Obj.cells (zED 51).es 69)
  generalize w1.alloc (Obj.cells (zED 51).es 69) = w2 at hb2 hX2 ⊢
  have hE2 := bblk hb2 HE1.out
  have hR2 := bblk hb2 HR1.out
  have hB2 := HB1.out.trans (hb2.mono HB1.out.size)
  have gX : w1.heap.size = w.heap.size + 2 := HS1.out
  generalize w1.heap.size = X at hX2 gX ⊢
  have k0 := (bcell hE2 0).trans (es0 d H0.out)
  have GX := Lib.hid gX
  have HB2 := Lib.hid hB2
  have HE2 := Lib.hid hE2
  have HR2 := Lib.hid hR2
  have HX2 := Lib.hid hX2
  clear hb2 hX2 hE2 hR2 hB2 gX HB1 HE1 HR1 HS1
  have q10 := (bcell HE2.out 10).trans (ED.g10 d)
  have q9 := (bcell HE2.out 9).trans (ED.g9 d)
  by_cases h1 : (d.n10 : Int) = 1
  · have k10 := (bcell HE2.out 10).trans (ED.g10 d)
    have x10 : w2.cell? ⟨X, 10, none⟩ = _ := (bcell HX2.out 10).trans (ED.g10 _)
    have f10 := bfrozen HX2.out 10
    go_upto_region 40 with fail
    obtain ⟨D, hx0, hext, hfit, hX3⟩ : ∃ D : ED, D.x0 = d.x0 ∧ (∀ w0, Ext w0 d → Ext w0 D) ∧ (Fit d → Fit D) ∧ (w2.setCell ⟨X, 10, none⟩ (.slice d.p10 d.n10 d.c10)).heap[X]? = some (.cells D.es 69 (0, 0)) := ⟨{ zED 51 with p10 := d.p10, n10 := d.n10, c10 := d.c10, u10 := d.u10 }, H0.out.symm, fun w0 h => have z := Ext.zero w0 d.x0; { z with o10 := h.o10, r10 := h.r10 }, fun f => { Fit.zero d.x0 with n10 := f.n10 }, (bset HX2.out 10 _)⟩
    have hR3 : (w2.setCell ⟨X, 10, none⟩ (.slice d.p10 d.n10 d.c10)).heap[w.heap.size + 1]? = some (.cells zero69 69 (0, 0)) := ((Below.heap_setCell _ ⟨X, 10, none⟩ _ (w.heap.size + 1) (by have := GX.out; show w.heap.size + 1 ≠ X; omega)).trans HR2.out)
    have hB3 : Below w.heap.size w (w2.setCell ⟨X, 10, none⟩ (.slice d.p10 d.n10 d.c10)) := (HB2.out.setCell (p := ⟨X, 10, none⟩) (by have := GX.out; show w.heap.size ≤ X; omega) _)
    generalize (w2.setCell ⟨X, 10, none⟩ (.slice d.p10 d.n10 d.c10)) = w3 at hX3 hR3 hB3 ⊢
    have HX3 := Lib.hid hX3
    have HR3 := Lib.hid hR3
    have HB3 := Lib.hid hB3
    have HEX := Lib.hid hext
    have HX0 := Lib.hid hx0
    have HFT := Lib.hid hfit
    clear hX3 hR3 hB3 hext hx0 hfit
    go_wp2_with (first | (refine wpList_load_row rfl 69 (.tmp 3) rfl X (by kernel_rfl) 69 D.es (0, 0) _ HX3.out Tryz.underlying69 rfl (hi69 _) ?_) | (refine wpList_store_row (o := ⟨none, .store 69 (.tmp 2) (.tmp 104), _, _, _, _⟩) rfl 69 (.tmp 2) (.tmp 104) rfl (w.heap.size + 1) D.es (by kernel_rfl) (by kernel_rfl) 69 zero69 HR3.out (hi69 _) rfl (ED.one _) ?_))
    refine bodyPost_ret (results_cell_row rfl _ _ (w.heap.size + 1) 69 D.es (0, 0) _ (by kernel_rfl) (setRow_heap w3 (w.heap.size + 1) zero69 _ 69 _ HR3.out) Tryz.underlying69 rfl (hi69 _)) rfl ?_
    have hB4 := below_setRow HB3.out (Nat.le_succ _) D.es
    exact ⟨D, rfl, HX0.out, HEX.out, HFT.out, hB4⟩
  · by_cases h2 : (d.n9 : Int) = 1
    · have k9 := (bcell HE2.out 9).trans (ED.g9 d)
      have x9 : w2.cell? ⟨X, 9, none⟩ = _ := (bcell HX2.out 9).trans (ED.g9 _)
      have f9 := bfrozen HX2.out 9
      go_upto_region 40 with fail
      obtain ⟨D, hx0, hext, hfit, hX3⟩ : ∃ D : ED, D.x0 = d.x0 ∧ (∀ w0, Ext w0 d → Ext w0 D) ∧ (Fit d → Fit D) ∧ (w2.setCell ⟨X, 9, none⟩ (.slice d.p9 d.n9 d.c9)).heap[X]? = some (.cells D.es 69 (0, 0)) := ⟨{ zED 51 with p9 := d.p9, n9 := d.n9, c9 := d.c9, a9 := d.a9, z9 := d.z9 }, H0.out.symm, fun w0 h => have z := Ext.zero w0 d.x0; { z with o9 := h.o9, r9 := h.r9, z9 := h.z9 }, fun f => { Fit.zero d.x0 with n9 := f.n9 }, (bset HX2.out 9 _)⟩
      have hR3 : (w2.setCell ⟨X, 9, none⟩ (.slice d.p9 d.n9 d.c9)).heap[w.heap.size + 1]? = some (.cells zero69 69 (0, 0)) := ((Below.heap_setCell _ ⟨X, 9, none⟩ _ (w.heap.size + 1) (by have := GX.out; show w.heap.size + 1 ≠ X; omega)).trans HR2.out)
      have hB3 : Below w.heap.size w (w2.setCell ⟨X, 9, none⟩ (.slice d.p9 d.n9 d.c9)) := (HB2.out.setCell (p := ⟨X, 9, none⟩) (by have := GX.out; show w.heap.size ≤ X; omega) _)
      generalize (w2.setCell ⟨X, 9, none⟩ (.slice d.p9 d.n9 d.c9)) = w3 at hX3 hR3 hB3 ⊢
      have HX3 := Lib.hid hX3
      have HR3 := Lib.hid hR3
      have HB3 := Lib.hid hB3
      have HEX := Lib.hid hext
      have HX0 := Lib.hid hx0
      have HFT := Lib.hid hfit
      clear hX3 hR3 hB3 hext hx0 hfit
      go_wp2_with (first | (refine wpList_load_row rfl 69 (.tmp 3) rfl X (by kernel_rfl) 69 D.es (0, 0) _ HX3.out Tryz.underlying69 rfl (hi69 _) ?_) | (refine wpList_store_row (o := ⟨none, .store 69 (.tmp 2) (.tmp 104), _, _, _, _⟩) rfl 69 (.tmp 2) (.tmp 104) rfl (w.heap.size + 1) D.es (by kernel_rfl) (by kernel_rfl) 69 zero69 HR3.out (hi69 _) rfl (ED.one _) ?_))
      refine bodyPost_ret (results_cell_row rfl _ _ (w.heap.size + 1) 69 D.es (0, 0) _ (by kernel_rfl) (setRow_heap w3 (w.heap.size + 1) zero69 _ 69 _ HR3.out) Tryz.underlying69 rfl (hi69 _)) rfl ?_
      have hB4 := below_setRow HB3.out (Nat.le_succ _) D.es
      exact ⟨D, rfl, HX0.out, HEX.out, HFT.out, hB4⟩
    · have k8 := (bcell HE2.out 8).trans (ED.g8 d)
      have x8 : w2.cell? ⟨X, 8, none⟩ = _ := (bcell HX2.out 8).trans (ED.g8 _)
      have f8 := bfrozen HX2.out 8
      go_upto_region 40 with fail
      obtain ⟨D, hx0, hext, hfit, hX3⟩ : ∃ D : ED, D.x0 = d.x0 ∧ (∀ w0, Ext w0 d → Ext w0 D) ∧ (Fit d → Fit D) ∧ (w2.setCell ⟨X, 8, none⟩ (.slice d.p8 d.n8 d.c8)).heap[X]? = some (.cells D.es 69 (0, 0)) := ⟨{ zED 51 with p8 := d.p8, n8 := d.n8, c8 := d.c8, a8 := d.a8, z8 := d.z8 }, H0.out.symm, fun w0 h => have z := Ext.zero w0 d.x0; { z with o8 := h.o8, r8 := h.r8, z8 := h.z8 }, fun f => { Fit.zero d.x0 with n8 := f.n8 }, (bset HX2.out 8 _)⟩
      have hR3 : (w2.setCell ⟨X, 8, none⟩ (.slice d.p8 d.n8 d.c8)).heap[w.heap.size + 1]? = some (.cells zero69 69 (0, 0)) := ((Below.heap_setCell _ ⟨X, 8, none⟩ _ (w.heap.size + 1) (by have := GX.out; show w.heap.size + 1 ≠ X; omega)).trans HR2.out)
      have hB3 : Below w.heap.size w (w2.setCell ⟨X, 8, none⟩ (.slice d.p8 d.n8 d.c8)) := (HB2.out.setCell (p := ⟨X, 8, none⟩) (by have := GX.out; show w.heap.size ≤ X; omega) _)
      generalize (w2.setCell ⟨X, 8, none⟩ (.slice d.p8 d.n8 d.c8)) = w3 at hX3 hR3 hB3 ⊢
      have HX3 := Lib.hid hX3
      have HR3 := Lib.hid hR3
      have HB3 := Lib.hid hB3
      have HEX := Lib.hid hext
      have HX0 := Lib.hid hx0
      have HFT := Lib.hid hfit
      clear hX3 hR3 hB3 hext hx0 hfit
      go_wp2_with (first | (refine wpList_load_row rfl 69 (.tmp 3) rfl X (by kernel_rfl) 69 D.es (0, 0) _ HX3.out Tryz.underlying69 rfl (hi69 _) ?_) | (refine wpList_store_row (o := ⟨none, .store 69 (.tmp 2) (.tmp 104), _, _, _, _⟩) rfl 69 (.tmp 2) (.tmp 104) rfl (w.heap.size + 1) D.es (by kernel_rfl) (by kernel_rfl) 69 zero69 HR3.out (hi69 _) rfl (ED.one _) ?_))
      refine bodyPost_ret (results_cell_row rfl _ _ (w.heap.size + 1) 69 D.es (0, 0) _ (by kernel_rfl) (setRow_heap w3 (w.heap.size + 1) zero69 _ 69 _ HR3.out) Tryz.underlying69 rfl (hi69 _)) rfl ?_
      have hB4 := below_setRow HB3.out (Nat.le_succ _) D.es
      exact ⟨D, rfl, HX0.out, HEX.out, HFT.out, hB4⟩
set_option maxHeartbeats 4000000 in
set_option maxRecDepth 100000 in
theorem shaped_else (d : ED) (w : World) (hx : Ext w d) (h0 : ¬ Known d.x0) : Calls Tryz.prog 27 #[.agg d.es] w (Shaped d w) := by
  obtain ⟨x, hx0⟩ : ∃ x, d.x0 = x := ⟨_, rfl⟩
  rw [hx0] at h0
  have H0 := Lib.hid hx0
  simp only [Known, List.mem_cons, List.not_mem_nil, or_false, not_or] at h0
  obtain ⟨n0, n1, n2, n3, n4, n5, n6, n7, n8, n9, n10, n11, n12, n13, n14, n15, n16, n17, n18⟩ := h0
  clear hx0
  have HX := Lib.hid hx
  clear hx
  go_enter Tryz.func27, Tryz.ntmps27
  have hB1 : Below w.heap.size w ((w.alloc (Obj.cells d.es 69)).alloc (Obj.cells zero69 69)) := ((Below.refl _ _).alloc (Nat.le_refl _) _).alloc (by simp) _
  have hE1 : ((w.alloc (Obj.cells d.es 69)).alloc (Obj.cells zero69 69)).heap[w.heap.size]? = some (.cells d.es 69 (0, 0)) := by
    rw [heap_alloc_old _ _ (by simp)]
    exact heap_alloc_new _ _
  have hR1 : ((w.alloc (Obj.cells d.es 69)).alloc (Obj.cells zero69 69)).heap[w.heap.size + 1]? = some (.cells zero69 69 (0, 0)) := by
    have h := heap_alloc_new (w.alloc (Obj.cells d.es 69)) (Obj.cells zero69 69)
    rwa [World.size_alloc] at h
  have hs1 : ((w.alloc (Obj.cells d.es 69)).alloc (Obj.cells zero69 69)).heap.size = w.heap.size + 2 := by simp
  go_upto_region 1 with fail
  change Code.wp _ _ _ _ ((w.alloc (Obj.cells d.es 69)).alloc (Obj.cells zero69 69))
  generalize (w.alloc (Obj.cells d.es 69)).alloc (Obj.cells zero69 69) = w1 at hB1 hE1 hR1 hs1 ⊢
  have k0 := (bcell hE1 0).trans (es0 d H0.out)
  have HS1 := Lib.hid hs1
  have HE1 := Lib.hid hE1
  have HR1 := Lib.hid hR1
  have HB1 := Lib.hid hB1
  clear hs1 hE1 hR1 hB1
  go_upto_region 2 with (refine wpList_store_row (o := ⟨none, .store 69 (.tmp 3) (.tmp 6), _, _, _, _⟩) rfl 69 (.tmp 3) (.tmp 6) rfl w1.heap.size (zED x).es (by kernel_rfl) (by kernel_rfl) 69 zero69 (heap_alloc_new w1 _) (by kernel_rfl) rfl (ED.one _) ?_; change wpList _ _ _ _ _ ((w1.alloc (Obj.cells zero69 69)).setRow w1.heap.size _); rw [setRow_alloc])
  have hb2 := (Below.refl w1.heap.size w1).alloc (Nat.le_refl _) (Obj.cells (zED x).es 69)
  have hX2 := heap_alloc_new w1 (Obj.cells (zED x).es 69)
  generalize w1.alloc (Obj.cells (zED x).es 69) = w2 at hb2 hX2 ⊢
  have hE2 := bblk hb2 HE1.out
  have hR2 := bblk hb2 HR1.out
  have hB2 := HB1.out.trans (hb2.mono HB1.out.size)
  have gX : w1.heap.size = w.heap.size + 2 := HS1.out
  generalize w1.heap.size = X at hX2 gX ⊢
  have k0 := (bcell hE2 0).trans (es0 d H0.out)
  have GX := Lib.hid gX
  have HB2 := Lib.hid hB2
  have HE2 := Lib.hid hE2
  have HR2 := Lib.hid hR2
  have HX2 := Lib.hid hX2
  clear hb2 hX2 hE2 hR2 hB2 gX HB1 HE1 HR1 HS1
  go_upto_region 40 with fail
  obtain ⟨D, hx0, hext, hfit, hX3⟩ : ∃ D : ED, D.x0 = d.x0 ∧ (∀ w0, Ext w0 d → Ext w0 D) ∧ (Fit d → Fit D) ∧ w2.heap[X]? = some (.cells D.es 69 (0, 0)) := ⟨zED x, H0.out.symm, fun w0 h => have z := Ext.zero w0 d.x0; { z with }, fun f => { Fit.zero d.x0 with }, HX2.out⟩
  have hR3 : w2.heap[w.heap.size + 1]? = some (.cells zero69 69 (0, 0)) := HR2.out
  have hB3 : Below w.heap.size w w2 := HB2.out
  generalize w2 = w3 at hX3 hR3 hB3 ⊢
  have HX3 := Lib.hid hX3
  have HR3 := Lib.hid hR3
  have HB3 := Lib.hid hB3
  have HEX := Lib.hid hext
  have HX0 := Lib.hid hx0
  have HFT := Lib.hid hfit
  clear hX3 hR3 hB3 hext hx0 hfit
  go_wp2_with (first | (refine wpList_load_row rfl 69 (.tmp 3) rfl X (by kernel_rfl) 69 D.es (0, 0) _ HX3.out Tryz.underlying69 rfl (hi69 _) ?_) | (refine wpList_store_row (o := ⟨none, .store 69 (.tmp 2) (.tmp 104), _, _, _, _⟩) rfl 69 (.tmp 2) (.tmp 104) rfl (w.heap.size + 1) D.es (by kernel_rfl) (by kernel_rfl) 69 zero69 HR3.out (hi69 _) rfl (ED.one _) ?_))
  refine bodyPost_ret (results_cell_row rfl _ _ (w.heap.size + 1) 69 D.es (0, 0) _ (by kernel_rfl) (setRow_heap w3 (w.heap.size + 1) zero69 _ 69 _ HR3.out) Tryz.underlying69 rfl (hi69 _)) rfl ?_
  have hB4 := below_setRow HB3.out (Nat.le_succ _) D.es
  exact ⟨D, rfl, HX0.out, HEX.out, HFT.out, hB4⟩
theorem shaped_any (d : ED) (w : World) (hx : Ext w d) : Calls Tryz.prog 27 #[.agg d.es] w (Shaped d w) := by
  by_cases hk : Known d.x0
  · simp only [Known, List.mem_cons, List.not_mem_nil, or_false] at hk
    rcases hk with h | h | h | h | h | h | h | h | h | h | h | h | h | h | h | h | h | h | h
    · exact shaped_0 d w hx h
    · exact shaped_10 d w hx h
    · exact shaped_11 d w hx h
    · exact shaped_13 d w hx h
    · exact shaped_50 d w hx h
    · exact shaped_14 d w hx h
    · exact shaped_16 d w hx h
    · exact shaped_47 d w hx h
    · exact shaped_23 d w hx h
    · exact shaped_49 d w hx h
    · exact shaped_42 d w hx h
    · exact shaped_65281 d w hx h
    · exact shaped_41 d w hx h
    · exact shaped_43 d w hx h
    · exact shaped_44 d w hx h
    · exact shaped_45 d w hx h
    · exact shaped_48 d w hx h
    · exact shaped_51 d w hx h
    · exact shaped_54 d w hx h
  · exact shaped_else d w hx hk
end Go.Proofs.YtgnmgkpfgmpdfaaGreatDoor
