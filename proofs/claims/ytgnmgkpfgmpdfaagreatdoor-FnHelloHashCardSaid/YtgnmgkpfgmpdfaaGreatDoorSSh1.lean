/- laws.shaped. -/
import Derived.Test.YtgnmgkpfgmpdfaaGreatDoorSLds
set_option linter.unusedVariables false
set_option linter.unusedSimpArgs false
namespace Go.Proofs.YtgnmgkpfgmpdfaaGreatDoor
open Go.RowKit

/-- An extension of the same type that stands. -/
def Shaped (d : ED) (w : World) (e : Ending) (w' : World) : Prop := ∃ d' : ED, e = .returned (.agg d'.es) ∧ d'.x0 = d.x0 ∧ (∀ w0, Ext w0 d → Ext w0 d') ∧ (Fit d → Fit d') ∧ Below w.heap.size w w'
set_option maxHeartbeats 4000000 in
set_option maxRecDepth 100000 in
theorem shaped_0 (d : ED) (w : World) (hx : Ext w d) (h0 : d.x0 = 0) : Calls Tryz.prog 27 #[.agg d.es] w (Shaped d w) := by
  have H0 := Lib.hid h0
  have HX := Lib.hid hx
  clear hx h0
  go_enter Tryz.func27, Tryz.ntmps27
  have hB1 : Below w.heap.size w ((w.alloc (Obj.cells d.es 69)).alloc (Obj.cells zero69 69)) := ((Below.refl _ _).alloc (Nat.le_refl _) _).alloc (by simp) _
  have hE1 : ((w.alloc (Obj.cells d.es 69)).alloc (Obj.cells zero69 69)).heap[w.heap.size]? = some (.cells d.es 69 (0, 0)) := by
    rw [heap_alloc_old _ _ (by simp)]
    exact heap_alloc_new _ _
  have hR1 : ((w.alloc (Obj.cells d.es 69)).alloc (Obj.cells zero69 69)).heap[w.heap.size + 1]? = some (.cells zero69 69 (0, 0)) := by
    have h := heap_alloc_new (w.alloc (Obj.cells d.es 69)) (Obj.cells zero69 69)
    rwa [World.size_alloc] at h
  have hs1 : ((w.alloc (Obj.cells d.es 69)).alloc (Obj.cells zero69 69)).heap.size = w.heap.size + 2 := by simp
  go_upto_region 1 with fail
  change Code.wp _ _ _ _ ((w.alloc (Obj.cells d.es 69)).alloc (Obj.cells zero69 69))
  generalize (w.alloc (Obj.cells d.es 69)).alloc (Obj.cells zero69 69) = w1 at hB1 hE1 hR1 hs1 ⊢
  have k0 := (bcell hE1 0).trans (es0 d H0.out)
  have HS1 := Lib.hid hs1
  have HE1 := Lib.hid hE1
  have HR1 := Lib.hid hR1
  have HB1 := Lib.hid hB1
  clear hs1 hE1 hR1 hB1
  go_upto_region 2 with (refine wpList_store_row (o := ⟨none, .store 69 (.tmp 3) (.tmp 6), _, _, _, _⟩) rfl 69 (.tmp 3) (.tmp 6) rfl w1.heap.size (zED 0).es (by kernel_rfl) (by kernel_rfl) 69 zero69 (heap_alloc_new w1 _) (by kernel_rfl) rfl (ED.one _) ?_; change wpList _ _ _ _ _ ((w1.alloc (Obj.cells zero69 69)).setRow w1.heap.size _); rw [setRow_alloc])
  have hb2 := (Below.refl w1.heap.size w1).alloc (Nat.le_refl _) (Obj.cells (zED 0).es 69)
  have hX2 := heap_alloc_new w1 (Obj.cells (zED 0).es 69)
  generalize w1.alloc (Obj.cells (zED 0).es 69) = w2 at hb2 hX2 ⊢
  have hE2 := bblk hb2 HE1.out
  have hR2 := bblk hb2 HR1.out
  have hB2 := HB1.out.trans (hb2.mono HB1.out.size)
  have gX : w1.heap.size = w.heap.size + 2 := HS1.out
  generalize w1.heap.size = X at hX2 gX ⊢
  have k0 := (bcell hE2 0).trans (es0 d H0.out)
  have GX := Lib.hid gX
  have HB2 := Lib.hid hB2
  have HE2 := Lib.hid hE2
  have HR2 := Lib.hid hR2
  have HX2 := Lib.hid hX2
  clear hb2 hX2 hE2 hR2 hB2 gX HB1 HE1 HR1 HS1
  have k1 := (bcell HE2.out 1).trans (ED.g1 d)
  have x1 : w2.cell? ⟨X, 1, none⟩ = _ := (bcell HX2.out 1).trans (ED.g1 _)
  have f1 := bfrozen HX2.out 1
  go_upto_region 40 with fail
  obtain ⟨D, hx0, hext, hfit, hX3⟩ : ∃ D : ED, D.x0 = d.x0 ∧ (∀ w0, Ext w0 d → Ext w0 D) ∧ (Fit d → Fit D) ∧ (w2.setCell ⟨X, 1, none⟩ (.string d.s1)).heap[X]? = some (.cells D.es 69 (0, 0)) := ⟨{ zED 0 with s1 := d.s1 }, H0.out.symm, fun w0 h => have z := Ext.zero w0 d.x0; { z with h1 := h.h1 }, fun f => { Fit.zero d.x0 with }, (bset HX2.out 1 _)⟩
  have hR3 : (w2.setCell ⟨X, 1, none⟩ (.string d.s1)).heap[w.heap.size + 1]? = some (.cells zero69 69 (0, 0)) := ((Below.heap_setCell _ ⟨X, 1, none⟩ _ (w.heap.size + 1) (by have := GX.out; show w.heap.size + 1 ≠ X; omega)).trans HR2.out)
  have hB3 : Below w.heap.size w (w2.setCell ⟨X, 1, none⟩ (.string d.s1)) := (HB2.out.setCell (p := ⟨X, 1, none⟩) (by have := GX.out; show w.heap.size ≤ X; omega) _)
  generalize (w2.setCell ⟨X, 1, none⟩ (.string d.s1)) = w3 at hX3 hR3 hB3 ⊢
  have HX3 := Lib.hid hX3
  have HR3 := Lib.hid hR3
  have HB3 := Lib.hid hB3
  have HEX := Lib.hid hext
  have HX0 := Lib.hid hx0
  have HFT := Lib.hid hfit
  clear hX3 hR3 hB3 hext hx0 hfit
  go_wp2_with (first | (refine wpList_load_row rfl 69 (.tmp 3) rfl X (by kernel_rfl) 69 D.es (0, 0) _ HX3.out Tryz.underlying69 rfl (hi69 _) ?_) | (refine wpList_store_row (o := ⟨none, .store 69 (.tmp 2) (.tmp 104), _, _, _, _⟩) rfl 69 (.tmp 2) (.tmp 104) rfl (w.heap.size + 1) D.es (by kernel_rfl) (by kernel_rfl) 69 zero69 HR3.out (hi69 _) rfl (ED.one _) ?_))
  refine bodyPost_ret (results_cell_row rfl _ _ (w.heap.size + 1) 69 D.es (0, 0) _ (by kernel_rfl) (setRow_heap w3 (w.heap.size + 1) zero69 _ 69 _ HR3.out) Tryz.underlying69 rfl (hi69 _)) rfl ?_
  have hB4 := below_setRow HB3.out (Nat.le_succ _) D.es
  exact ⟨D, rfl, HX0.out, HEX.out, HFT.out, hB4⟩
set_option maxHeartbeats 4000000 in
set_option maxRecDepth 100000 in
theorem shaped_44 (d : ED) (w : World) (hx : Ext w d) (h0 : d.x0 = 44) : Calls Tryz.prog 27 #[.agg d.es] w (Shaped d w) := by
  have H0 := Lib.hid h0
  have HX := Lib.hid hx
  clear hx h0
  go_enter Tryz.func27, Tryz.ntmps27
  have hB1 : Below w.heap.size w ((w.alloc (Obj.cells d.es 69)).alloc (Obj.cells zero69 69)) := ((Below.refl _ _).alloc (Nat.le_refl _) _).alloc (by simp) _
  have hE1 : ((w.alloc (Obj.cells d.es 69)).alloc (Obj.cells zero69 69)).heap[w.heap.size]? = some (.cells d.es 69 (0, 0)) := by
    rw [heap_alloc_old _ _ (by simp)]
    exact heap_alloc_new _ _
  have hR1 : ((w.alloc (Obj.cells d.es 69)).alloc (Obj.cells zero69 69)).heap[w.heap.size + 1]? = some (.cells zero69 69 (0, 0)) := by
    have h := heap_alloc_new (w.alloc (Obj.cells d.es 69)) (Obj.cells zero69 69)
    rwa [World.size_alloc] at h
  have hs1 : ((w.alloc (Obj.cells d.es 69)).alloc (Obj.cells zero69 69)).heap.size = w.heap.size + 2 := by simp
  go_upto_region 1 with fail
  change Code.wp _ _ _ _ ((w.alloc (Obj.cells d.es 69)).alloc (Obj.cells zero69 69))
  generalize (w.alloc (Obj.cells d.es 69)).alloc (Obj.cells zero69 69) = w1 at hB1 hE1 hR1 hs1 ⊢
  have k0 := (bcell hE1 0).trans (es0 d H0.out)
  have HS1 := Lib.hid hs1
  have HE1 := Lib.hid hE1
  have HR1 := Lib.hid hR1
  have HB1 := Lib.hid hB1
  clear hs1 hE1 hR1 hB1
  go_upto_region 2 with (refine wpList_store_row (o := ⟨none, .store 69 (.tmp 3) (.tmp 6), _, _, _, _⟩) rfl 69 (.tmp 3) (.tmp 6) rfl w1.heap.size (zED 44).es (by kernel_rfl) (by kernel_rfl) 69 zero69 (heap_alloc_new w1 _) (by kernel_rfl) rfl (ED.one _) ?_; change wpList _ _ _ _ _ ((w1.alloc (Obj.cells zero69 69)).setRow w1.heap.size _); rw [setRow_alloc])
  have hb2 := (Below.refl w1.heap.size w1).alloc (Nat.le_refl _) (Obj.cells (zED 44).es 69)
  have hX2 := heap_alloc_new w1 (Obj.cells (zED 44).es 69)
  generalize w1.alloc (Obj.cells (zED 44).es 69) = w2 at hb2 hX2 ⊢
  have hE2 := bblk hb2 HE1.out
  have hR2 := bblk hb2 HR1.out
  have hB2 := HB1.out.trans (hb2.mono HB1.out.size)
  have gX : w1.heap.size = w.heap.size + 2 := HS1.out
  generalize w1.heap.size = X at hX2 gX ⊢
  have k0 := (bcell hE2 0).trans (es0 d H0.out)
  have GX := Lib.hid gX
  have HB2 := Lib.hid hB2
  have HE2 := Lib.hid hE2
  have HR2 := Lib.hid hR2
  have HX2 := Lib.hid hX2
  clear hb2 hX2 hE2 hR2 hB2 gX HB1 HE1 HR1 HS1
  have k1 := (bcell HE2.out 1).trans (ED.g1 d)
  have x1 : w2.cell? ⟨X, 1, none⟩ = _ := (bcell HX2.out 1).trans (ED.g1 _)
  have f1 := bfrozen HX2.out 1
  go_upto_region 40 with fail
  obtain ⟨D, hx0, hext, hfit, hX3⟩ : ∃ D : ED, D.x0 = d.x0 ∧ (∀ w0, Ext w0 d → Ext w0 D) ∧ (Fit d → Fit D) ∧ (w2.setCell ⟨X, 1, none⟩ (.string d.s1)).heap[X]? = some (.cells D.es 69 (0, 0)) := ⟨{ zED 44 with s1 := d.s1 }, H0.out.symm, fun w0 h => have z := Ext.zero w0 d.x0; { z with h1 := h.h1 }, fun f => { Fit.zero d.x0 with }, (bset HX2.out 1 _)⟩
  have hR3 : (w2.setCell ⟨X, 1, none⟩ (.string d.s1)).heap[w.heap.size + 1]? = some (.cells zero69 69 (0, 0)) := ((Below.heap_setCell _ ⟨X, 1, none⟩ _ (w.heap.size + 1) (by have := GX.out; show w.heap.size + 1 ≠ X; omega)).trans HR2.out)
  have hB3 : Below w.heap.size w (w2.setCell ⟨X, 1, none⟩ (.string d.s1)) := (HB2.out.setCell (p := ⟨X, 1, none⟩) (by have := GX.out; show w.heap.size ≤ X; omega) _)
  generalize (w2.setCell ⟨X, 1, none⟩ (.string d.s1)) = w3 at hX3 hR3 hB3 ⊢
  have HX3 := Lib.hid hX3
  have HR3 := Lib.hid hR3
  have HB3 := Lib.hid hB3
  have HEX := Lib.hid hext
  have HX0 := Lib.hid hx0
  have HFT := Lib.hid hfit
  clear hX3 hR3 hB3 hext hx0 hfit
  go_wp2_with (first | (refine wpList_load_row rfl 69 (.tmp 3) rfl X (by kernel_rfl) 69 D.es (0, 0) _ HX3.out Tryz.underlying69 rfl (hi69 _) ?_) | (refine wpList_store_row (o := ⟨none, .store 69 (.tmp 2) (.tmp 104), _, _, _, _⟩) rfl 69 (.tmp 2) (.tmp 104) rfl (w.heap.size + 1) D.es (by kernel_rfl) (by kernel_rfl) 69 zero69 HR3.out (hi69 _) rfl (ED.one _) ?_))
  refine bodyPost_ret (results_cell_row rfl _ _ (w.heap.size + 1) 69 D.es (0, 0) _ (by kernel_rfl) (setRow_heap w3 (w.heap.size + 1) zero69 _ 69 _ HR3.out) Tryz.underlying69 rfl (hi69 _)) rfl ?_
  have hB4 := below_setRow HB3.out (Nat.le_succ _) D.es
  exact ⟨D, rfl, HX0.out, HEX.out, HFT.out, hB4⟩
set_option maxHeartbeats 4000000 in
set_option maxRecDepth 100000 in
theorem shaped_54 (d : ED) (w : World) (hx : Ext w d) (h0 : d.x0 = 54) : Calls Tryz.prog 27 #[.agg d.es] w (Shaped d w) := by
  have H0 := Lib.hid h0
  have HX := Lib.hid hx
  clear hx h0
  go_enter Tryz.func27, Tryz.ntmps27
  have hB1 : Below w.heap.size w ((w.alloc (Obj.cells d.es 69)).alloc (Obj.cells zero69 69)) := ((Below.refl _ _).alloc (Nat.le_refl _) _).alloc (by simp) _
  have hE1 : ((w.alloc (Obj.cells d.es 69)).alloc (Obj.cells zero69 69)).heap[w.heap.size]? = some (.cells d.es 69 (0, 0)) := by
    rw [heap_alloc_old _ _ (by simp)]
    exact heap_alloc_new _ _
  have hR1 : ((w.alloc (Obj.cells d.es 69)).alloc (Obj.cells zero69 69)).heap[w.heap.size + 1]? = some (.cells zero69 69 (0, 0)) := by
    have h := heap_alloc_new (w.alloc (Obj.cells d.es 69)) (Obj.cells zero69 69)
    rwa [World.size_alloc] at h
  have hs1 : ((w.alloc (Obj.cells d.es 69)).alloc (Obj.cells zero69 69)).heap.size = w.heap.size + 2 := by simp
  go_upto_region 1 with fail
  change Code.wp _ _ _ _ ((w.alloc (Obj.cells d.es 69)).alloc (Obj.cells zero69 69))
  generalize (w.alloc (Obj.cells d.es 69)).alloc (Obj.cells zero69 69) = w1 at hB1 hE1 hR1 hs1 ⊢
  have k0 := (bcell hE1 0).trans (es0 d H0.out)
  have HS1 := Lib.hid hs1
  have HE1 := Lib.hid hE1
  have HR1 := Lib.hid hR1
  have HB1 := Lib.hid hB1
  clear hs1 hE1 hR1 hB1
  go_upto_region 2 with (refine wpList_store_row (o := ⟨none, .store 69 (.tmp 3) (.tmp 6), _, _, _, _⟩) rfl 69 (.tmp 3) (.tmp 6) rfl w1.heap.size (zED 54).es (by kernel_rfl) (by kernel_rfl) 69 zero69 (heap_alloc_new w1 _) (by kernel_rfl) rfl (ED.one _) ?_; change wpList _ _ _ _ _ ((w1.alloc (Obj.cells zero69 69)).setRow w1.heap.size _); rw [setRow_alloc])
  have hb2 := (Below.refl w1.heap.size w1).alloc (Nat.le_refl _) (Obj.cells (zED 54).es 69)
  have hX2 := heap_alloc_new w1 (Obj.cells (zED 54).es 69)
  generalize w1.alloc (Obj.cells (zED 54).es 69) = w2 at hb2 hX2 ⊢
  have hE2 := bblk hb2 HE1.out
  have hR2 := bblk hb2 HR1.out
  have hB2 := HB1.out.trans (hb2.mono HB1.out.size)
  have gX : w1.heap.size = w.heap.size + 2 := HS1.out
  generalize w1.heap.size = X at hX2 gX ⊢
  have k0 := (bcell hE2 0).trans (es0 d H0.out)
  have GX := Lib.hid gX
  have HB2 := Lib.hid hB2
  have HE2 := Lib.hid hE2
  have HR2 := Lib.hid hR2
  have HX2 := Lib.hid hX2
  clear hb2 hX2 hE2 hR2 hB2 gX HB1 HE1 HR1 HS1
  have k1 := (bcell HE2.out 1).trans (ED.g1 d)
  have x1 : w2.cell? ⟨X, 1, none⟩ = _ := (bcell HX2.out 1).trans (ED.g1 _)
  have f1 := bfrozen HX2.out 1
  go_upto_region 40 with fail
  obtain ⟨D, hx0, hext, hfit, hX3⟩ : ∃ D : ED, D.x0 = d.x0 ∧ (∀ w0, Ext w0 d → Ext w0 D) ∧ (Fit d → Fit D) ∧ (w2.setCell ⟨X, 1, none⟩ (.string d.s1)).heap[X]? = some (.cells D.es 69 (0, 0)) := ⟨{ zED 54 with s1 := d.s1 }, H0.out.symm, fun w0 h => have z := Ext.zero w0 d.x0; { z with h1 := h.h1 }, fun f => { Fit.zero d.x0 with }, (bset HX2.out 1 _)⟩
  have hR3 : (w2.setCell ⟨X, 1, none⟩ (.string d.s1)).heap[w.heap.size + 1]? = some (.cells zero69 69 (0, 0)) := ((Below.heap_setCell _ ⟨X, 1, none⟩ _ (w.heap.size + 1) (by have := GX.out; show w.heap.size + 1 ≠ X; omega)).trans HR2.out)
  have hB3 : Below w.heap.size w (w2.setCell ⟨X, 1, none⟩ (.string d.s1)) := (HB2.out.setCell (p := ⟨X, 1, none⟩) (by have := GX.out; show w.heap.size ≤ X; omega) _)
  generalize (w2.setCell ⟨X, 1, none⟩ (.string d.s1)) = w3 at hX3 hR3 hB3 ⊢
  have HX3 := Lib.hid hX3
  have HR3 := Lib.hid hR3
  have HB3 := Lib.hid hB3
  have HEX := Lib.hid hext
  have HX0 := Lib.hid hx0
  have HFT := Lib.hid hfit
  clear hX3 hR3 hB3 hext hx0 hfit
  go_wp2_with (first | (refine wpList_load_row rfl 69 (.tmp 3) rfl X (by kernel_rfl) 69 D.es (0, 0) _ HX3.out Tryz.underlying69 rfl (hi69 _) ?_) | (refine wpList_store_row (o := ⟨none, .store 69 (.tmp 2) (.tmp 104), _, _, _, _⟩) rfl 69 (.tmp 2) (.tmp 104) rfl (w.heap.size + 1) D.es (by kernel_rfl) (by kernel_rfl) 69 zero69 HR3.out (hi69 _) rfl (ED.one _) ?_))
  refine bodyPost_ret (results_cell_row rfl _ _ (w.heap.size + 1) 69 D.es (0, 0) _ (by kernel_rfl) (setRow_heap w3 (w.heap.size + 1) zero69 _ 69 _ HR3.out) Tryz.underlying69 rfl (hi69 _)) rfl ?_
  have hB4 := below_setRow HB3.out (Nat.le_succ _) D.es
  exact ⟨D, rfl, HX0.out, HEX.out, HFT.out, hB4⟩
set_option maxHeartbeats 4000000 in
set_option maxRecDepth 100000 in
theorem shaped_10 (d : ED) (w : World) (hx : Ext w d) (h0 : d.x0 = 10) : Calls Tryz.prog 27 #[.agg d.es] w (Shaped d w) := by
  have H0 := Lib.hid h0
  have HX := Lib.hid hx
  clear hx h0
  go_enter Tryz.func27, Tryz.ntmps27
  have hB1 : Below w.heap.size w ((w.alloc (Obj.cells d.es 69)).alloc (Obj.cells zero69 69)) := ((Below.refl _ _).alloc (Nat.le_refl _) _).alloc (by simp) _
  have hE1 : ((w.alloc (Obj.cells d.es 69)).alloc (Obj.cells zero69 69)).heap[w.heap.size]? = some (.cells d.es 69 (0, 0)) := by
    rw [heap_alloc_old _ _ (by simp)]
    exact heap_alloc_new _ _
  have hR1 : ((w.alloc (Obj.cells d.es 69)).alloc (Obj.cells zero69 69)).heap[w.heap.size + 1]? = some (.cells zero69 69 (0, 0)) := by
    have h := heap_alloc_new (w.alloc (Obj.cells d.es 69)) (Obj.cells zero69 69)
    rwa [World.size_alloc] at h
  have hs1 : ((w.alloc (Obj.cells d.es 69)).alloc (Obj.cells zero69 69)).heap.size = w.heap.size + 2 := by simp
  go_upto_region 1 with fail
  change Code.wp _ _ _ _ ((w.alloc (Obj.cells d.es 69)).alloc (Obj.cells zero69 69))
  generalize (w.alloc (Obj.cells d.es 69)).alloc (Obj.cells zero69 69) = w1 at hB1 hE1 hR1 hs1 ⊢
  have k0 := (bcell hE1 0).trans (es0 d H0.out)
  have HS1 := Lib.hid hs1
  have HE1 := Lib.hid hE1
  have HR1 := Lib.hid hR1
  have HB1 := Lib.hid hB1
  clear hs1 hE1 hR1 hB1
  go_upto_region 2 with (refine wpList_store_row (o := ⟨none, .store 69 (.tmp 3) (.tmp 6), _, _, _, _⟩) rfl 69 (.tmp 3) (.tmp 6) rfl w1.heap.size (zED 10).es (by kernel_rfl) (by kernel_rfl) 69 zero69 (heap_alloc_new w1 _) (by kernel_rfl) rfl (ED.one _) ?_; change wpList _ _ _ _ _ ((w1.alloc (Obj.cells zero69 69)).setRow w1.heap.size _); rw [setRow_alloc])
  have hb2 := (Below.refl w1.heap.size w1).alloc (Nat.le_refl _) (Obj.cells (zED 10).es 69)
  have hX2 := heap_alloc_new w1 (Obj.cells (zED 10).es 69)
  generalize w1.alloc (Obj.cells (zED 10).es 69) = w2 at hb2 hX2 ⊢
  have hE2 := bblk hb2 HE1.out
  have hR2 := bblk hb2 HR1.out
  have hB2 := HB1.out.trans (hb2.mono HB1.out.size)
  have gX : w1.heap.size = w.heap.size + 2 := HS1.out
  generalize w1.heap.size = X at hX2 gX ⊢
  have k0 := (bcell hE2 0).trans (es0 d H0.out)
  have GX := Lib.hid gX
  have HB2 := Lib.hid hB2
  have HE2 := Lib.hid hE2
  have HR2 := Lib.hid hR2
  have HX2 := Lib.hid hX2
  clear hb2 hX2 hE2 hR2 hB2 gX HB1 HE1 HR1 HS1
  have k3 := (bcell HE2.out 3).trans (ED.g3 d)
  have x3 : w2.cell? ⟨X, 3, none⟩ = _ := (bcell HX2.out 3).trans (ED.g3 _)
  have f3 := bfrozen HX2.out 3
  go_upto_region 40 with fail
  obtain ⟨D, hx0, hext, hfit, hX3⟩ : ∃ D : ED, D.x0 = d.x0 ∧ (∀ w0, Ext w0 d → Ext w0 D) ∧ (Fit d → Fit D) ∧ (w2.setCell ⟨X, 3, none⟩ (.slice d.p3 d.n3 d.c3)).heap[X]? = some (.cells D.es 69 (0, 0)) := ⟨{ zED 10 with p3 := d.p3, n3 := d.n3, c3 := d.c3, u3 := d.u3 }, H0.out.symm, fun w0 h => have z := Ext.zero w0 d.x0; { z with o3 := h.o3, r3 := h.r3 }, fun f => { Fit.zero d.x0 with n3 := f.n3 }, (bset HX2.out 3 _)⟩
  have hR3 : (w2.setCell ⟨X, 3, none⟩ (.slice d.p3 d.n3 d.c3)).heap[w.heap.size + 1]? = some (.cells zero69 69 (0, 0)) := ((Below.heap_setCell _ ⟨X, 3, none⟩ _ (w.heap.size + 1) (by have := GX.out; show w.heap.size + 1 ≠ X; omega)).trans HR2.out)
  have hB3 : Below w.heap.size w (w2.setCell ⟨X, 3, none⟩ (.slice d.p3 d.n3 d.c3)) := (HB2.out.setCell (p := ⟨X, 3, none⟩) (by have := GX.out; show w.heap.size ≤ X; omega) _)
  generalize (w2.setCell ⟨X, 3, none⟩ (.slice d.p3 d.n3 d.c3)) = w3 at hX3 hR3 hB3 ⊢
  have HX3 := Lib.hid hX3
  have HR3 := Lib.hid hR3
  have HB3 := Lib.hid hB3
  have HEX := Lib.hid hext
  have HX0 := Lib.hid hx0
  have HFT := Lib.hid hfit
  clear hX3 hR3 hB3 hext hx0 hfit
  go_wp2_with (first | (refine wpList_load_row rfl 69 (.tmp 3) rfl X (by kernel_rfl) 69 D.es (0, 0) _ HX3.out Tryz.underlying69 rfl (hi69 _) ?_) | (refine wpList_store_row (o := ⟨none, .store 69 (.tmp 2) (.tmp 104), _, _, _, _⟩) rfl 69 (.tmp 2) (.tmp 104) rfl (w.heap.size + 1) D.es (by kernel_rfl) (by kernel_rfl) 69 zero69 HR3.out (hi69 _) rfl (ED.one _) ?_))
  refine bodyPost_ret (results_cell_row rfl _ _ (w.heap.size + 1) 69 D.es (0, 0) _ (by kernel_rfl) (setRow_heap w3 (w.heap.size + 1) zero69 _ 69 _ HR3.out) Tryz.underlying69 rfl (hi69 _)) rfl ?_
  have hB4 := below_setRow HB3.out (Nat.le_succ _) D.es
  exact ⟨D, rfl, HX0.out, HEX.out, HFT.out, hB4⟩
set_option maxHeartbeats 4000000 in
set_option maxRecDepth 100000 in
theorem shaped_11 (d : ED) (w : World) (hx : Ext w d) (h0 : d.x0 = 11) : Calls Tryz.prog 27 #[.agg d.es] w (Shaped d w) := by
  have H0 := Lib.hid h0
  have HX := Lib.hid hx
  clear hx h0
  go_enter Tryz.func27, Tryz.ntmps27
  have hB1 : Below w.heap.size w ((w.alloc (Obj.cells d.es 69)).alloc (Obj.cells zero69 69)) := ((Below.refl _ _).alloc (Nat.le_refl _) _).alloc (by simp) _
  have hE1 : ((w.alloc (Obj.cells d.es 69)).alloc (Obj.cells zero69 69)).heap[w.heap.size]? = some (.cells d.es 69 (0, 0)) := by
    rw [heap_alloc_old _ _ (by simp)]
    exact heap_alloc_new _ _
  have hR1 : ((w.alloc (Obj.cells d.es 69)).alloc (Obj.cells zero69 69)).heap[w.heap.size + 1]? = some (.cells zero69 69 (0, 0)) := by
    have h := heap_alloc_new (w.alloc (Obj.cells d.es 69)) (Obj.cells zero69 69)
    rwa [World.size_alloc] at h
  have hs1 : ((w.alloc (Obj.cells d.es 69)).alloc (Obj.cells zero69 69)).heap.size = w.heap.size + 2 := by simp
  go_upto_region 1 with fail
  change Code.wp _ _ _ _ ((w.alloc (Obj.cells d.es 69)).alloc (Obj.cells zero69 69))
  generalize (w.alloc (Obj.cells d.es 69)).alloc (Obj.cells zero69 69) = w1 at hB1 hE1 hR1 hs1 ⊢
  have k0 := (bcell hE1 0).trans (es0 d H0.out)
  have HS1 := Lib.hid hs1
  have HE1 := Lib.hid hE1
  have HR1 := Lib.hid hR1
  have HB1 := Lib.hid hB1
  clear hs1 hE1 hR1 hB1
  go_upto_region 2 with (refine wpList_store_row (o := ⟨none, .store 69 (.tmp 3) (.tmp 6), _, _, _, _⟩) rfl 69 (.tmp 3) (.tmp 6) rfl w1.heap.size (zED 11).es (by kernel_rfl) (by kernel_rfl) 69 zero69 (heap_alloc_new w1 _) (by kernel_rfl) rfl (ED.one _) ?_; change wpList _ _ _ _ _ ((w1.alloc (Obj.cells zero69 69)).setRow w1.heap.size _); rw [setRow_alloc])
  have hb2 := (Below.refl w1.heap.size w1).alloc (Nat.le_refl _) (Obj.cells (zED 11).es 69)
  have hX2 := heap_alloc_new w1 (Obj.cells (zED 11).es 69)
  generalize w1.alloc (Obj.cells (zED 11).es 69) = w2 at hb2 hX2 ⊢
  have hE2 := bblk hb2 HE1.out
  have hR2 := bblk hb2 HR1.out
  have hB2 := HB1.out.trans (hb2.mono HB1.out.size)
  have gX : w1.heap.size = w.heap.size + 2 := HS1.out
  generalize w1.heap.size = X at hX2 gX ⊢
  have k0 := (bcell hE2 0).trans (es0 d H0.out)
  have GX := Lib.hid gX
  have HB2 := Lib.hid hB2
  have HE2 := Lib.hid hE2
  have HR2 := Lib.hid hR2
  have HX2 := Lib.hid hX2
  clear hb2 hX2 hE2 hR2 hB2 gX HB1 HE1 HR1 HS1
  have k3 := (bcell HE2.out 3).trans (ED.g3 d)
  have x3 : w2.cell? ⟨X, 3, none⟩ = _ := (bcell HX2.out 3).trans (ED.g3 _)
  have f3 := bfrozen HX2.out 3
  go_upto_region 40 with fail
  obtain ⟨D, hx0, hext, hfit, hX3⟩ : ∃ D : ED, D.x0 = d.x0 ∧ (∀ w0, Ext w0 d → Ext w0 D) ∧ (Fit d → Fit D) ∧ (w2.setCell ⟨X, 3, none⟩ (.slice d.p3 d.n3 d.c3)).heap[X]? = some (.cells D.es 69 (0, 0)) := ⟨{ zED 11 with p3 := d.p3, n3 := d.n3, c3 := d.c3, u3 := d.u3 }, H0.out.symm, fun w0 h => have z := Ext.zero w0 d.x0; { z with o3 := h.o3, r3 := h.r3 }, fun f => { Fit.zero d.x0 with n3 := f.n3 }, (bset HX2.out 3 _)⟩
  have hR3 : (w2.setCell ⟨X, 3, none⟩ (.slice d.p3 d.n3 d.c3)).heap[w.heap.size + 1]? = some (.cells zero69 69 (0, 0)) := ((Below.heap_setCell _ ⟨X, 3, none⟩ _ (w.heap.size + 1) (by have := GX.out; show w.heap.size + 1 ≠ X; omega)).trans HR2.out)
  have hB3 : Below w.heap.size w (w2.setCell ⟨X, 3, none⟩ (.slice d.p3 d.n3 d.c3)) := (HB2.out.setCell (p := ⟨X, 3, none⟩) (by have := GX.out; show w.heap.size ≤ X; omega) _)
  generalize (w2.setCell ⟨X, 3, none⟩ (.slice d.p3 d.n3 d.c3)) = w3 at hX3 hR3 hB3 ⊢
  have HX3 := Lib.hid hX3
  have HR3 := Lib.hid hR3
  have HB3 := Lib.hid hB3
  have HEX := Lib.hid hext
  have HX0 := Lib.hid hx0
  have HFT := Lib.hid hfit
  clear hX3 hR3 hB3 hext hx0 hfit
  go_wp2_with (first | (refine wpList_load_row rfl 69 (.tmp 3) rfl X (by kernel_rfl) 69 D.es (0, 0) _ HX3.out Tryz.underlying69 rfl (hi69 _) ?_) | (refine wpList_store_row (o := ⟨none, .store 69 (.tmp 2) (.tmp 104), _, _, _, _⟩) rfl 69 (.tmp 2) (.tmp 104) rfl (w.heap.size + 1) D.es (by kernel_rfl) (by kernel_rfl) 69 zero69 HR3.out (hi69 _) rfl (ED.one _) ?_))
  refine bodyPost_ret (results_cell_row rfl _ _ (w.heap.size + 1) 69 D.es (0, 0) _ (by kernel_rfl) (setRow_heap w3 (w.heap.size + 1) zero69 _ 69 _ HR3.out) Tryz.underlying69 rfl (hi69 _)) rfl ?_
  have hB4 := below_setRow HB3.out (Nat.le_succ _) D.es
  exact ⟨D, rfl, HX0.out, HEX.out, HFT.out, hB4⟩
set_option maxHeartbeats 4000000 in
set_option maxRecDepth 100000 in
theorem shaped_43 (d : ED) (w : World) (hx : Ext w d) (h0 : d.x0 = 43) : Calls Tryz.prog 27 #[.agg d.es] w (Shaped d w) := by
  have H0 := Lib.hid h0
  have HX := Lib.hid hx
  clear hx h0
  go_enter Tryz.func27, Tryz.ntmps27
  have hB1 : Below w.heap.size w ((w.alloc (Obj.cells d.es 69)).alloc (Obj.cells zero69 69)) := ((Below.refl _ _).alloc (Nat.le_refl _) _).alloc (by simp) _
  have hE1 : ((w.alloc (Obj.cells d.es 69)).alloc (Obj.cells zero69 69)).heap[w.heap.size]? = some (.cells d.es 69 (0, 0)) := by
    rw [heap_alloc_old _ _ (by simp)]
    exact heap_alloc_new _ _
  have hR1 : ((w.alloc (Obj.cells d.es 69)).alloc (Obj.cells zero69 69)).heap[w.heap.size + 1]? = some (.cells zero69 69 (0, 0)) := by
    have h := heap_alloc_new (w.alloc (Obj.cells d.es 69)) (Obj.cells zero69 69)
    rwa [World.size_alloc] at h
  have hs1 : ((w.alloc (Obj.cells d.es 69)).alloc (Obj.cells zero69 69)).heap.size = w.heap.size + 2 := by simp
  go_upto_region 1 with fail
  change Code.wp _ _ _ _ ((w.alloc (Obj.cells d.es 69)).alloc (Obj.cells zero69 69))
  generalize (w.alloc (Obj.cells d.es 69)).alloc (Obj.cells zero69 69) = w1 at hB1 hE1 hR1 hs1 ⊢
  have k0 := (bcell hE1 0).trans (es0 d H0.out)
  have HS1 := Lib.hid hs1
  have HE1 := Lib.hid hE1
  have HR1 := Lib.hid hR1
  have HB1 := Lib.hid hB1
  clear hs1 hE1 hR1 hB1
  go_upto_region 2 with (refine wpList_store_row (o := ⟨none, .store 69 (.tmp 3) (.tmp 6), _, _, _, _⟩) rfl 69 (.tmp 3) (.tmp 6) rfl w1.heap.size (zED 43).es (by kernel_rfl) (by kernel_rfl) 69 zero69 (heap_alloc_new w1 _) (by kernel_rfl) rfl (ED.one _) ?_; change wpList _ _ _ _ _ ((w1.alloc (Obj.cells zero69 69)).setRow w1.heap.size _); rw [setRow_alloc])
  have hb2 := (Below.refl w1.heap.size w1).alloc (Nat.le_refl _) (Obj.cells (zED 43).es 69)
  have hX2 := heap_alloc_new w1 (Obj.cells (zED 43).es 69)
  generalize w1.alloc (Obj.cells (zED 43).es 69) = w2 at hb2 hX2 ⊢
  have hE2 := bblk hb2 HE1.out
  have hR2 := bblk hb2 HR1.out
  have hB2 := HB1.out.trans (hb2.mono HB1.out.size)
  have gX : w1.heap.size = w.heap.size + 2 := HS1.out
  generalize w1.heap.size = X at hX2 gX ⊢
  have k0 := (bcell hE2 0).trans (es0 d H0.out)
  have GX := Lib.hid gX
  have HB2 := Lib.hid hB2
  have HE2 := Lib.hid hE2
  have HR2 := Lib.hid hR2
  have HX2 := Lib.hid hX2
  clear hb2 hX2 hE2 hR2 hB2 gX HB1 HE1 HR1 HS1
  have k3 := (bcell HE2.out 3).trans (ED.g3 d)
  have x3 : w2.cell? ⟨X, 3, none⟩ = _ := (bcell HX2.out 3).trans (ED.g3 _)
  have f3 := bfrozen HX2.out 3
  go_upto_region 40 with fail
  obtain ⟨D, hx0, hext, hfit, hX3⟩ : ∃ D : ED, D.x0 = d.x0 ∧ (∀ w0, Ext w0 d → Ext w0 D) ∧ (Fit d → Fit D) ∧ (w2.setCell ⟨X, 3, none⟩ (.slice d.p3 d.n3 d.c3)).heap[X]? = some (.cells D.es 69 (0, 0)) := ⟨{ zED 43 with p3 := d.p3, n3 := d.n3, c3 := d.c3, u3 := d.u3 }, H0.out.symm, fun w0 h => have z := Ext.zero w0 d.x0; { z with o3 := h.o3, r3 := h.r3 }, fun f => { Fit.zero d.x0 with n3 := f.n3 }, (bset HX2.out 3 _)⟩
  have hR3 : (w2.setCell ⟨X, 3, none⟩ (.slice d.p3 d.n3 d.c3)).heap[w.heap.size + 1]? = some (.cells zero69 69 (0, 0)) := ((Below.heap_setCell _ ⟨X, 3, none⟩ _ (w.heap.size + 1) (by have := GX.out; show w.heap.size + 1 ≠ X; omega)).trans HR2.out)
  have hB3 : Below w.heap.size w (w2.setCell ⟨X, 3, none⟩ (.slice d.p3 d.n3 d.c3)) := (HB2.out.setCell (p := ⟨X, 3, none⟩) (by have := GX.out; show w.heap.size ≤ X; omega) _)
  generalize (w2.setCell ⟨X, 3, none⟩ (.slice d.p3 d.n3 d.c3)) = w3 at hX3 hR3 hB3 ⊢
  have HX3 := Lib.hid hX3
  have HR3 := Lib.hid hR3
  have HB3 := Lib.hid hB3
  have HEX := Lib.hid hext
  have HX0 := Lib.hid hx0
  have HFT := Lib.hid hfit
  clear hX3 hR3 hB3 hext hx0 hfit
  go_wp2_with (first | (refine wpList_load_row rfl 69 (.tmp 3) rfl X (by kernel_rfl) 69 D.es (0, 0) _ HX3.out Tryz.underlying69 rfl (hi69 _) ?_) | (refine wpList_store_row (o := ⟨none, .store 69 (.tmp 2) (.tmp 104), _, _, _, _⟩) rfl 69 (.tmp 2) (.tmp 104) rfl (w.heap.size + 1) D.es (by kernel_rfl) (by kernel_rfl) 69 zero69 HR3.out (hi69 _) rfl (ED.one _) ?_))
  refine bodyPost_ret (results_cell_row rfl _ _ (w.heap.size + 1) 69 D.es (0, 0) _ (by kernel_rfl) (setRow_heap w3 (w.heap.size + 1) zero69 _ 69 _ HR3.out) Tryz.underlying69 rfl (hi69 _)) rfl ?_
  have hB4 := below_setRow HB3.out (Nat.le_succ _) D.es
  exact ⟨D, rfl, HX0.out, HEX.out, HFT.out, hB4⟩
set_option maxHeartbeats 4000000 in
set_option maxRecDepth 100000 in
theorem shaped_45 (d : ED) (w : World) (hx : Ext w d) (h0 : d.x0 = 45) : Calls Tryz.prog 27 #[.agg d.es] w (Shaped d w) := by
  have H0 := Lib.hid h0
  have HX := Lib.hid hx
  clear hx h0
  go_enter Tryz.func27, Tryz.ntmps27
  have hB1 : Below w.heap.size w ((w.alloc (Obj.cells d.es 69)).alloc (Obj.cells zero69 69)) := ((Below.refl _ _).alloc (Nat.le_refl _) _).alloc (by simp) _
  have hE1 : ((w.alloc (Obj.cells d.es 69)).alloc (Obj.cells zero69 69)).heap[w.heap.size]? = some (.cells d.es 69 (0, 0)) := by
    rw [heap_alloc_old _ _ (by simp)]
    exact heap_alloc_new _ _
  have hR1 : ((w.alloc (Obj.cells d.es 69)).alloc (Obj.cells zero69 69)).heap[w.heap.size + 1]? = some (.cells zero69 69 (0, 0)) := by
    have h := heap_alloc_new (w.alloc (Obj.cells d.es 69)) (Obj.cells zero69 69)
    rwa [World.size_alloc] at h
  have hs1 : ((w.alloc (Obj.cells d.es 69)).alloc (Obj.cells zero69 69)).heap.size = w.heap.size + 2 := by simp
  go_upto_region 1 with fail
  change Code.wp _ _ _ _ ((w.alloc (Obj.cells d.es 69)).alloc (Obj.cells zero69 69))
  generalize (w.alloc (Obj.cells d.es 69)).alloc (Obj.cells zero69 69) = w1 at hB1 hE1 hR1 hs1 ⊢
  have k0 := (bcell hE1 0).trans (es0 d H0.out)
  have HS1 := Lib.hid hs1
  have HE1 := Lib.hid hE1
  have HR1 := Lib.hid hR1
  have HB1 := Lib.hid hB1
  clear hs1 hE1 hR1 hB1
  go_upto_region 2 with (refine wpList_store_row (o := ⟨none, .store 69 (.tmp 3) (.tmp 6), _, _, _, _⟩) rfl 69 (.tmp 3) (.tmp 6) rfl w1.heap.size (zED 45).es (by kernel_rfl) (by kernel_rfl) 69 zero69 (heap_alloc_new w1 _) (by kernel_rfl) rfl (ED.one _) ?_; change wpList _ _ _ _ _ ((w1.alloc (Obj.cells zero69 69)).setRow w1.heap.size _); rw [setRow_alloc])
  have hb2 := (Below.refl w1.heap.size w1).alloc (Nat.le_refl _) (Obj.cells (zED 45).es 69)
  have hX2 := heap_alloc_new w1 (Obj.cells (zED 45).es 69)
  generalize w1.alloc (Obj.cells (zED 45).es 69) = w2 at hb2 hX2 ⊢
  have hE2 := bblk hb2 HE1.out
  have hR2 := bblk hb2 HR1.out
  have hB2 := HB1.out.trans (hb2.mono HB1.out.size)
  have gX : w1.heap.size = w.heap.size + 2 := HS1.out
  generalize w1.heap.size = X at hX2 gX ⊢
  have k0 := (bcell hE2 0).trans (es0 d H0.out)
  have GX := Lib.hid gX
  have HB2 := Lib.hid hB2
  have HE2 := Lib.hid hE2
  have HR2 := Lib.hid hR2
  have HX2 := Lib.hid hX2
  clear hb2 hX2 hE2 hR2 hB2 gX HB1 HE1 HR1 HS1
  have k3 := (bcell HE2.out 3).trans (ED.g3 d)
  have x3 : w2.cell? ⟨X, 3, none⟩ = _ := (bcell HX2.out 3).trans (ED.g3 _)
  have f3 := bfrozen HX2.out 3
  go_upto_region 40 with fail
  obtain ⟨D, hx0, hext, hfit, hX3⟩ : ∃ D : ED, D.x0 = d.x0 ∧ (∀ w0, Ext w0 d → Ext w0 D) ∧ (Fit d → Fit D) ∧ (w2.setCell ⟨X, 3, none⟩ (.slice d.p3 d.n3 d.c3)).heap[X]? = some (.cells D.es 69 (0, 0)) := ⟨{ zED 45 with p3 := d.p3, n3 := d.n3, c3 := d.c3, u3 := d.u3 }, H0.out.symm, fun w0 h => have z := Ext.zero w0 d.x0; { z with o3 := h.o3, r3 := h.r3 }, fun f => { Fit.zero d.x0 with n3 := f.n3 }, (bset HX2.out 3 _)⟩
  have hR3 : (w2.setCell ⟨X, 3, none⟩ (.slice d.p3 d.n3 d.c3)).heap[w.heap.size + 1]? = some (.cells zero69 69 (0, 0)) := ((Below.heap_setCell _ ⟨X, 3, none⟩ _ (w.heap.size + 1) (by have := GX.out; show w.heap.size + 1 ≠ X; omega)).trans HR2.out)
  have hB3 : Below w.heap.size w (w2.setCell ⟨X, 3, none⟩ (.slice d.p3 d.n3 d.c3)) := (HB2.out.setCell (p := ⟨X, 3, none⟩) (by have := GX.out; show w.heap.size ≤ X; omega) _)
  generalize (w2.setCell ⟨X, 3, none⟩ (.slice d.p3 d.n3 d.c3)) = w3 at hX3 hR3 hB3 ⊢
  have HX3 := Lib.hid hX3
  have HR3 := Lib.hid hR3
  have HB3 := Lib.hid hB3
  have HEX := Lib.hid hext
  have HX0 := Lib.hid hx0
  have HFT := Lib.hid hfit
  clear hX3 hR3 hB3 hext hx0 hfit
  go_wp2_with (first | (refine wpList_load_row rfl 69 (.tmp 3) rfl X (by kernel_rfl) 69 D.es (0, 0) _ HX3.out Tryz.underlying69 rfl (hi69 _) ?_) | (refine wpList_store_row (o := ⟨none, .store 69 (.tmp 2) (.tmp 104), _, _, _, _⟩) rfl 69 (.tmp 2) (.tmp 104) rfl (w.heap.size + 1) D.es (by kernel_rfl) (by kernel_rfl) 69 zero69 HR3.out (hi69 _) rfl (ED.one _) ?_))
  refine bodyPost_ret (results_cell_row rfl _ _ (w.heap.size + 1) 69 D.es (0, 0) _ (by kernel_rfl) (setRow_heap w3 (w.heap.size + 1) zero69 _ 69 _ HR3.out) Tryz.underlying69 rfl (hi69 _)) rfl ?_
  have hB4 := below_setRow HB3.out (Nat.le_succ _) D.es
  exact ⟨D, rfl, HX0.out, HEX.out, HFT.out, hB4⟩
set_option maxHeartbeats 4000000 in
set_option maxRecDepth 100000 in
theorem shaped_13 (d : ED) (w : World) (hx : Ext w d) (h0 : d.x0 = 13) : Calls Tryz.prog 27 #[.agg d.es] w (Shaped d w) := by
  have H0 := Lib.hid h0
  have HX := Lib.hid hx
  clear hx h0
  go_enter Tryz.func27, Tryz.ntmps27
  have hB1 : Below w.heap.size w ((w.alloc (Obj.cells d.es 69)).alloc (Obj.cells zero69 69)) := ((Below.refl _ _).alloc (Nat.le_refl _) _).alloc (by simp) _
  have hE1 : ((w.alloc (Obj.cells d.es 69)).alloc (Obj.cells zero69 69)).heap[w.heap.size]? = some (.cells d.es 69 (0, 0)) := by
    rw [heap_alloc_old _ _ (by simp)]
    exact heap_alloc_new _ _
  have hR1 : ((w.alloc (Obj.cells d.es 69)).alloc (Obj.cells zero69 69)).heap[w.heap.size + 1]? = some (.cells zero69 69 (0, 0)) := by
    have h := heap_alloc_new (w.alloc (Obj.cells d.es 69)) (Obj.cells zero69 69)
    rwa [World.size_alloc] at h
  have hs1 : ((w.alloc (Obj.cells d.es 69)).alloc (Obj.cells zero69 69)).heap.size = w.heap.size + 2 := by simp
  go_upto_region 1 with fail
  change Code.wp _ _ _ _ ((w.alloc (Obj.cells d.es 69)).alloc (Obj.cells zero69 69))
  generalize (w.alloc (Obj.cells d.es 69)).alloc (Obj.cells zero69 69) = w1 at hB1 hE1 hR1 hs1 ⊢
  have k0 := (bcell hE1 0).trans (es0 d H0.out)
  have HS1 := Lib.hid hs1
  have HE1 := Lib.hid hE1
  have HR1 := Lib.hid hR1
  have HB1 := Lib.hid hB1
  clear hs1 hE1 hR1 hB1
  go_upto_region 2 with (refine wpList_store_row (o := ⟨none, .store 69 (.tmp 3) (.tmp 6), _, _, _, _⟩) rfl 69 (.tmp 3) (.tmp 6) rfl w1.heap.size (zED 13).es (by kernel_rfl) (by kernel_rfl) 69 zero69 (heap_alloc_new w1 _) (by kernel_rfl) rfl (ED.one _) ?_; change wpList _ _ _ _ _ ((w1.alloc (Obj.cells zero69 69)).setRow w1.heap.size _); rw [setRow_alloc])
  have hb2 := (Below.refl w1.heap.size w1).alloc (Nat.le_refl _) (Obj.cells (zED 13).es 69)
  have hX2 := heap_alloc_new w1 (Obj.cells (zED 13).es 69)
  generalize w1.alloc (Obj.cells (zED 13).es 69) = w2 at hb2 hX2 ⊢
  have hE2 := bblk hb2 HE1.out
  have hR2 := bblk hb2 HR1.out
  have hB2 := HB1.out.trans (hb2.mono HB1.out.size)
  have gX : w1.heap.size = w.heap.size + 2 := HS1.out
  generalize w1.heap.size = X at hX2 gX ⊢
  have k0 := (bcell hE2 0).trans (es0 d H0.out)
  have GX := Lib.hid gX
  have HB2 := Lib.hid hB2
  have HE2 := Lib.hid hE2
  have HR2 := Lib.hid hR2
  have HX2 := Lib.hid hX2
  clear hb2 hX2 hE2 hR2 hB2 gX HB1 HE1 HR1 HS1
  have k4 := (bcell HE2.out 4).trans (ED.g4 d)
  have x4 : w2.cell? ⟨X, 4, none⟩ = _ := (bcell HX2.out 4).trans (ED.g4 _)
  have f4 := bfrozen HX2.out 4
  go_upto_region 40 with fail
  obtain ⟨D, hx0, hext, hfit, hX3⟩ : ∃ D : ED, D.x0 = d.x0 ∧ (∀ w0, Ext w0 d → Ext w0 D) ∧ (Fit d → Fit D) ∧ (w2.setCell ⟨X, 4, none⟩ (.slice d.p4 d.n4 d.c4)).heap[X]? = some (.cells D.es 69 (0, 0)) := ⟨{ zED 13 with p4 := d.p4, n4 := d.n4, c4 := d.c4, a4 := d.a4, z4 := d.z4 }, H0.out.symm, fun w0 h => have z := Ext.zero w0 d.x0; { z with o4 := h.o4, r4 := h.r4 }, fun f => { Fit.zero d.x0 with n4 := f.n4 }, (bset HX2.out 4 _)⟩
  have hR3 : (w2.setCell ⟨X, 4, none⟩ (.slice d.p4 d.n4 d.c4)).heap[w.heap.size + 1]? = some (.cells zero69 69 (0, 0)) := ((Below.heap_setCell _ ⟨X, 4, none⟩ _ (w.heap.size + 1) (by have := GX.out; show w.heap.size + 1 ≠ X; omega)).trans HR2.out)
  have hB3 : Below w.heap.size w (w2.setCell ⟨X, 4, none⟩ (.slice d.p4 d.n4 d.c4)) := (HB2.out.setCell (p := ⟨X, 4, none⟩) (by have := GX.out; show w.heap.size ≤ X; omega) _)
  generalize (w2.setCell ⟨X, 4, none⟩ (.slice d.p4 d.n4 d.c4)) = w3 at hX3 hR3 hB3 ⊢
  have HX3 := Lib.hid hX3
  have HR3 := Lib.hid hR3
  have HB3 := Lib.hid hB3
  have HEX := Lib.hid hext
  have HX0 := Lib.hid hx0
  have HFT := Lib.hid hfit
  clear hX3 hR3 hB3 hext hx0 hfit
  go_wp2_with (first | (refine wpList_load_row rfl 69 (.tmp 3) rfl X (by kernel_rfl) 69 D.es (0, 0) _ HX3.out Tryz.underlying69 rfl (hi69 _) ?_) | (refine wpList_store_row (o := ⟨none, .store 69 (.tmp 2) (.tmp 104), _, _, _, _⟩) rfl 69 (.tmp 2) (.tmp 104) rfl (w.heap.size + 1) D.es (by kernel_rfl) (by kernel_rfl) 69 zero69 HR3.out (hi69 _) rfl (ED.one _) ?_))
  refine bodyPost_ret (results_cell_row rfl _ _ (w.heap.size + 1) 69 D.es (0, 0) _ (by kernel_rfl) (setRow_heap w3 (w.heap.size + 1) zero69 _ 69 _ HR3.out) Tryz.underlying69 rfl (hi69 _)) rfl ?_
  have hB4 := below_setRow HB3.out (Nat.le_succ _) D.es
  exact ⟨D, rfl, HX0.out, HEX.out, HFT.out, hB4⟩
set_option maxHeartbeats 4000000 in
set_option maxRecDepth 100000 in
theorem shaped_50 (d : ED) (w : World) (hx : Ext w d) (h0 : d.x0 = 50) : Calls Tryz.prog 27 #[.agg d.es] w (Shaped d w) := by
  have H0 := Lib.hid h0
  have HX := Lib.hid hx
  clear hx h0
  go_enter Tryz.func27, Tryz.ntmps27
  have hB1 : Below w.heap.size w ((w.alloc (Obj.cells d.es 69)).alloc (Obj.cells zero69 69)) := ((Below.refl _ _).alloc (Nat.le_refl _) _).alloc (by simp) _
  have hE1 : ((w.alloc (Obj.cells d.es 69)).alloc (Obj.cells zero69 69)).heap[w.heap.size]? = some (.cells d.es 69 (0, 0)) := by
    rw [heap_alloc_old _ _ (by simp)]
    exact heap_alloc_new _ _
  have hR1 : ((w.alloc (Obj.cells d.es 69)).alloc (Obj.cells zero69 69)).heap[w.heap.size + 1]? = some (.cells zero69 69 (0, 0)) := by
    have h := heap_alloc_new (w.alloc (Obj.cells d.es 69)) (Obj.cells zero69 69)
    rwa [World.size_alloc] at h
  have hs1 : ((w.alloc (Obj.cells d.es 69)).alloc (Obj.cells zero69 69)).heap.size = w.heap.size + 2 := by simp
  go_upto_region 1 with fail
  change Code.wp _ _ _ _ ((w.alloc (Obj.cells d.es 69)).alloc (Obj.cells zero69 69))
  generalize (w.alloc (Obj.cells d.es 69)).alloc (Obj.cells zero69 69) = w1 at hB1 hE1 hR1 hs1 ⊢
  have k0 := (bcell hE1 0).trans (es0 d H0.out)
  have HS1 := Lib.hid hs1
  have HE1 := Lib.hid hE1
  have HR1 := Lib.hid hR1
  have HB1 := Lib.hid hB1
  clear hs1 hE1 hR1 hB1
  go_upto_region 2 with (refine wpList_store_row (o := ⟨none, .store 69 (.tmp 3) (.tmp 6), _, _, _, _⟩) rfl 69 (.tmp 3) (.tmp 6) rfl w1.heap.size (zED 50).es (by kernel_rfl) (by kernel_rfl) 69 zero69 (heap_alloc_new w1 _) (by kernel_rfl) rfl (ED.one _) ?_; change wpList _ _ _ _ _ ((w1.alloc (Obj.cells zero69 69)).setRow w1.heap.size _); rw [setRow_alloc])
  have hb2 := (Below.refl w1.heap.size w1).alloc (Nat.le_refl _) (Obj.cells (zED 50).es 69)
  have hX2 := heap_alloc_new w1 (Obj.cells (zED 50).es 69)
  generalize w1.alloc (Obj.cells (zED 50).es 69) = w2 at hb2 hX2 ⊢
  have hE2 := bblk hb2 HE1.out
  have hR2 := bblk hb2 HR1.out
  have hB2 := HB1.out.trans (hb2.mono HB1.out.size)
  have gX : w1.heap.size = w.heap.size + 2 := HS1.out
  generalize w1.heap.size = X at hX2 gX ⊢
  have k0 := (bcell hE2 0).trans (es0 d H0.out)
  have GX := Lib.hid gX
  have HB2 := Lib.hid hB2
  have HE2 := Lib.hid hE2
  have HR2 := Lib.hid hR2
  have HX2 := Lib.hid hX2
  clear hb2 hX2 hE2 hR2 hB2 gX HB1 HE1 HR1 HS1
  have k4 := (bcell HE2.out 4).trans (ED.g4 d)
  have x4 : w2.cell? ⟨X, 4, none⟩ = _ := (bcell HX2.out 4).trans (ED.g4 _)
  have f4 := bfrozen HX2.out 4
  go_upto_region 40 with fail
  obtain ⟨D, hx0, hext, hfit, hX3⟩ : ∃ D : ED, D.x0 = d.x0 ∧ (∀ w0, Ext w0 d → Ext w0 D) ∧ (Fit d → Fit D) ∧ (w2.setCell ⟨X, 4, none⟩ (.slice d.p4 d.n4 d.c4)).heap[X]? = some (.cells D.es 69 (0, 0)) := ⟨{ zED 50 with p4 := d.p4, n4 := d.n4, c4 := d.c4, a4 := d.a4, z4 := d.z4 }, H0.out.symm, fun w0 h => have z := Ext.zero w0 d.x0; { z with o4 := h.o4, r4 := h.r4 }, fun f => { Fit.zero d.x0 with n4 := f.n4 }, (bset HX2.out 4 _)⟩
  have hR3 : (w2.setCell ⟨X, 4, none⟩ (.slice d.p4 d.n4 d.c4)).heap[w.heap.size + 1]? = some (.cells zero69 69 (0, 0)) := ((Below.heap_setCell _ ⟨X, 4, none⟩ _ (w.heap.size + 1) (by have := GX.out; show w.heap.size + 1 ≠ X; omega)).trans HR2.out)
  have hB3 : Below w.heap.size w (w2.setCell ⟨X, 4, none⟩ (.slice d.p4 d.n4 d.c4)) := (HB2.out.setCell (p := ⟨X, 4, none⟩) (by have := GX.out; show w.heap.size ≤ X; omega) _)
  generalize (w2.setCell ⟨X, 4, none⟩ (.slice d.p4 d.n4 d.c4)) = w3 at hX3 hR3 hB3 ⊢
  have HX3 := Lib.hid hX3
  have HR3 := Lib.hid hR3
  have HB3 := Lib.hid hB3
  have HEX := Lib.hid hext
  have HX0 := Lib.hid hx0
  have HFT := Lib.hid hfit
  clear hX3 hR3 hB3 hext hx0 hfit
  go_wp2_with (first | (refine wpList_load_row rfl 69 (.tmp 3) rfl X (by kernel_rfl) 69 D.es (0, 0) _ HX3.out Tryz.underlying69 rfl (hi69 _) ?_) | (refine wpList_store_row (o := ⟨none, .store 69 (.tmp 2) (.tmp 104), _, _, _, _⟩) rfl 69 (.tmp 2) (.tmp 104) rfl (w.heap.size + 1) D.es (by kernel_rfl) (by kernel_rfl) 69 zero69 HR3.out (hi69 _) rfl (ED.one _) ?_))
  refine bodyPost_ret (results_cell_row rfl _ _ (w.heap.size + 1) 69 D.es (0, 0) _ (by kernel_rfl) (setRow_heap w3 (w.heap.size + 1) zero69 _ 69 _ HR3.out) Tryz.underlying69 rfl (hi69 _)) rfl ?_
  have hB4 := below_setRow HB3.out (Nat.le_succ _) D.es
  exact ⟨D, rfl, HX0.out, HEX.out, HFT.out, hB4⟩
set_option maxHeartbeats 4000000 in
set_option maxRecDepth 100000 in
theorem shaped_16 (d : ED) (w : World) (hx : Ext w d) (h0 : d.x0 = 16) : Calls Tryz.prog 27 #[.agg d.es] w (Shaped d w) := by
  have H0 := Lib.hid h0
  have HX := Lib.hid hx
  clear hx h0
  go_enter Tryz.func27, Tryz.ntmps27
  have hB1 : Below w.heap.size w ((w.alloc (Obj.cells d.es 69)).alloc (Obj.cells zero69 69)) := ((Below.refl _ _).alloc (Nat.le_refl _) _).alloc (by simp) _
  have hE1 : ((w.alloc (Obj.cells d.es 69)).alloc (Obj.cells zero69 69)).heap[w.heap.size]? = some (.cells d.es 69 (0, 0)) := by
    rw [heap_alloc_old _ _ (by simp)]
    exact heap_alloc_new _ _
  have hR1 : ((w.alloc (Obj.cells d.es 69)).alloc (Obj.cells zero69 69)).heap[w.heap.size + 1]? = some (.cells zero69 69 (0, 0)) := by
    have h := heap_alloc_new (w.alloc (Obj.cells d.es 69)) (Obj.cells zero69 69)
    rwa [World.size_alloc] at h
  have hs1 : ((w.alloc (Obj.cells d.es 69)).alloc (Obj.cells zero69 69)).heap.size = w.heap.size + 2 := by simp
  go_upto_region 1 with fail
  change Code.wp _ _ _ _ ((w.alloc (Obj.cells d.es 69)).alloc (Obj.cells zero69 69))
  generalize (w.alloc (Obj.cells d.es 69)).alloc (Obj.cells zero69 69) = w1 at hB1 hE1 hR1 hs1 ⊢
  have k0 := (bcell hE1 0).trans (es0 d H0.out)
  have HS1 := Lib.hid hs1
  have HE1 := Lib.hid hE1
  have HR1 := Lib.hid hR1
  have HB1 := Lib.hid hB1
  clear hs1 hE1 hR1 hB1
  go_upto_region 2 with (refine wpList_store_row (o := ⟨none, .store 69 (.tmp 3) (.tmp 6), _, _, _, _⟩) rfl 69 (.tmp 3) (.tmp 6) rfl w1.heap.size (zED 16).es (by kernel_rfl) (by kernel_rfl) 69 zero69 (heap_alloc_new w1 _) (by kernel_rfl) rfl (ED.one _) ?_; change wpList _ _ _ _ _ ((w1.alloc (Obj.cells zero69 69)).setRow w1.heap.size _); rw [setRow_alloc])
  have hb2 := (Below.refl w1.heap.size w1).alloc (Nat.le_refl _) (Obj.cells (zED 16).es 69)
  have hX2 := heap_alloc_new w1 (Obj.cells (zED 16).es 69)
  generalize w1.alloc (Obj.cells (zED 16).es 69) = w2 at hb2 hX2 ⊢
  have hE2 := bblk hb2 HE1.out
  have hR2 := bblk hb2 HR1.out
  have hB2 := HB1.out.trans (hb2.mono HB1.out.size)
  have gX : w1.heap.size = w.heap.size + 2 := HS1.out
  generalize w1.heap.size = X at hX2 gX ⊢
  have k0 := (bcell hE2 0).trans (es0 d H0.out)
  have GX := Lib.hid gX
  have HB2 := Lib.hid hB2
  have HE2 := Lib.hid hE2
  have HR2 := Lib.hid hR2
  have HX2 := Lib.hid hX2
  clear hb2 hX2 hE2 hR2 hB2 gX HB1 HE1 HR1 HS1
  have k2 := (bcell HE2.out 2).trans (ED.g2 d)
  have x2 : w2.cell? ⟨X, 2, none⟩ = _ := (bcell HX2.out 2).trans (ED.g2 _)
  have f2 := bfrozen HX2.out 2
  go_upto_region 40 with fail
  obtain ⟨D, hx0, hext, hfit, hX3⟩ : ∃ D : ED, D.x0 = d.x0 ∧ (∀ w0, Ext w0 d → Ext w0 D) ∧ (Fit d → Fit D) ∧ (w2.setCell ⟨X, 2, none⟩ (.slice d.p2 d.n2 d.c2)).heap[X]? = some (.cells D.es 69 (0, 0)) := ⟨{ zED 16 with p2 := d.p2, n2 := d.n2, c2 := d.c2, t2 := d.t2 }, H0.out.symm, fun w0 h => have z := Ext.zero w0 d.x0; { z with o2 := h.o2, r2 := h.r2, z2 := h.z2 }, fun f => { Fit.zero d.x0 with n2 := f.n2 }, (bset HX2.out 2 _)⟩
  have hR3 : (w2.setCell ⟨X, 2, none⟩ (.slice d.p2 d.n2 d.c2)).heap[w.heap.size + 1]? = some (.cells zero69 69 (0, 0)) := ((Below.heap_setCell _ ⟨X, 2, none⟩ _ (w.heap.size + 1) (by have := GX.out; show w.heap.size + 1 ≠ X; omega)).trans HR2.out)
  have hB3 : Below w.heap.size w (w2.setCell ⟨X, 2, none⟩ (.slice d.p2 d.n2 d.c2)) := (HB2.out.setCell (p := ⟨X, 2, none⟩) (by have := GX.out; show w.heap.size ≤ X; omega) _)
  generalize (w2.setCell ⟨X, 2, none⟩ (.slice d.p2 d.n2 d.c2)) = w3 at hX3 hR3 hB3 ⊢
  have HX3 := Lib.hid hX3
  have HR3 := Lib.hid hR3
  have HB3 := Lib.hid hB3
  have HEX := Lib.hid hext
  have HX0 := Lib.hid hx0
  have HFT := Lib.hid hfit
  clear hX3 hR3 hB3 hext hx0 hfit
  go_wp2_with (first | (refine wpList_load_row rfl 69 (.tmp 3) rfl X (by kernel_rfl) 69 D.es (0, 0) _ HX3.out Tryz.underlying69 rfl (hi69 _) ?_) | (refine wpList_store_row (o := ⟨none, .store 69 (.tmp 2) (.tmp 104), _, _, _, _⟩) rfl 69 (.tmp 2) (.tmp 104) rfl (w.heap.size + 1) D.es (by kernel_rfl) (by kernel_rfl) 69 zero69 HR3.out (hi69 _) rfl (ED.one _) ?_))
  refine bodyPost_ret (results_cell_row rfl _ _ (w.heap.size + 1) 69 D.es (0, 0) _ (by kernel_rfl) (setRow_heap w3 (w.heap.size + 1) zero69 _ 69 _ HR3.out) Tryz.underlying69 rfl (hi69 _)) rfl ?_
  have hB4 := below_setRow HB3.out (Nat.le_succ _) D.es
  exact ⟨D, rfl, HX0.out, HEX.out, HFT.out, hB4⟩
set_option maxHeartbeats 4000000 in
set_option maxRecDepth 100000 in
theorem shaped_47 (d : ED) (w : World) (hx : Ext w d) (h0 : d.x0 = 47) : Calls Tryz.prog 27 #[.agg d.es] w (Shaped d w) := by
  have H0 := Lib.hid h0
  have HX := Lib.hid hx
  clear hx h0
  go_enter Tryz.func27, Tryz.ntmps27
  have hB1 : Below w.heap.size w ((w.alloc (Obj.cells d.es 69)).alloc (Obj.cells zero69 69)) := ((Below.refl _ _).alloc (Nat.le_refl _) _).alloc (by simp) _
  have hE1 : ((w.alloc (Obj.cells d.es 69)).alloc (Obj.cells zero69 69)).heap[w.heap.size]? = some (.cells d.es 69 (0, 0)) := by
    rw [heap_alloc_old _ _ (by simp)]
    exact heap_alloc_new _ _
  have hR1 : ((w.alloc (Obj.cells d.es 69)).alloc (Obj.cells zero69 69)).heap[w.heap.size + 1]? = some (.cells zero69 69 (0, 0)) := by
    have h := heap_alloc_new (w.alloc (Obj.cells d.es 69)) (Obj.cells zero69 69)
    rwa [World.size_alloc] at h
  have hs1 : ((w.alloc (Obj.cells d.es 69)).alloc (Obj.cells zero69 69)).heap.size = w.heap.size + 2 := by simp
  go_upto_region 1 with fail
  change Code.wp _ _ _ _ ((w.alloc (Obj.cells d.es 69)).alloc (Obj.cells zero69 69))
  generalize (w.alloc (Obj.cells d.es 69)).alloc (Obj.cells zero69 69) = w1 at hB1 hE1 hR1 hs1 ⊢
  have k0 := (bcell hE1 0).trans (es0 d H0.out)
  have HS1 := Lib.hid hs1
  have HE1 := Lib.hid hE1
  have HR1 := Lib.hid hR1
  have HB1 := Lib.hid hB1
  clear hs1 hE1 hR1 hB1
  go_upto_region 2 with (refine wpList_store_row (o := ⟨none, .store 69 (.tmp 3) (.tmp 6), _, _, _, _⟩) rfl 69 (.tmp 3) (.tmp 6) rfl w1.heap.size (zED 47).es (by kernel_rfl) (by kernel_rfl) 69 zero69 (heap_alloc_new w1 _) (by kernel_rfl) rfl (ED.one _) ?_; change wpList _ _ _ _ _ ((w1.alloc (Obj.cells zero69 69)).setRow w1.heap.size _); rw [setRow_alloc])
  have hb2 := (Below.refl w1.heap.size w1).alloc (Nat.le_refl _) (Obj.cells (zED 47).es 69)
  have hX2 := heap_alloc_new w1 (Obj.cells (zED 47).es 69)
  generalize w1.alloc (Obj.cells (zED 47).es 69) = w2 at hb2 hX2 ⊢
  have hE2 := bblk hb2 HE1.out
  have hR2 := bblk hb2 HR1.out
  have hB2 := HB1.out.trans (hb2.mono HB1.out.size)
  have gX : w1.heap.size = w.heap.size + 2 := HS1.out
  generalize w1.heap.size = X at hX2 gX ⊢
  have k0 := (bcell hE2 0).trans (es0 d H0.out)
  have GX := Lib.hid gX
  have HB2 := Lib.hid hB2
  have HE2 := Lib.hid hE2
  have HR2 := Lib.hid hR2
  have HX2 := Lib.hid hX2
  clear hb2 hX2 hE2 hR2 hB2 gX HB1 HE1 HR1 HS1
  have k2 := (bcell HE2.out 2).trans (ED.g2 d)
  have x2 : w2.cell? ⟨X, 2, none⟩ = _ := (bcell HX2.out 2).trans (ED.g2 _)
  have f2 := bfrozen HX2.out 2
  go_upto_region 40 with fail
  obtain ⟨D, hx0, hext, hfit, hX3⟩ : ∃ D : ED, D.x0 = d.x0 ∧ (∀ w0, Ext w0 d → Ext w0 D) ∧ (Fit d → Fit D) ∧ (w2.setCell ⟨X, 2, none⟩ (.slice d.p2 d.n2 d.c2)).heap[X]? = some (.cells D.es 69 (0, 0)) := ⟨{ zED 47 with p2 := d.p2, n2 := d.n2, c2 := d.c2, t2 := d.t2 }, H0.out.symm, fun w0 h => have z := Ext.zero w0 d.x0; { z with o2 := h.o2, r2 := h.r2, z2 := h.z2 }, fun f => { Fit.zero d.x0 with n2 := f.n2 }, (bset HX2.out 2 _)⟩
  have hR3 : (w2.setCell ⟨X, 2, none⟩ (.slice d.p2 d.n2 d.c2)).heap[w.heap.size + 1]? = some (.cells zero69 69 (0, 0)) := ((Below.heap_setCell _ ⟨X, 2, none⟩ _ (w.heap.size + 1) (by have := GX.out; show w.heap.size + 1 ≠ X; omega)).trans HR2.out)
  have hB3 : Below w.heap.size w (w2.setCell ⟨X, 2, none⟩ (.slice d.p2 d.n2 d.c2)) := (HB2.out.setCell (p := ⟨X, 2, none⟩) (by have := GX.out; show w.heap.size ≤ X; omega) _)
  generalize (w2.setCell ⟨X, 2, none⟩ (.slice d.p2 d.n2 d.c2)) = w3 at hX3 hR3 hB3 ⊢
  have HX3 := Lib.hid hX3
  have HR3 := Lib.hid hR3
  have HB3 := Lib.hid hB3
  have HEX := Lib.hid hext
  have HX0 := Lib.hid hx0
  have HFT := Lib.hid hfit
  clear hX3 hR3 hB3 hext hx0 hfit
  go_wp2_with (first | (refine wpList_load_row rfl 69 (.tmp 3) rfl X (by kernel_rfl) 69 D.es (0, 0) _ HX3.out Tryz.underlying69 rfl (hi69 _) ?_) | (refine wpList_store_row (o := ⟨none, .store 69 (.tmp 2) (.tmp 104), _, _, _, _⟩) rfl 69 (.tmp 2) (.tmp 104) rfl (w.heap.size + 1) D.es (by kernel_rfl) (by kernel_rfl) 69 zero69 HR3.out (hi69 _) rfl (ED.one _) ?_))
  refine bodyPost_ret (results_cell_row rfl _ _ (w.heap.size + 1) 69 D.es (0, 0) _ (by kernel_rfl) (setRow_heap w3 (w.heap.size + 1) zero69 _ 69 _ HR3.out) Tryz.underlying69 rfl (hi69 _)) rfl ?_
  have hB4 := below_setRow HB3.out (Nat.le_succ _) D.es
  exact ⟨D, rfl, HX0.out, HEX.out, HFT.out, hB4⟩
set_option maxHeartbeats 4000000 in
set_option maxRecDepth 100000 in
theorem shaped_23 (d : ED) (w : World) (hx : Ext w d) (h0 : d.x0 = 23) : Calls Tryz.prog 27 #[.agg d.es] w (Shaped d w) := by
  have H0 := Lib.hid h0
  have HX := Lib.hid hx
  clear hx h0
  go_enter Tryz.func27, Tryz.ntmps27
  have hB1 : Below w.heap.size w ((w.alloc (Obj.cells d.es 69)).alloc (Obj.cells zero69 69)) := ((Below.refl _ _).alloc (Nat.le_refl _) _).alloc (by simp) _
  have hE1 : ((w.alloc (Obj.cells d.es 69)).alloc (Obj.cells zero69 69)).heap[w.heap.size]? = some (.cells d.es 69 (0, 0)) := by
    rw [heap_alloc_old _ _ (by simp)]
    exact heap_alloc_new _ _
  have hR1 : ((w.alloc (Obj.cells d.es 69)).alloc (Obj.cells zero69 69)).heap[w.heap.size + 1]? = some (.cells zero69 69 (0, 0)) := by
    have h := heap_alloc_new (w.alloc (Obj.cells d.es 69)) (Obj.cells zero69 69)
    rwa [World.size_alloc] at h
  have hs1 : ((w.alloc (Obj.cells d.es 69)).alloc (Obj.cells zero69 69)).heap.size = w.heap.size + 2 := by simp
  go_upto_region 1 with fail
  change Code.wp _ _ _ _ ((w.alloc (Obj.cells d.es 69)).alloc (Obj.cells zero69 69))
  generalize (w.alloc (Obj.cells d.es 69)).alloc (Obj.cells zero69 69) = w1 at hB1 hE1 hR1 hs1 ⊢
  have k0 := (bcell hE1 0).trans (es0 d H0.out)
  have HS1 := Lib.hid hs1
  have HE1 := Lib.hid hE1
  have HR1 := Lib.hid hR1
  have HB1 := Lib.hid hB1
  clear hs1 hE1 hR1 hB1
  go_upto_region 2 with (refine wpList_store_row (o := ⟨none, .store 69 (.tmp 3) (.tmp 6), _, _, _, _⟩) rfl 69 (.tmp 3) (.tmp 6) rfl w1.heap.size (zED 23).es (by kernel_rfl) (by kernel_rfl) 69 zero69 (heap_alloc_new w1 _) (by kernel_rfl) rfl (ED.one _) ?_; change wpList _ _ _ _ _ ((w1.alloc (Obj.cells zero69 69)).setRow w1.heap.size _); rw [setRow_alloc])
  have hb2 := (Below.refl w1.heap.size w1).alloc (Nat.le_refl _) (Obj.cells (zED 23).es 69)
  have hX2 := heap_alloc_new w1 (Obj.cells (zED 23).es 69)
  generalize w1.alloc (Obj.cells (zED 23).es 69) = w2 at hb2 hX2 ⊢
  have hE2 := bblk hb2 HE1.out
  have hR2 := bblk hb2 HR1.out
  have hB2 := HB1.out.trans (hb2.mono HB1.out.size)
  have gX : w1.heap.size = w.heap.size + 2 := HS1.out
  generalize w1.heap.size = X at hX2 gX ⊢
  have k0 := (bcell hE2 0).trans (es0 d H0.out)
  have GX := Lib.hid gX
  have HB2 := Lib.hid hB2
  have HE2 := Lib.hid hE2
  have HR2 := Lib.hid hR2
  have HX2 := Lib.hid hX2
  clear hb2 hX2 hE2 hR2 hB2 gX HB1 HE1 HR1 HS1
  have x5 : w2.cell? ⟨X, 5, none⟩ = _ := (bcell HX2.out 5).trans (ED.g5 _)
  have f5 := bfrozen HX2.out 5
  go_upto_region 40 with fail
  obtain ⟨D, hx0, hext, hfit, hX3⟩ : ∃ D : ED, D.x0 = d.x0 ∧ (∀ w0, Ext w0 d → Ext w0 D) ∧ (Fit d → Fit D) ∧ (w2.setCell ⟨X, 5, none⟩ (.bool true)).heap[X]? = some (.cells D.es 69 (0, 0)) := ⟨{ zED 23 with b5 := true }, H0.out.symm, fun w0 h => have z := Ext.zero w0 d.x0; { z with }, fun f => { Fit.zero d.x0 with }, (bset HX2.out 5 _)⟩
  have hR3 : (w2.setCell ⟨X, 5, none⟩ (.bool true)).heap[w.heap.size + 1]? = some (.cells zero69 69 (0, 0)) := ((Below.heap_setCell _ ⟨X, 5, none⟩ _ (w.heap.size + 1) (by have := GX.out; show w.heap.size + 1 ≠ X; omega)).trans HR2.out)
  have hB3 : Below w.heap.size w (w2.setCell ⟨X, 5, none⟩ (.bool true)) := (HB2.out.setCell (p := ⟨X, 5, none⟩) (by have := GX.out; show w.heap.size ≤ X; omega) _)
  generalize (w2.setCell ⟨X, 5, none⟩ (.bool true)) = w3 at hX3 hR3 hB3 ⊢
  have HX3 := Lib.hid hX3
  have HR3 := Lib.hid hR3
  have HB3 := Lib.hid hB3
  have HEX := Lib.hid hext
  have HX0 := Lib.hid hx0
  have HFT := Lib.hid hfit
  clear hX3 hR3 hB3 hext hx0 hfit
  go_wp2_with (first | (refine wpList_load_row rfl 69 (.tmp 3) rfl X (by kernel_rfl) 69 D.es (0, 0) _ HX3.out Tryz.underlying69 rfl (hi69 _) ?_) | (refine wpList_store_row (o := ⟨none, .store 69 (.tmp 2) (.tmp 104), _, _, _, _⟩) rfl 69 (.tmp 2) (.tmp 104) rfl (w.heap.size + 1) D.es (by kernel_rfl) (by kernel_rfl) 69 zero69 HR3.out (hi69 _) rfl (ED.one _) ?_))
  refine bodyPost_ret (results_cell_row rfl _ _ (w.heap.size + 1) 69 D.es (0, 0) _ (by kernel_rfl) (setRow_heap w3 (w.heap.size + 1) zero69 _ 69 _ HR3.out) Tryz.underlying69 rfl (hi69 _)) rfl ?_
  have hB4 := below_setRow HB3.out (Nat.le_succ _) D.es
  exact ⟨D, rfl, HX0.out, HEX.out, HFT.out, hB4⟩
set_option maxHeartbeats 4000000 in
set_option maxRecDepth 100000 in
theorem shaped_49 (d : ED) (w : World) (hx : Ext w d) (h0 : d.x0 = 49) : Calls Tryz.prog 27 #[.agg d.es] w (Shaped d w) := by
  have H0 := Lib.hid h0
  have HX := Lib.hid hx
  clear hx h0
  go_enter Tryz.func27, Tryz.ntmps27
  have hB1 : Below w.heap.size w ((w.alloc (Obj.cells d.es 69)).alloc (Obj.cells zero69 69)) := ((Below.refl _ _).alloc (Nat.le_refl _) _).alloc (by simp) _
  have hE1 : ((w.alloc (Obj.cells d.es 69)).alloc (Obj.cells zero69 69)).heap[w.heap.size]? = some (.cells d.es 69 (0, 0)) := by
    rw [heap_alloc_old _ _ (by simp)]
    exact heap_alloc_new _ _
  have hR1 : ((w.alloc (Obj.cells d.es 69)).alloc (Obj.cells zero69 69)).heap[w.heap.size + 1]? = some (.cells zero69 69 (0, 0)) := by
    have h := heap_alloc_new (w.alloc (Obj.cells d.es 69)) (Obj.cells zero69 69)
    rwa [World.size_alloc] at h
  have hs1 : ((w.alloc (Obj.cells d.es 69)).alloc (Obj.cells zero69 69)).heap.size = w.heap.size + 2 := by simp
  go_upto_region 1 with fail
  change Code.wp _ _ _ _ ((w.alloc (Obj.cells d.es 69)).alloc (Obj.cells zero69 69))
  generalize (w.alloc (Obj.cells d.es 69)).alloc (Obj.cells zero69 69) = w1 at hB1 hE1 hR1 hs1 ⊢
  have k0 := (bcell hE1 0).trans (es0 d H0.out)
  have HS1 := Lib.hid hs1
  have HE1 := Lib.hid hE1
  have HR1 := Lib.hid hR1
  have HB1 := Lib.hid hB1
  clear hs1 hE1 hR1 hB1
  go_upto_region 2 with (refine wpList_store_row (o := ⟨none, .store 69 (.tmp 3) (.tmp 6), _, _, _, _⟩) rfl 69 (.tmp 3) (.tmp 6) rfl w1.heap.size (zED 49).es (by kernel_rfl) (by kernel_rfl) 69 zero69 (heap_alloc_new w1 _) (by kernel_rfl) rfl (ED.one _) ?_; change wpList _ _ _ _ _ ((w1.alloc (Obj.cells zero69 69)).setRow w1.heap.size _); rw [setRow_alloc])
  have hb2 := (Below.refl w1.heap.size w1).alloc (Nat.le_refl _) (Obj.cells (zED 49).es 69)
  have hX2 := heap_alloc_new w1 (Obj.cells (zED 49).es 69)
  generalize w1.alloc (Obj.cells (zED 49).es 69) = w2 at hb2 hX2 ⊢
  have hE2 := bblk hb2 HE1.out
  have hR2 := bblk hb2 HR1.out
  have hB2 := HB1.out.trans (hb2.mono HB1.out.size)
  have gX : w1.heap.size = w.heap.size + 2 := HS1.out
  generalize w1.heap.size = X at hX2 gX ⊢
  have k0 := (bcell hE2 0).trans (es0 d H0.out)
  have GX := Lib.hid gX
  have HB2 := Lib.hid hB2
  have HE2 := Lib.hid hE2
  have HR2 := Lib.hid hR2
  have HX2 := Lib.hid hX2
  clear hb2 hX2 hE2 hR2 hB2 gX HB1 HE1 HR1 HS1
  have x5 : w2.cell? ⟨X, 5, none⟩ = _ := (bcell HX2.out 5).trans (ED.g5 _)
  have f5 := bfrozen HX2.out 5
  go_upto_region 40 with fail
  obtain ⟨D, hx0, hext, hfit, hX3⟩ : ∃ D : ED, D.x0 = d.x0 ∧ (∀ w0, Ext w0 d → Ext w0 D) ∧ (Fit d → Fit D) ∧ (w2.setCell ⟨X, 5, none⟩ (.bool true)).heap[X]? = some (.cells D.es 69 (0, 0)) := ⟨{ zED 49 with b5 := true }, H0.out.symm, fun w0 h => have z := Ext.zero w0 d.x0; { z with }, fun f => { Fit.zero d.x0 with }, (bset HX2.out 5 _)⟩
  have hR3 : (w2.setCell ⟨X, 5, none⟩ (.bool true)).heap[w.heap.size + 1]? = some (.cells zero69 69 (0, 0)) := ((Below.heap_setCell _ ⟨X, 5, none⟩ _ (w.heap.size + 1) (by have := GX.out; show w.heap.size + 1 ≠ X; omega)).trans HR2.out)
  have hB3 : Below w.heap.size w (w2.setCell ⟨X, 5, none⟩ (.bool true)) := (HB2.out.setCell (p := ⟨X, 5, none⟩) (by have := GX.out; show w.heap.size ≤ X; omega) _)
  generalize (w2.setCell ⟨X, 5, none⟩ (.bool true)) = w3 at hX3 hR3 hB3 ⊢
  have HX3 := Lib.hid hX3
  have HR3 := Lib.hid hR3
  have HB3 := Lib.hid hB3
  have HEX := Lib.hid hext
  have HX0 := Lib.hid hx0
  have HFT := Lib.hid hfit
  clear hX3 hR3 hB3 hext hx0 hfit
  go_wp2_with (first | (refine wpList_load_row rfl 69 (.tmp 3) rfl X (by kernel_rfl) 69 D.es (0, 0) _ HX3.out Tryz.underlying69 rfl (hi69 _) ?_) | (refine wpList_store_row (o := ⟨none, .store 69 (.tmp 2) (.tmp 104), _, _, _, _⟩) rfl 69 (.tmp 2) (.tmp 104) rfl (w.heap.size + 1) D.es (by kernel_rfl) (by kernel_rfl) 69 zero69 HR3.out (hi69 _) rfl (ED.one _) ?_))
  refine bodyPost_ret (results_cell_row rfl _ _ (w.heap.size + 1) 69 D.es (0, 0) _ (by kernel_rfl) (setRow_heap w3 (w.heap.size + 1) zero69 _ 69 _ HR3.out) Tryz.underlying69 rfl (hi69 _)) rfl ?_
  have hB4 := below_setRow HB3.out (Nat.le_succ _) D.es
  exact ⟨D, rfl, HX0.out, HEX.out, HFT.out, hB4⟩
set_option maxHeartbeats 4000000 in
set_option maxRecDepth 100000 in
theorem shaped_48 (d : ED) (w : World) (hx : Ext w d) (h0 : d.x0 = 48) : Calls Tryz.prog 27 #[.agg d.es] w (Shaped d w) := by
  have H0 := Lib.hid h0
  have HX := Lib.hid hx
  clear hx h0
  go_enter Tryz.func27, Tryz.ntmps27
  have hB1 : Below w.heap.size w ((w.alloc (Obj.cells d.es 69)).alloc (Obj.cells zero69 69)) := ((Below.refl _ _).alloc (Nat.le_refl _) _).alloc (by simp) _
  have hE1 : ((w.alloc (Obj.cells d.es 69)).alloc (Obj.cells zero69 69)).heap[w.heap.size]? = some (.cells d.es 69 (0, 0)) := by
    rw [heap_alloc_old _ _ (by simp)]
    exact heap_alloc_new _ _
  have hR1 : ((w.alloc (Obj.cells d.es 69)).alloc (Obj.cells zero69 69)).heap[w.heap.size + 1]? = some (.cells zero69 69 (0, 0)) := by
    have h := heap_alloc_new (w.alloc (Obj.cells d.es 69)) (Obj.cells zero69 69)
    rwa [World.size_alloc] at h
  have hs1 : ((w.alloc (Obj.cells d.es 69)).alloc (Obj.cells zero69 69)).heap.size = w.heap.size + 2 := by simp
  go_upto_region 1 with fail
  change Code.wp _ _ _ _ ((w.alloc (Obj.cells d.es 69)).alloc (Obj.cells zero69 69))
  generalize (w.alloc (Obj.cells d.es 69)).alloc (Obj.cells zero69 69) = w1 at hB1 hE1 hR1 hs1 ⊢
  have k0 := (bcell hE1 0).trans (es0 d H0.out)
  have HS1 := Lib.hid hs1
  have HE1 := Lib.hid hE1
  have HR1 := Lib.hid hR1
  have HB1 := Lib.hid hB1
  clear hs1 hE1 hR1 hB1
  go_upto_region 2 with (refine wpList_store_row (o := ⟨none, .store 69 (.tmp 3) (.tmp 6), _, _, _, _⟩) rfl 69 (.tmp 3) (.tmp 6) rfl w1.heap.size (zED 48).es (by kernel_rfl) (by kernel_rfl) 69 zero69 (heap_alloc_new w1 _) (by kernel_rfl) rfl (ED.one _) ?_; change wpList _ _ _ _ _ ((w1.alloc (Obj.cells zero69 69)).setRow w1.heap.size _); rw [setRow_alloc])
  have hb2 := (Below.refl w1.heap.size w1).alloc (Nat.le_refl _) (Obj.cells (zED 48).es 69)
  have hX2 := heap_alloc_new w1 (Obj.cells (zED 48).es 69)
  generalize w1.alloc (Obj.cells (zED 48).es 69) = w2 at hb2 hX2 ⊢
  have hE2 := bblk hb2 HE1.out
  have hR2 := bblk hb2 HR1.out
  have hB2 := HB1.out.trans (hb2.mono HB1.out.size)
  have gX : w1.heap.size = w.heap.size + 2 := HS1.out
  generalize w1.heap.size = X at hX2 gX ⊢
  have k0 := (bcell hE2 0).trans (es0 d H0.out)
  have GX := Lib.hid gX
  have HB2 := Lib.hid hB2
  have HE2 := Lib.hid hE2
  have HR2 := Lib.hid hR2
  have HX2 := Lib.hid hX2
  clear hb2 hX2 hE2 hR2 hB2 gX HB1 HE1 HR1 HS1
  have k12 := (bcell HE2.out 12).trans (ED.g12 d)
  have x12 : w2.cell? ⟨X, 12, none⟩ = _ := (bcell HX2.out 12).trans (ED.g12 _)
  have f12 := bfrozen HX2.out 12
  go_upto_region 40 with fail
  obtain ⟨D, hx0, hext, hfit, hX3⟩ : ∃ D : ED, D.x0 = d.x0 ∧ (∀ w0, Ext w0 d → Ext w0 D) ∧ (Fit d → Fit D) ∧ (w2.setCell ⟨X, 12, none⟩ (.slice d.p12 d.n12 d.c12)).heap[X]? = some (.cells D.es 69 (0, 0)) := ⟨{ zED 48 with p12 := d.p12, n12 := d.n12, c12 := d.c12, a12 := d.a12, z12 := d.z12 }, H0.out.symm, fun w0 h => have z := Ext.zero w0 d.x0; { z with o12 := h.o12, r12 := h.r12, z12 := h.z12 }, fun f => { Fit.zero d.x0 with n12 := f.n12 }, (bset HX2.out 12 _)⟩
  have hR3 : (w2.setCell ⟨X, 12, none⟩ (.slice d.p12 d.n12 d.c12)).heap[w.heap.size + 1]? = some (.cells zero69 69 (0, 0)) := ((Below.heap_setCell _ ⟨X, 12, none⟩ _ (w.heap.size + 1) (by have := GX.out; show w.heap.size + 1 ≠ X; omega)).trans HR2.out)
  have hB3 : Below w.heap.size w (w2.setCell ⟨X, 12, none⟩ (.slice d.p12 d.n12 d.c12)) := (HB2.out.setCell (p := ⟨X, 12, none⟩) (by have := GX.out; show w.heap.size ≤ X; omega) _)
  generalize (w2.setCell ⟨X, 12, none⟩ (.slice d.p12 d.n12 d.c12)) = w3 at hX3 hR3 hB3 ⊢
  have HX3 := Lib.hid hX3
  have HR3 := Lib.hid hR3
  have HB3 := Lib.hid hB3
  have HEX := Lib.hid hext
  have HX0 := Lib.hid hx0
  have HFT := Lib.hid hfit
  clear hX3 hR3 hB3 hext hx0 hfit
  go_wp2_with (first | (refine wpList_load_row rfl 69 (.tmp 3) rfl X (by kernel_rfl) 69 D.es (0, 0) _ HX3.out Tryz.underlying69 rfl (hi69 _) ?_) | (refine wpList_store_row (o := ⟨none, .store 69 (.tmp 2) (.tmp 104), _, _, _, _⟩) rfl 69 (.tmp 2) (.tmp 104) rfl (w.heap.size + 1) D.es (by kernel_rfl) (by kernel_rfl) 69 zero69 HR3.out (hi69 _) rfl (ED.one _) ?_))
  refine bodyPost_ret (results_cell_row rfl _ _ (w.heap.size + 1) 69 D.es (0, 0) _ (by kernel_rfl) (setRow_heap w3 (w.heap.size + 1) zero69 _ 69 _ HR3.out) Tryz.underlying69 rfl (hi69 _)) rfl ?_
  have hB4 := below_setRow HB3.out (Nat.le_succ _) D.es
  exact ⟨D, rfl, HX0.out, HEX.out, HFT.out, hB4⟩
set_option maxHeartbeats 4000000 in
set_option maxRecDepth 100000 in
theorem shaped_65281 (d : ED) (w : World) (hx : Ext w d) (h0 : d.x0 = 65281) : Calls Tryz.prog 27 #[.agg d.es] w (Shaped d w) := by
  have H0 := Lib.hid h0
  have HX := Lib.hid hx
  clear hx h0
  go_enter Tryz.func27, Tryz.ntmps27
  have hB1 : Below w.heap.size w ((w.alloc (Obj.cells d.es 69)).alloc (Obj.cells zero69 69)) := ((Below.refl _ _).alloc (Nat.le_refl _) _).alloc (by simp) _
  have hE1 : ((w.alloc (Obj.cells d.es 69)).alloc (Obj.cells zero69 69)).heap[w.heap.size]? = some (.cells d.es 69 (0, 0)) := by
    rw [heap_alloc_old _ _ (by simp)]
    exact heap_alloc_new _ _
  have hR1 : ((w.alloc (Obj.cells d.es 69)).alloc (Obj.cells zero69 69)).heap[w.heap.size + 1]? = some (.cells zero69 69 (0, 0)) := by
    have h := heap_alloc_new (w.alloc (Obj.cells d.es 69)) (Obj.cells zero69 69)
    rwa [World.size_alloc] at h
  have hs1 : ((w.alloc (Obj.cells d.es 69)).alloc (Obj.cells zero69 69)).heap.size = w.heap.size + 2 := by simp
  go_upto_region 1 with fail
  change Code.wp _ _ _ _ ((w.alloc (Obj.cells d.es 69)).alloc (Obj.cells zero69 69))
  generalize (w.alloc (Obj.cells d.es 69)).alloc (Obj.cells zero69 69) = w1 at hB1 hE1 hR1 hs1 ⊢
  have k0 := (bcell hE1 0).trans (es0 d H0.out)
  have HS1 := Lib.hid hs1
  have HE1 := Lib.hid hE1
  have HR1 := Lib.hid hR1
  have HB1 := Lib.hid hB1
  clear hs1 hE1 hR1 hB1
  go_upto_region 2 with (refine wpList_store_row (o := ⟨none, .store 69 (.tmp 3) (.tmp 6), _, _, _, _⟩) rfl 69 (.tmp 3) (.tmp 6) rfl w1.heap.size (zED 65281).es (by kernel_rfl) (by kernel_rfl) 69 zero69 (heap_alloc_new w1 _) (by kernel_rfl) rfl (ED.one _) ?_; change wpList _ _ _ _ _ ((w1.alloc (Obj.cells zero69 69)).setRow w1.heap.size _); rw [setRow_alloc])
  have hb2 := (Below.refl w1.heap.size w1).alloc (Nat.le_refl _) (Obj.cells (zED 65281).es 69)
  have hX2 := heap_alloc_new w1 (Obj.cells (zED 65281).es 69)
  generalize w1.alloc (Obj.cells (zED 65281).es 69) = w2 at hb2 hX2 ⊢
  have hE2 := bblk hb2 HE1.out
  have hR2 := bblk hb2 HR1.out
  have hB2 := HB1.out.trans (hb2.mono HB1.out.size)
  have gX : w1.heap.size = w.heap.size + 2 := HS1.out
  generalize w1.heap.size = X at hX2 gX ⊢
  have k0 := (bcell hE2 0).trans (es0 d H0.out)
  have GX := Lib.hid gX
  have HB2 := Lib.hid hB2
  have HE2 := Lib.hid hE2
  have HR2 := Lib.hid hR2
  have HX2 := Lib.hid hX2
  clear hb2 hX2 hE2 hR2 hB2 gX HB1 HE1 HR1 HS1
  have k6 := (bcell HE2.out 6).trans (ED.g6 d)
  have x6 : w2.cell? ⟨X, 6, none⟩ = _ := (bcell HX2.out 6).trans (ED.g6 _)
  have f6 := bfrozen HX2.out 6
  go_upto_region 40 with fail
  obtain ⟨D, hx0, hext, hfit, hX3⟩ : ∃ D : ED, D.x0 = d.x0 ∧ (∀ w0, Ext w0 d → Ext w0 D) ∧ (Fit d → Fit D) ∧ (w2.setCell ⟨X, 6, none⟩ (.int .u32 (bits .and .u32 d.x6 255))).heap[X]? = some (.cells D.es 69 (0, 0)) := ⟨{ zED 65281 with x6 := bits .and .u32 d.x6 255 }, H0.out.symm, fun w0 h => have z := Ext.zero w0 d.x0; { z with }, fun f => { Fit.zero d.x0 with }, (bset HX2.out 6 _)⟩
  have hR3 : (w2.setCell ⟨X, 6, none⟩ (.int .u32 (bits .and .u32 d.x6 255))).heap[w.heap.size + 1]? = some (.cells zero69 69 (0, 0)) := ((Below.heap_setCell _ ⟨X, 6, none⟩ _ (w.heap.size + 1) (by have := GX.out; show w.heap.size + 1 ≠ X; omega)).trans HR2.out)
  have hB3 : Below w.heap.size w (w2.setCell ⟨X, 6, none⟩ (.int .u32 (bits .and .u32 d.x6 255))) := (HB2.out.setCell (p := ⟨X, 6, none⟩) (by have := GX.out; show w.heap.size ≤ X; omega) _)
  generalize (w2.setCell ⟨X, 6, none⟩ (.int .u32 (bits .and .u32 d.x6 255))) = w3 at hX3 hR3 hB3 ⊢
  have HX3 := Lib.hid hX3
  have HR3 := Lib.hid hR3
  have HB3 := Lib.hid hB3
  have HEX := Lib.hid hext
  have HX0 := Lib.hid hx0
  have HFT := Lib.hid hfit
  clear hX3 hR3 hB3 hext hx0 hfit
  go_wp2_with (first | (refine wpList_load_row rfl 69 (.tmp 3) rfl X (by kernel_rfl) 69 D.es (0, 0) _ HX3.out Tryz.underlying69 rfl (hi69 _) ?_) | (refine wpList_store_row (o := ⟨none, .store 69 (.tmp 2) (.tmp 104), _, _, _, _⟩) rfl 69 (.tmp 2) (.tmp 104) rfl (w.heap.size + 1) D.es (by kernel_rfl) (by kernel_rfl) 69 zero69 HR3.out (hi69 _) rfl (ED.one _) ?_))
  refine bodyPost_ret (results_cell_row rfl _ _ (w.heap.size + 1) 69 D.es (0, 0) _ (by kernel_rfl) (setRow_heap w3 (w.heap.size + 1) zero69 _ 69 _ HR3.out) Tryz.underlying69 rfl (hi69 _)) rfl ?_
  have hB4 := below_setRow HB3.out (Nat.le_succ _) D.es
  exact ⟨D, rfl, HX0.out, HEX.out, HFT.out, hB4⟩
end Go.Proofs.YtgnmgkpfgmpdfaaGreatDoor
