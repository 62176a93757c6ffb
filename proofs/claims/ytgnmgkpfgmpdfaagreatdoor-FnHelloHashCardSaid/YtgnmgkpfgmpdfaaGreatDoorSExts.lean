/- impl.one of the kept types. -/
import Derived.Test.YtgnmgkpfgmpdfaaGreatDoorSFitB
import Derived.Test.YtgnmgkpfgmpdfaaGreatDoorSKs
set_option linter.unusedVariables false
set_option linter.unusedSimpArgs false
section
namespace Go.Proofs.YtgnmgkpfgmpdfaaGreatDoor
open Go.RowKit

/-- An extension is made. -/
def OneOk (f : Nat) (d : ED) (w : World) : Prop := Calls Tryz.prog f #[.agg d.es] w fun e w' => ∃ t v, e = .returned (.iface t v) ∧ Below w.heap.size w w'
theorem es0 (d : ED) {x : Int} (h : d.x0 = x) : d.es[0]? = some (.int .u16 x) := by rw [← h]; rfl

set_option maxHeartbeats 2000000 in
set_option maxRecDepth 100000 in
theorem one111_51 (d : ED) (w : World) (h0 : d.x0 = 51) (hmk : ∀ w1, Below w.heap.size w w1 → MkOk 118 d.es w1) : OneOk 111 d w := by
  have HMK := Lib.hid hmk
  have H0 := Lib.hid h0
  unfold OneOk
  clear hmk h0
  go_enter Tryz.func111, Tryz.ntmps111
  go_upto_region 1 with fail
  change Code.wp _ _ _ _ (w.alloc (Obj.cells d.es 69))
  have hB1 : Below w.heap.size w (w.alloc (Obj.cells d.es 69)) := (Below.refl _ _).alloc (Nat.le_refl _) _
  have hM1 := heap_alloc_new w (Obj.cells d.es 69)
  generalize w.alloc (Obj.cells d.es 69) = w1 at hB1 hM1 ⊢
  have k0 := (bcell hM1 0).trans (es0 d H0.out)
  have HB1 := Lib.hid hB1
  have HM1 := Lib.hid hM1
  clear hB1 hM1
  go_wp2_with (with_reducible refine wpList_load_row rfl 69 (.tmp 1) rfl w.heap.size (by kernel_rfl) 69 d.es (0, 0) _ HM1.out Tryz.underlying69 rfl (hi69 d) ?_)
  refine (HMK.out w1 HB1.out).mono ?_
  rintro e w2 ⟨v, rfl, hb2⟩
  have HB2 := Lib.hid (HB1.out.trans (hb2.mono HB1.out.size))
  clear hb2
  dsimp only
  go_wp2_with fail
  go_ret
  exact ⟨_, _, rfl, HB2.out⟩

set_option maxHeartbeats 2000000 in
set_option maxRecDepth 100000 in
theorem one111_44 (d : ED) (w : World) (h0 : d.x0 = 44) (hmk : ∀ w1, Below w.heap.size w w1 → MkOk 119 d.es w1) : OneOk 111 d w := by
  have HMK := Lib.hid hmk
  have H0 := Lib.hid h0
  unfold OneOk
  clear hmk h0
  go_enter Tryz.func111, Tryz.ntmps111
  go_upto_region 1 with fail
  change Code.wp _ _ _ _ (w.alloc (Obj.cells d.es 69))
  have hB1 : Below w.heap.size w (w.alloc (Obj.cells d.es 69)) := (Below.refl _ _).alloc (Nat.le_refl _) _
  have hM1 := heap_alloc_new w (Obj.cells d.es 69)
  generalize w.alloc (Obj.cells d.es 69) = w1 at hB1 hM1 ⊢
  have k0 := (bcell hM1 0).trans (es0 d H0.out)
  have HB1 := Lib.hid hB1
  have HM1 := Lib.hid hM1
  clear hB1 hM1
  go_wp2_with (with_reducible refine wpList_load_row rfl 69 (.tmp 1) rfl w.heap.size (by kernel_rfl) 69 d.es (0, 0) _ HM1.out Tryz.underlying69 rfl (hi69 d) ?_)
  refine (HMK.out w1 HB1.out).mono ?_
  rintro e w2 ⟨v, rfl, hb2⟩
  have HB2 := Lib.hid (HB1.out.trans (hb2.mono HB1.out.size))
  clear hb2
  dsimp only
  go_wp2_with fail
  go_ret
  exact ⟨_, _, rfl, HB2.out⟩

set_option maxHeartbeats 2000000 in
set_option maxRecDepth 100000 in
theorem one91_0 (d : ED) (w : World) (h0 : d.x0 = 0) (hmk : ∀ w1, Below w.heap.size w w1 → MkOk 100 d.es w1) : OneOk 91 d w := by
  have HMK := Lib.hid hmk
  have H0 := Lib.hid h0
  unfold OneOk
  clear hmk h0
  go_enter Tryz.func91, Tryz.ntmps91
  go_upto_region 1 with fail
  change Code.wp _ _ _ _ (w.alloc (Obj.cells d.es 69))
  have hB1 : Below w.heap.size w (w.alloc (Obj.cells d.es 69)) := (Below.refl _ _).alloc (Nat.le_refl _) _
  have hM1 := heap_alloc_new w (Obj.cells d.es 69)
  generalize w.alloc (Obj.cells d.es 69) = w1 at hB1 hM1 ⊢
  have k0 := (bcell hM1 0).trans (es0 d H0.out)
  have HB1 := Lib.hid hB1
  have HM1 := Lib.hid hM1
  clear hB1 hM1
  go_wp2_with (with_reducible refine wpList_load_row rfl 69 (.tmp 1) rfl w.heap.size (by kernel_rfl) 69 d.es (0, 0) _ HM1.out Tryz.underlying69 rfl (hi69 d) ?_)
  refine (HMK.out w1 HB1.out).mono ?_
  rintro e w2 ⟨v, rfl, hb2⟩
  have HB2 := Lib.hid (HB1.out.trans (hb2.mono HB1.out.size))
  clear hb2
  dsimp only
  go_wp2_with fail
  go_ret
  exact ⟨_, _, rfl, HB2.out⟩

set_option maxHeartbeats 2000000 in
set_option maxRecDepth 100000 in
theorem one91_10 (d : ED) (w : World) (h0 : d.x0 = 10) (hmk : ∀ w1, Below w.heap.size w w1 → MkOk 101 d.es w1) : OneOk 91 d w := by
  have HMK := Lib.hid hmk
  have H0 := Lib.hid h0
  unfold OneOk
  clear hmk h0
  go_enter Tryz.func91, Tryz.ntmps91
  go_upto_region 1 with fail
  change Code.wp _ _ _ _ (w.alloc (Obj.cells d.es 69))
  have hB1 : Below w.heap.size w (w.alloc (Obj.cells d.es 69)) := (Below.refl _ _).alloc (Nat.le_refl _) _
  have hM1 := heap_alloc_new w (Obj.cells d.es 69)
  generalize w.alloc (Obj.cells d.es 69) = w1 at hB1 hM1 ⊢
  have k0 := (bcell hM1 0).trans (es0 d H0.out)
  have HB1 := Lib.hid hB1
  have HM1 := Lib.hid hM1
  clear hB1 hM1
  go_wp2_with (with_reducible refine wpList_load_row rfl 69 (.tmp 1) rfl w.heap.size (by kernel_rfl) 69 d.es (0, 0) _ HM1.out Tryz.underlying69 rfl (hi69 d) ?_)
  refine (HMK.out w1 HB1.out).mono ?_
  rintro e w2 ⟨v, rfl, hb2⟩
  have HB2 := Lib.hid (HB1.out.trans (hb2.mono HB1.out.size))
  clear hb2
  dsimp only
  go_wp2_with fail
  go_ret
  exact ⟨_, _, rfl, HB2.out⟩

set_option maxHeartbeats 2000000 in
set_option maxRecDepth 100000 in
theorem one91_11 (d : ED) (w : World) (h0 : d.x0 = 11) (hmk : ∀ w1, Below w.heap.size w w1 → MkOk 102 d.es w1) : OneOk 91 d w := by
  have HMK := Lib.hid hmk
  have H0 := Lib.hid h0
  unfold OneOk
  clear hmk h0
  go_enter Tryz.func91, Tryz.ntmps91
  go_upto_region 1 with fail
  change Code.wp _ _ _ _ (w.alloc (Obj.cells d.es 69))
  have hB1 : Below w.heap.size w (w.alloc (Obj.cells d.es 69)) := (Below.refl _ _).alloc (Nat.le_refl _) _
  have hM1 := heap_alloc_new w (Obj.cells d.es 69)
  generalize w.alloc (Obj.cells d.es 69) = w1 at hB1 hM1 ⊢
  have k0 := (bcell hM1 0).trans (es0 d H0.out)
  have HB1 := Lib.hid hB1
  have HM1 := Lib.hid hM1
  clear hB1 hM1
  go_wp2_with (with_reducible refine wpList_load_row rfl 69 (.tmp 1) rfl w.heap.size (by kernel_rfl) 69 d.es (0, 0) _ HM1.out Tryz.underlying69 rfl (hi69 d) ?_)
  refine (HMK.out w1 HB1.out).mono ?_
  rintro e w2 ⟨v, rfl, hb2⟩
  have HB2 := Lib.hid (HB1.out.trans (hb2.mono HB1.out.size))
  clear hb2
  dsimp only
  go_wp2_with fail
  go_ret
  exact ⟨_, _, rfl, HB2.out⟩

set_option maxHeartbeats 2000000 in
set_option maxRecDepth 100000 in
theorem one91_13 (d : ED) (w : World) (h0 : d.x0 = 13) (hmk : ∀ w1, Below w.heap.size w w1 → MkOk 103 d.es w1) : OneOk 91 d w := by
  have HMK := Lib.hid hmk
  have H0 := Lib.hid h0
  unfold OneOk
  clear hmk h0
  go_enter Tryz.func91, Tryz.ntmps91
  go_upto_region 1 with fail
  change Code.wp _ _ _ _ (w.alloc (Obj.cells d.es 69))
  have hB1 : Below w.heap.size w (w.alloc (Obj.cells d.es 69)) := (Below.refl _ _).alloc (Nat.le_refl _) _
  have hM1 := heap_alloc_new w (Obj.cells d.es 69)
  generalize w.alloc (Obj.cells d.es 69) = w1 at hB1 hM1 ⊢
  have k0 := (bcell hM1 0).trans (es0 d H0.out)
  have HB1 := Lib.hid hB1
  have HM1 := Lib.hid hM1
  clear hB1 hM1
  go_wp2_with (with_reducible refine wpList_load_row rfl 69 (.tmp 1) rfl w.heap.size (by kernel_rfl) 69 d.es (0, 0) _ HM1.out Tryz.underlying69 rfl (hi69 d) ?_)
  refine (HMK.out w1 HB1.out).mono ?_
  rintro e w2 ⟨v, rfl, hb2⟩
  have HB2 := Lib.hid (HB1.out.trans (hb2.mono HB1.out.size))
  clear hb2
  dsimp only
  go_wp2_with fail
  go_ret
  exact ⟨_, _, rfl, HB2.out⟩

set_option maxHeartbeats 2000000 in
set_option maxRecDepth 100000 in
theorem one91_50 (d : ED) (w : World) (h0 : d.x0 = 50) (hmk : ∀ w1, Below w.heap.size w w1 → MkOk 104 d.es w1) : OneOk 91 d w := by
  have HMK := Lib.hid hmk
  have H0 := Lib.hid h0
  unfold OneOk
  clear hmk h0
  go_enter Tryz.func91, Tryz.ntmps91
  go_upto_region 1 with fail
  change Code.wp _ _ _ _ (w.alloc (Obj.cells d.es 69))
  have hB1 : Below w.heap.size w (w.alloc (Obj.cells d.es 69)) := (Below.refl _ _).alloc (Nat.le_refl _) _
  have hM1 := heap_alloc_new w (Obj.cells d.es 69)
  generalize w.alloc (Obj.cells d.es 69) = w1 at hB1 hM1 ⊢
  have k0 := (bcell hM1 0).trans (es0 d H0.out)
  have HB1 := Lib.hid hB1
  have HM1 := Lib.hid hM1
  clear hB1 hM1
  go_wp2_with (with_reducible refine wpList_load_row rfl 69 (.tmp 1) rfl w.heap.size (by kernel_rfl) 69 d.es (0, 0) _ HM1.out Tryz.underlying69 rfl (hi69 d) ?_)
  refine (HMK.out w1 HB1.out).mono ?_
  rintro e w2 ⟨v, rfl, hb2⟩
  have HB2 := Lib.hid (HB1.out.trans (hb2.mono HB1.out.size))
  clear hb2
  dsimp only
  go_wp2_with fail
  go_ret
  exact ⟨_, _, rfl, HB2.out⟩

set_option maxHeartbeats 2000000 in
set_option maxRecDepth 100000 in
theorem one91_14 (d : ED) (w : World) (h0 : d.x0 = 14) (hmk : ∀ w1, Below w.heap.size w w1 → MkOk 105 d.es w1) : OneOk 91 d w := by
  have HMK := Lib.hid hmk
  have H0 := Lib.hid h0
  unfold OneOk
  clear hmk h0
  go_enter Tryz.func91, Tryz.ntmps91
  go_upto_region 1 with fail
  change Code.wp _ _ _ _ (w.alloc (Obj.cells d.es 69))
  have hB1 : Below w.heap.size w (w.alloc (Obj.cells d.es 69)) := (Below.refl _ _).alloc (Nat.le_refl _) _
  have hM1 := heap_alloc_new w (Obj.cells d.es 69)
  generalize w.alloc (Obj.cells d.es 69) = w1 at hB1 hM1 ⊢
  have k0 := (bcell hM1 0).trans (es0 d H0.out)
  have HB1 := Lib.hid hB1
  have HM1 := Lib.hid hM1
  clear hB1 hM1
  go_wp2_with (with_reducible refine wpList_load_row rfl 69 (.tmp 1) rfl w.heap.size (by kernel_rfl) 69 d.es (0, 0) _ HM1.out Tryz.underlying69 rfl (hi69 d) ?_)
  refine (HMK.out w1 HB1.out).mono ?_
  rintro e w2 ⟨v, rfl, hb2⟩
  have HB2 := Lib.hid (HB1.out.trans (hb2.mono HB1.out.size))
  clear hb2
  dsimp only
  go_wp2_with fail
  go_ret
  exact ⟨_, _, rfl, HB2.out⟩

set_option maxHeartbeats 2000000 in
set_option maxRecDepth 100000 in
theorem one91_16 (d : ED) (w : World) (h0 : d.x0 = 16) (hmk : ∀ w1, Below w.heap.size w w1 → MkOk 106 d.es w1) : OneOk 91 d w := by
  have HMK := Lib.hid hmk
  have H0 := Lib.hid h0
  unfold OneOk
  clear hmk h0
  go_enter Tryz.func91, Tryz.ntmps91
  go_upto_region 1 with fail
  change Code.wp _ _ _ _ (w.alloc (Obj.cells d.es 69))
  have hB1 : Below w.heap.size w (w.alloc (Obj.cells d.es 69)) := (Below.refl _ _).alloc (Nat.le_refl _) _
  have hM1 := heap_alloc_new w (Obj.cells d.es 69)
  generalize w.alloc (Obj.cells d.es 69) = w1 at hB1 hM1 ⊢
  have k0 := (bcell hM1 0).trans (es0 d H0.out)
  have HB1 := Lib.hid hB1
  have HM1 := Lib.hid hM1
  clear hB1 hM1
  go_wp2_with (with_reducible refine wpList_load_row rfl 69 (.tmp 1) rfl w.heap.size (by kernel_rfl) 69 d.es (0, 0) _ HM1.out Tryz.underlying69 rfl (hi69 d) ?_)
  refine (HMK.out w1 HB1.out).mono ?_
  rintro e w2 ⟨v, rfl, hb2⟩
  have HB2 := Lib.hid (HB1.out.trans (hb2.mono HB1.out.size))
  clear hb2
  dsimp only
  go_wp2_with fail
  go_ret
  exact ⟨_, _, rfl, HB2.out⟩

set_option maxHeartbeats 2000000 in
set_option maxRecDepth 100000 in
theorem one91_23 (d : ED) (w : World) (h0 : d.x0 = 23) (hmk : ∀ w1, Below w.heap.size w w1 → MkOk 107 d.es w1) : OneOk 91 d w := by
  have HMK := Lib.hid hmk
  have H0 := Lib.hid h0
  unfold OneOk
  clear hmk h0
  go_enter Tryz.func91, Tryz.ntmps91
  go_upto_region 1 with fail
  change Code.wp _ _ _ _ (w.alloc (Obj.cells d.es 69))
  have hB1 : Below w.heap.size w (w.alloc (Obj.cells d.es 69)) := (Below.refl _ _).alloc (Nat.le_refl _) _
  have hM1 := heap_alloc_new w (Obj.cells d.es 69)
  generalize w.alloc (Obj.cells d.es 69) = w1 at hB1 hM1 ⊢
  have k0 := (bcell hM1 0).trans (es0 d H0.out)
  have HB1 := Lib.hid hB1
  have HM1 := Lib.hid hM1
  clear hB1 hM1
  go_wp2_with (with_reducible refine wpList_load_row rfl 69 (.tmp 1) rfl w.heap.size (by kernel_rfl) 69 d.es (0, 0) _ HM1.out Tryz.underlying69 rfl (hi69 d) ?_)
  refine (HMK.out w1 HB1.out).mono ?_
  rintro e w2 ⟨v, rfl, hb2⟩
  have HB2 := Lib.hid (HB1.out.trans (hb2.mono HB1.out.size))
  clear hb2
  dsimp only
  go_wp2_with fail
  go_ret
  exact ⟨_, _, rfl, HB2.out⟩

set_option maxHeartbeats 2000000 in
set_option maxRecDepth 100000 in
theorem one91_65281 (d : ED) (w : World) (h0 : d.x0 = 65281) (hmk : ∀ w1, Below w.heap.size w w1 → MkOk 108 d.es w1) : OneOk 91 d w := by
  have HMK := Lib.hid hmk
  have H0 := Lib.hid h0
  unfold OneOk
  clear hmk h0
  go_enter Tryz.func91, Tryz.ntmps91
  go_upto_region 1 with fail
  change Code.wp _ _ _ _ (w.alloc (Obj.cells d.es 69))
  have hB1 : Below w.heap.size w (w.alloc (Obj.cells d.es 69)) := (Below.refl _ _).alloc (Nat.le_refl _) _
  have hM1 := heap_alloc_new w (Obj.cells d.es 69)
  generalize w.alloc (Obj.cells d.es 69) = w1 at hB1 hM1 ⊢
  have k0 := (bcell hM1 0).trans (es0 d H0.out)
  have HB1 := Lib.hid hB1
  have HM1 := Lib.hid hM1
  clear hB1 hM1
  go_wp2_with (with_reducible refine wpList_load_row rfl 69 (.tmp 1) rfl w.heap.size (by kernel_rfl) 69 d.es (0, 0) _ HM1.out Tryz.underlying69 rfl (hi69 d) ?_)
  refine (HMK.out w1 HB1.out).mono ?_
  rintro e w2 ⟨v, rfl, hb2⟩
  have HB2 := Lib.hid (HB1.out.trans (hb2.mono HB1.out.size))
  clear hb2
  dsimp only
  go_wp2_with fail
  go_ret
  exact ⟨_, _, rfl, HB2.out⟩

set_option maxHeartbeats 2000000 in
set_option maxRecDepth 100000 in
theorem one91_54 (d : ED) (w : World) (h0 : d.x0 = 54) (hmk : ∀ w1, Below w.heap.size w w1 → MkOk 109 d.es w1) : OneOk 91 d w := by
  have HMK := Lib.hid hmk
  have H0 := Lib.hid h0
  unfold OneOk
  clear hmk h0
  go_enter Tryz.func91, Tryz.ntmps91
  go_upto_region 1 with fail
  change Code.wp _ _ _ _ (w.alloc (Obj.cells d.es 69))
  have hB1 : Below w.heap.size w (w.alloc (Obj.cells d.es 69)) := (Below.refl _ _).alloc (Nat.le_refl _) _
  have hM1 := heap_alloc_new w (Obj.cells d.es 69)
  generalize w.alloc (Obj.cells d.es 69) = w1 at hB1 hM1 ⊢
  have k0 := (bcell hM1 0).trans (es0 d H0.out)
  have HB1 := Lib.hid hB1
  have HM1 := Lib.hid hM1
  clear hB1 hM1
  go_wp2_with (with_reducible refine wpList_load_row rfl 69 (.tmp 1) rfl w.heap.size (by kernel_rfl) 69 d.es (0, 0) _ HM1.out Tryz.underlying69 rfl (hi69 d) ?_)
  refine (HMK.out w1 HB1.out).mono ?_
  rintro e w2 ⟨v, rfl, hb2⟩
  have HB2 := Lib.hid (HB1.out.trans (hb2.mono HB1.out.size))
  clear hb2
  dsimp only
  go_wp2_with fail
  go_ret
  exact ⟨_, _, rfl, HB2.out⟩

set_option maxHeartbeats 2000000 in
set_option maxRecDepth 100000 in
theorem one91_43 (d : ED) (w : World) (h0 : d.x0 = 43) (hmk : ∀ w1, Below w.heap.size w w1 → MkOk 110 d.es w1) : OneOk 91 d w := by
  have HMK := Lib.hid hmk
  have H0 := Lib.hid h0
  unfold OneOk
  clear hmk h0
  go_enter Tryz.func91, Tryz.ntmps91
  go_upto_region 1 with fail
  change Code.wp _ _ _ _ (w.alloc (Obj.cells d.es 69))
  have hB1 : Below w.heap.size w (w.alloc (Obj.cells d.es 69)) := (Below.refl _ _).alloc (Nat.le_refl _) _
  have hM1 := heap_alloc_new w (Obj.cells d.es 69)
  generalize w.alloc (Obj.cells d.es 69) = w1 at hB1 hM1 ⊢
  have k0 := (bcell hM1 0).trans (es0 d H0.out)
  have HB1 := Lib.hid hB1
  have HM1 := Lib.hid hM1
  clear hB1 hM1
  go_wp2_with (with_reducible refine wpList_load_row rfl 69 (.tmp 1) rfl w.heap.size (by kernel_rfl) 69 d.es (0, 0) _ HM1.out Tryz.underlying69 rfl (hi69 d) ?_)
  refine (HMK.out w1 HB1.out).mono ?_
  rintro e w2 ⟨v, rfl, hb2⟩
  have HB2 := Lib.hid (HB1.out.trans (hb2.mono HB1.out.size))
  clear hb2
  dsimp only
  go_wp2_with fail
  go_ret
  exact ⟨_, _, rfl, HB2.out⟩

set_option maxHeartbeats 2000000 in
set_option maxRecDepth 100000 in
theorem one91_51 (d : ED) (w : World) (h0 : d.x0 = 51) (hmk : ∀ w1, Below w.heap.size w w1 → OneOk 111 d w1) : OneOk 91 d w := by
  have HMK := Lib.hid hmk
  have H0 := Lib.hid h0
  unfold OneOk
  clear hmk h0
  go_enter Tryz.func91, Tryz.ntmps91
  go_upto_region 1 with fail
  change Code.wp _ _ _ _ (w.alloc (Obj.cells d.es 69))
  have hB1 : Below w.heap.size w (w.alloc (Obj.cells d.es 69)) := (Below.refl _ _).alloc (Nat.le_refl _) _
  have hM1 := heap_alloc_new w (Obj.cells d.es 69)
  generalize w.alloc (Obj.cells d.es 69) = w1 at hB1 hM1 ⊢
  have k0 := (bcell hM1 0).trans (es0 d H0.out)
  have HB1 := Lib.hid hB1
  have HM1 := Lib.hid hM1
  clear hB1 hM1
  go_wp2_with (with_reducible refine wpList_load_row rfl 69 (.tmp 1) rfl w.heap.size (by kernel_rfl) 69 d.es (0, 0) _ HM1.out Tryz.underlying69 rfl (hi69 d) ?_)
  refine (HMK.out w1 HB1.out).mono ?_
  rintro e w2 ⟨t, v, rfl, hb2⟩
  have HB2 := Lib.hid (HB1.out.trans (hb2.mono HB1.out.size))
  clear hb2
  dsimp only
  go_wp2_with fail
  go_ret
  exact ⟨_, _, rfl, HB2.out⟩

set_option maxHeartbeats 2000000 in
set_option maxRecDepth 100000 in
theorem one91_44 (d : ED) (w : World) (h0 : d.x0 = 44) (hmk : ∀ w1, Below w.heap.size w w1 → OneOk 111 d w1) : OneOk 91 d w := by
  have HMK := Lib.hid hmk
  have H0 := Lib.hid h0
  unfold OneOk
  clear hmk h0
  go_enter Tryz.func91, Tryz.ntmps91
  go_upto_region 1 with fail
  change Code.wp _ _ _ _ (w.alloc (Obj.cells d.es 69))
  have hB1 : Below w.heap.size w (w.alloc (Obj.cells d.es 69)) := (Below.refl _ _).alloc (Nat.le_refl _) _
  have hM1 := heap_alloc_new w (Obj.cells d.es 69)
  generalize w.alloc (Obj.cells d.es 69) = w1 at hB1 hM1 ⊢
  have k0 := (bcell hM1 0).trans (es0 d H0.out)
  have HB1 := Lib.hid hB1
  have HM1 := Lib.hid hM1
  clear hB1 hM1
  go_wp2_with (with_reducible refine wpList_load_row rfl 69 (.tmp 1) rfl w.heap.size (by kernel_rfl) 69 d.es (0, 0) _ HM1.out Tryz.underlying69 rfl (hi69 d) ?_)
  refine (HMK.out w1 HB1.out).mono ?_
  rintro e w2 ⟨t, v, rfl, hb2⟩
  have HB2 := Lib.hid (HB1.out.trans (hb2.mono HB1.out.size))
  clear hb2
  dsimp only
  go_wp2_with fail
  go_ret
  exact ⟨_, _, rfl, HB2.out⟩

/-- The types that are kept. -/
def Kept (x : Int) : Prop := x = 0 ∨ x = 10 ∨ x = 11 ∨ x = 13 ∨ x = 14 ∨ x = 16 ∨ x = 23 ∨ x = 43 ∨ x = 44 ∨ x = 50 ∨ x = 51 ∨ x = 54 ∨ x = 65281
theorem sl_of {w : World} {p : Option Addr} {n : Nat} {f : Nat → Value} (hn : n ≤ MX) (h : Sl1 w p n f) : SlOf w p n f := ⟨hn, h⟩
theorem sl2_of' {w : World} {p : Option Addr} {n : Nat} {f g : Nat → Value} (hn : n ≤ MX) (h : Sl2 w p n f g) : SlOf2 w p n f g := ⟨hn, h⟩
theorem one_any (d : ED) (w : World) (hx : Ext w d) (hf : Fit d) (hk : Kept d.x0) : OneOk 91 d w := by
  rcases hk with h | h | h | h | h | h | h | h | h | h | h | h | h
  · exact one91_0 d w h fun w1 hb => mk100 d.es d.s1 w1 rfl
  · exact one91_10 d w h fun w1 hb => mk101 d.es d.p3 d.n3 d.c3 d.u3 w1 rfl (sl_of hf.n3 (hx.below hb).r3)
  · exact one91_11 d w h fun w1 hb => mk102 d.es d.p3 d.n3 d.c3 d.u3 w1 rfl (sl_of hf.n3 (hx.below hb).r3)
  · exact one91_13 d w h fun w1 hb => mk103 d.es d.p4 d.n4 d.c4 d.a4 d.z4 w1 rfl (sl2_of' hf.n4 (hx.below hb).r4)
  · exact one91_14 d w h fun w1 hb => mk105 d.es d.p3 d.n3 d.c3 d.u3 w1 d.s1 rfl rfl (sl_of hf.n3 (hx.below hb).r3)
  · exact one91_16 d w h fun w1 hb => mk106 d.es d.p2 d.n2 d.c2 d.t2 w1 rfl hx.o2.1 (sl_of hf.n2 (hx.below hb).r2)
  · exact one91_23 d w h fun w1 hb => mk107 d.es d.b5 w1 rfl
  · exact one91_43 d w h fun w1 hb => mk110 d.es d.p3 d.n3 d.c3 d.u3 w1 rfl (sl_of hf.n3 (hx.below hb).r3)
  · exact one91_44 d w h fun w1 hb => one111_44 d w1 h fun w2 hb2 => mk119 d.es d.s1 w2 rfl
  · exact one91_50 d w h fun w1 hb => mk104 d.es d.p4 d.n4 d.c4 d.a4 d.z4 w1 rfl (sl2_of' hf.n4 (hx.below hb).r4)
  · exact one91_51 d w h fun w1 hb => one111_51 d w1 h fun w2 hb2 => mk118 d w2 ((hx.below hb).below hb2) hf
  · exact one91_54 d w h fun w1 hb => mk109 d.es d.s1 w1 rfl
  · exact one91_65281 d w h fun w1 hb => mk108 d.es d.x6 w1 rfl
end Go.Proofs.YtgnmgkpfgmpdfaaGreatDoor
end

/- impl.extensions of kept types. -/
section
namespace Go.Proofs.YtgnmgkpfgmpdfaaGreatDoor
open Go.RowKit

set_option maxHeartbeats 2000000 in
set_option maxRecDepth 100000 in
theorem exts_any (p : Option Addr) (n cap : Nat) (D : Nat → ED) (w : World) (hn : n ≤ MX) (hs : SlE w p n D) (hf : ∀ j, j < n → Fit (D j)) (hk : ∀ j, j < n → Kept (D j).x0) :
    Calls Tryz.prog 70 #[.slice p n cap] w fun e w' => ∃ px lx cx, e = .returned (.tuple #[.slice px lx cx, .bool true]) ∧ Below w.heap.size w w' := by
  have HM := Lib.hid hs
  have HFF := Lib.hid hf
  have HKK := Lib.hid hk
  have gm : (n : Int) ≤ 2147483647 := by unfold MX at hn; omega
  clear hs hf hk hn
  go_enter Tryz.func70, Tryz.ntmps70
  go_wp2_with fail
  go_loopw [4, 10] (fun v i wr => OwnRel 188 n w v i wr) (fun _ i _ => n - (intOf i).toNat)
  case atStart => exact ⟨0, [], by omega, rfl, World.ownsRow_nil _ _ _ _, Below.refl _ _⟩
  case round =>
    obtain ⟨k, xs, hk, rfl, hown, hB⟩ := hrel
    by_cases hlt : k < n
    · obtain ⟨b, o, rfl, hm1, hx⟩ := HM.out k hlt
      have g1 : (k : Int) < n := by omega
      have hld := load_ext wr b (o + k * 13) (D k) (fun i u hu => bcellv hB (hm1 i u hu))
      have HLD := Lib.hid hld
      have HX := Lib.hid (hx.below hB)
      have HB := Lib.hid hB
      have HOWN := Lib.hid hown
      clear hB hm1 hx hown hld
      go_wp2_with (first | (with_reducible refine wpList_ld rfl 69 (.tmp 12) rfl ⟨b, o + k * 13, none⟩ (.agg (D k).es) (by kernel_rfl) HLD.out ?_) | (refine wpList_store_row (o := ⟨none, .store 69 (.tmp 6) (.tmp 13), _, _, _, _⟩) rfl 69 (.tmp 6) (.tmp 13) rfl wr.heap.size (D k).es (by kernel_rfl) (by kernel_rfl) 69 zero69 (heap_alloc_new wr _) (by kernel_rfl) rfl (ED.one _) ?_; change wpList _ _ _ _ _ ((wr.alloc (Obj.cells zero69 69)).setRow wr.heap.size _); rw [setRow_alloc]) | (with_reducible refine wpList_load_row rfl 69 (.tmp 6) rfl wr.heap.size (by kernel_rfl) 69 (D k).es (0, 0) _ (heap_alloc_new wr _) Tryz.underlying69 rfl (hi69 (D k)) ?_))
      have hbA : Below wr.heap.size wr (wr.alloc (Obj.cells (D k).es 69)) := (Below.refl _ _).alloc (Nat.le_refl _) _
      refine (one_any (D k) (wr.alloc (Obj.cells (D k).es 69)) (HX.out.below hbA) (HFF.out k hlt) (HKK.out k hlt)).mono ?_
      rintro e w2 ⟨t, v, rfl, hb2⟩
      have hB2' : Below wr.heap.size wr w2 := hbA.trans (hb2.mono hbA.size)
      have hB2 : Below w.heap.size w w2 := HB.out.trans (hB2'.mono HB.out.size)
      have hO2 : w2.ownsRow w.heap.size 188 1 u4 k xs := own_low HOWN.out hB2'
      have HB2 := Lib.hid hB2
      have HO2 := Lib.hid hO2
      clear hb2 hB2 hB2' hO2 hbA
      dsimp only
      go_wp2_with (refine app_one rfl (.tmp 18) (.tmp 20) 116 188 .nilIface 16 rfl u116 info188 rfl (by decide) w.heap.size u4 k xs (by kernel_rfl) (HO2.out.alloc _) w2.heap.size 1 (.iface t v) (by kernel_rfl) ((bcell (heap_alloc_new w2 _) 0).trans rfl) rfl (by omega) (by rw [World.size_alloc]; have := HB2.out.size; omega) ?_; intro v' w3 hv hgr)
      have hb3 : Below w.heap.size w w3 := (HB2.out.alloc HB2.out.size _).grown hgr (by rw [World.size_alloc]; have := HB2.out.size; omega) (fun k' hk' => (HO2.out.lt k' hk').1)
      have hrel : OwnRel 188 n w v' (.int .i64 ((k + 1 : Nat) : Int)) w3 := ⟨k + 1, _, by omega, rfl, hv, hb3⟩
      have HR := Lib.hid hrel
      clear hrel hb3 hv hgr
      go_wp2_with fail
      go_roundw
      case rel =>
        have h := HR.out
        simpa using h
      case measure => simp [intOf]; omega
    · obtain rfl : k = n := by omega
      have HB := Lib.hid hB
      obtain ⟨q, l, c, rfl⟩ := own_slice hown
      clear hown hB
      go_wp2_with fail
      go_ret2
      exact ⟨q, l, c, rfl, HB.out⟩
theorem exts_ok (p : Option Addr) (n cap : Nat) (D : Nat → ED) (w : World) (hn : n ≤ MX) (hs : SlE w p n D) (hf : ∀ j, j < n → Fit (D j)) (hk : ∀ j, j < n → Kept (D j).x0) : Exts w (.slice p n cap) :=
  fun w1 hb => exts_any p n cap D w1 hn (hs.below hb) hf hk
end Go.Proofs.YtgnmgkpfgmpdfaaGreatDoor
end
