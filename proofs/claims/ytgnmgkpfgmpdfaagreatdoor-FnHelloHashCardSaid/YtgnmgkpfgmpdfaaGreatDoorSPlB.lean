/- laws.plainExt, by the type (1). -/
import Derived.Test.YtgnmgkpfgmpdfaaGreatDoorSChk3
import Derived.Test.YtgnmgkpfgmpdfaaGreatDoorSExts
set_option linter.unusedVariables false
set_option linter.unusedSimpArgs false
section
namespace Go.Proofs.YtgnmgkpfgmpdfaaGreatDoor
open Go.RowKit

set_option maxHeartbeats 4000000 in
set_option maxRecDepth 100000 in
theorem plain_0 (d : ED) (w : World) (hx : Ext w d) (hf : Fit d) (h0 : d.x0 = 0) : Tell 29 #[.agg d.es] w True := by
  have H0 := Lib.hid h0
  have HF := Lib.hid hf
  have hB1 : Below w.heap.size w (w.alloc (Obj.cells d.es 69)) := (Below.refl _ _).alloc (Nat.le_refl _) _
  have HX := Lib.hid (hx.below hB1)
  unfold Tell
  clear hx h0 hf
  go_enter Tryz.func29, Tryz.ntmps29
  go_upto_region 1 with fail
  change Code.wp _ _ _ _ (w.alloc (Obj.cells d.es 69))
  have hM1 := heap_alloc_new w (Obj.cells d.es 69)
  generalize w.alloc (Obj.cells d.es 69) = w1 at hB1 hM1 HX ⊢
  have k0 := (bcell hM1 0).trans (es0 d H0.out)
  have HB1 := Lib.hid hB1
  have HM1 := Lib.hid hM1
  clear hB1 hM1
  have k1 := (bcell HM1.out 1).trans (ED.g1 d)
  obtain ⟨L, hL⟩ : ∃ L : Int, (d.s1.size : Int) = L := ⟨_, rfl⟩
  by_cases b2 : L > 0
  · by_cases b1 : L < 60000
    · have gw : wrap64 (L - 1) = L - 1 := by unfold wrap64; omega
      go_wp2_with fail
      go_ret
      exact Told.some _ trivial HB1.out
    · go_wp2_with fail
      go_ret
      exact Told.some _ trivial HB1.out
  · go_wp2_with fail
    go_ret
    exact Told.some _ trivial HB1.out
set_option maxHeartbeats 4000000 in
set_option maxRecDepth 100000 in
theorem plain_10 (d : ED) (w : World) (hx : Ext w d) (hf : Fit d) (h0 : d.x0 = 10) : Tell 29 #[.agg d.es] w True := by
  have H0 := Lib.hid h0
  have HF := Lib.hid hf
  have hB1 : Below w.heap.size w (w.alloc (Obj.cells d.es 69)) := (Below.refl _ _).alloc (Nat.le_refl _) _
  have HX := Lib.hid (hx.below hB1)
  unfold Tell
  clear hx h0 hf
  go_enter Tryz.func29, Tryz.ntmps29
  go_upto_region 1 with fail
  change Code.wp _ _ _ _ (w.alloc (Obj.cells d.es 69))
  have hM1 := heap_alloc_new w (Obj.cells d.es 69)
  generalize w.alloc (Obj.cells d.es 69) = w1 at hB1 hM1 HX ⊢
  have k0 := (bcell hM1 0).trans (es0 d H0.out)
  have HB1 := Lib.hid hB1
  have HM1 := Lib.hid hM1
  clear hB1 hM1
  have k3 := (bcell HM1.out 3).trans (ED.g3 d)
  by_cases b1 : (d.n3 : Int) < 1000
  · go_wp2_with fail
    have hb5 := (Below.refl w1.heap.size w1).alloc (Nat.le_refl _) (Obj.cells #[.int .u16 23, .int .u16 24, .int .u16 29] 28)
    have hs5 := new_sl1 w1 #[.int .u16 23, .int .u16 24, .int .u16 29] 3 (fun j => ([23, 24, 29] : List Int).getD j 0) (fun j hj => by
      match j, hj with
      | 0, _ => rfl
      | 1, _ => rfl
      | 2, _ => rfl
      | j + 3, hj => omega)
    generalize w1.alloc (Obj.cells #[.int .u16 23, .int .u16 24, .int .u16 29] 28) = w5 at hb5 hs5 ⊢
    have HB5 := Lib.hid (HB1.out.trans (hb5.mono HB1.out.size))
    have HS3 := Lib.hid (HX.out.r3.below hb5)
    clear hb5
    refine (all_any d.p3 d.n3 d.c3 d.u3 (some ⟨w1.heap.size, 0, none⟩) 3 3 _ w5 HX.out.o3.2.2 HS3.out (by decide) hs5).mono ?_
    rintro e w6 ⟨r, rfl, rfl⟩
    clear hs5
    dsimp only
    go_wp2_with fail
    go_ret
    exact Told.some _ trivial HB5.out
  · go_wp2_with fail
    go_ret
    exact Told.some _ trivial HB1.out
set_option maxHeartbeats 4000000 in
set_option maxRecDepth 100000 in
theorem plain_11 (d : ED) (w : World) (hx : Ext w d) (hf : Fit d) (h0 : d.x0 = 11) : Tell 29 #[.agg d.es] w True := by
  have H0 := Lib.hid h0
  have HF := Lib.hid hf
  have hB1 : Below w.heap.size w (w.alloc (Obj.cells d.es 69)) := (Below.refl _ _).alloc (Nat.le_refl _) _
  have HX := Lib.hid (hx.below hB1)
  unfold Tell
  clear hx h0 hf
  go_enter Tryz.func29, Tryz.ntmps29
  go_upto_region 1 with fail
  change Code.wp _ _ _ _ (w.alloc (Obj.cells d.es 69))
  have hM1 := heap_alloc_new w (Obj.cells d.es 69)
  generalize w.alloc (Obj.cells d.es 69) = w1 at hB1 hM1 HX ⊢
  have k0 := (bcell hM1 0).trans (es0 d H0.out)
  have HB1 := Lib.hid hB1
  have HM1 := Lib.hid hM1
  clear hB1 hM1
  have k3 := (bcell HM1.out 3).trans (ED.g3 d)
  by_cases b1 : (d.n3 : Int) < 256
  · go_wp2_with fail
    have hb5 := (Below.refl w1.heap.size w1).alloc (Nat.le_refl _) (Obj.cells #[.int .u16 0] 28)
    have hs5 := new_sl1 w1 #[.int .u16 0] 1 (fun j => ([0] : List Int).getD j 0) (fun j hj => by
      match j, hj with
      | 0, _ => rfl
      | j + 1, hj => omega)
    generalize w1.alloc (Obj.cells #[.int .u16 0] 28) = w5 at hb5 hs5 ⊢
    have HB5 := Lib.hid (HB1.out.trans (hb5.mono HB1.out.size))
    have HS3 := Lib.hid (HX.out.r3.below hb5)
    clear hb5
    refine (all_any d.p3 d.n3 d.c3 d.u3 (some ⟨w1.heap.size, 0, none⟩) 1 1 _ w5 HX.out.o3.2.2 HS3.out (by decide) hs5).mono ?_
    rintro e w6 ⟨r, rfl, rfl⟩
    clear hs5
    dsimp only
    go_wp2_with fail
    go_ret
    exact Told.some _ trivial HB5.out
  · go_wp2_with fail
    go_ret
    exact Told.some _ trivial HB1.out
set_option maxHeartbeats 4000000 in
set_option maxRecDepth 100000 in
theorem plain_13 (d : ED) (w : World) (hx : Ext w d) (hf : Fit d) (h0 : d.x0 = 13) : Tell 29 #[.agg d.es] w True := by
  have H0 := Lib.hid h0
  have HF := Lib.hid hf
  have hB1 : Below w.heap.size w (w.alloc (Obj.cells d.es 69)) := (Below.refl _ _).alloc (Nat.le_refl _) _
  have HX := Lib.hid (hx.below hB1)
  unfold Tell
  clear hx h0 hf
  go_enter Tryz.func29, Tryz.ntmps29
  go_upto_region 1 with fail
  change Code.wp _ _ _ _ (w.alloc (Obj.cells d.es 69))
  have hM1 := heap_alloc_new w (Obj.cells d.es 69)
  generalize w.alloc (Obj.cells d.es 69) = w1 at hB1 hM1 HX ⊢
  have k0 := (bcell hM1 0).trans (es0 d H0.out)
  have HB1 := Lib.hid hB1
  have HM1 := Lib.hid hM1
  clear hB1 hM1
  have k4 := (bcell HM1.out 4).trans (ED.g4 d)
  go_wp2_with fail
  refine (schemes_any d.p4 d.n4 d.c4 d.a4 d.z4 w1 HX.out.o4.2.2 HX.out.r4).mono ?_
  rintro e w2 ⟨r, rfl, _, hb2⟩
  have HB2 := Lib.hid (HB1.out.trans (hb2.mono HB1.out.size))
  clear hb2
  dsimp only
  go_wp2_with fail
  go_ret
  exact Told.some _ trivial HB2.out
set_option maxHeartbeats 4000000 in
set_option maxRecDepth 100000 in
theorem plain_50 (d : ED) (w : World) (hx : Ext w d) (hf : Fit d) (h0 : d.x0 = 50) : Tell 29 #[.agg d.es] w True := by
  have H0 := Lib.hid h0
  have HF := Lib.hid hf
  have hB1 : Below w.heap.size w (w.alloc (Obj.cells d.es 69)) := (Below.refl _ _).alloc (Nat.le_refl _) _
  have HX := Lib.hid (hx.below hB1)
  unfold Tell
  clear hx h0 hf
  go_enter Tryz.func29, Tryz.ntmps29
  go_upto_region 1 with fail
  change Code.wp _ _ _ _ (w.alloc (Obj.cells d.es 69))
  have hM1 := heap_alloc_new w (Obj.cells d.es 69)
  generalize w.alloc (Obj.cells d.es 69) = w1 at hB1 hM1 HX ⊢
  have k0 := (bcell hM1 0).trans (es0 d H0.out)
  have HB1 := Lib.hid hB1
  have HM1 := Lib.hid hM1
  clear hB1 hM1
  have k4 := (bcell HM1.out 4).trans (ED.g4 d)
  go_wp2_with fail
  refine (schemes_any d.p4 d.n4 d.c4 d.a4 d.z4 w1 HX.out.o4.2.2 HX.out.r4).mono ?_
  rintro e w2 ⟨r, rfl, _, hb2⟩
  have HB2 := Lib.hid (HB1.out.trans (hb2.mono HB1.out.size))
  clear hb2
  dsimp only
  go_wp2_with fail
  go_ret
  exact Told.some _ trivial HB2.out
set_option maxHeartbeats 4000000 in
set_option maxRecDepth 100000 in
theorem plain_14 (d : ED) (w : World) (hx : Ext w d) (hf : Fit d) (h0 : d.x0 = 14) : Tell 29 #[.agg d.es] w True := by
  have H0 := Lib.hid h0
  have HF := Lib.hid hf
  have hB1 : Below w.heap.size w (w.alloc (Obj.cells d.es 69)) := (Below.refl _ _).alloc (Nat.le_refl _) _
  have HX := Lib.hid (hx.below hB1)
  unfold Tell
  clear hx h0 hf
  go_enter Tryz.func29, Tryz.ntmps29
  go_upto_region 1 with fail
  change Code.wp _ _ _ _ (w.alloc (Obj.cells d.es 69))
  have hM1 := heap_alloc_new w (Obj.cells d.es 69)
  generalize w.alloc (Obj.cells d.es 69) = w1 at hB1 hM1 HX ⊢
  have k0 := (bcell hM1 0).trans (es0 d H0.out)
  have HB1 := Lib.hid hB1
  have HM1 := Lib.hid hM1
  clear hB1 hM1
  have k3 := (bcell HM1.out 3).trans (ED.g3 d)
  have k1 := (bcell HM1.out 1).trans (ED.g1 d)
  by_cases b2 : (d.n3 : Int) < 1000
  · by_cases b1 : (d.s1.size : Int) < 256
    · go_wp2_with fail
      have hb5 := (Below.refl w1.heap.size w1).alloc (Nat.le_refl _) (Obj.cells #[.int .u16 1, .int .u16 2, .int .u16 3, .int .u16 4, .int .u16 5, .int .u16 6, .int .u16 7, .int .u16 8] 28)
      have hs5 := new_sl1 w1 #[.int .u16 1, .int .u16 2, .int .u16 3, .int .u16 4, .int .u16 5, .int .u16 6, .int .u16 7, .int .u16 8] 8 (fun j => ([1, 2, 3, 4, 5, 6, 7, 8] : List Int).getD j 0) (fun j hj => by
        match j, hj with
        | 0, _ => rfl
        | 1, _ => rfl
        | 2, _ => rfl
        | 3, _ => rfl
        | 4, _ => rfl
        | 5, _ => rfl
        | 6, _ => rfl
        | 7, _ => rfl
        | j + 8, hj => omega)
      generalize w1.alloc (Obj.cells #[.int .u16 1, .int .u16 2, .int .u16 3, .int .u16 4, .int .u16 5, .int .u16 6, .int .u16 7, .int .u16 8] 28) = w5 at hb5 hs5 ⊢
      have HB5 := Lib.hid (HB1.out.trans (hb5.mono HB1.out.size))
      have HS3 := Lib.hid (HX.out.r3.below hb5)
      clear hb5
      refine (all_any d.p3 d.n3 d.c3 d.u3 (some ⟨w1.heap.size, 0, none⟩) 8 8 _ w5 HX.out.o3.2.2 HS3.out (by decide) hs5).mono ?_
      rintro e w6 ⟨r, rfl, rfl⟩
      clear hs5
      dsimp only
      go_wp2_with fail
      go_ret
      exact Told.some _ trivial HB5.out
    · go_wp2_with fail
      go_ret
      exact Told.some _ trivial HB1.out
  · go_wp2_with fail
    go_ret
    exact Told.some _ trivial HB1.out
set_option maxHeartbeats 4000000 in
set_option maxRecDepth 100000 in
theorem plain_16 (d : ED) (w : World) (hx : Ext w d) (hf : Fit d) (h0 : d.x0 = 16) : Tell 29 #[.agg d.es] w True := by
  have H0 := Lib.hid h0
  have HF := Lib.hid hf
  have hB1 : Below w.heap.size w (w.alloc (Obj.cells d.es 69)) := (Below.refl _ _).alloc (Nat.le_refl _) _
  have HX := Lib.hid (hx.below hB1)
  unfold Tell
  clear hx h0 hf
  go_enter Tryz.func29, Tryz.ntmps29
  go_upto_region 1 with fail
  change Code.wp _ _ _ _ (w.alloc (Obj.cells d.es 69))
  have hM1 := heap_alloc_new w (Obj.cells d.es 69)
  generalize w.alloc (Obj.cells d.es 69) = w1 at hB1 hM1 HX ⊢
  have k0 := (bcell hM1 0).trans (es0 d H0.out)
  have HB1 := Lib.hid hB1
  have HM1 := Lib.hid hM1
  clear hB1 hM1
  have k2 := (bcell HM1.out 2).trans (ED.g2 d)
  go_wp2_with fail
  refine (between_any d.p2 d.n2 d.c2 d.t2 1 255 w1 HX.out.o2.2.2 HX.out.r2).mono ?_
  rintro e w2 ⟨r, rfl, rfl⟩
  dsimp only
  go_wp2_with fail
  go_ret
  exact Told.some _ trivial HB1.out
set_option maxHeartbeats 4000000 in
set_option maxRecDepth 100000 in
theorem plain_47 (d : ED) (w : World) (hx : Ext w d) (hf : Fit d) (h0 : d.x0 = 47) : Tell 29 #[.agg d.es] w True := by
  have H0 := Lib.hid h0
  have HF := Lib.hid hf
  have hB1 : Below w.heap.size w (w.alloc (Obj.cells d.es 69)) := (Below.refl _ _).alloc (Nat.le_refl _) _
  have HX := Lib.hid (hx.below hB1)
  unfold Tell
  clear hx h0 hf
  go_enter Tryz.func29, Tryz.ntmps29
  go_upto_region 1 with fail
  change Code.wp _ _ _ _ (w.alloc (Obj.cells d.es 69))
  have hM1 := heap_alloc_new w (Obj.cells d.es 69)
  generalize w.alloc (Obj.cells d.es 69) = w1 at hB1 hM1 HX ⊢
  have k0 := (bcell hM1 0).trans (es0 d H0.out)
  have HB1 := Lib.hid hB1
  have HM1 := Lib.hid hM1
  clear hB1 hM1
  have k2 := (bcell HM1.out 2).trans (ED.g2 d)
  go_wp2_with fail
  refine (between_any d.p2 d.n2 d.c2 d.t2 1 5000 w1 HX.out.o2.2.2 HX.out.r2).mono ?_
  rintro e w2 ⟨r, rfl, rfl⟩
  dsimp only
  go_wp2_with fail
  go_ret
  exact Told.some _ trivial HB1.out
set_option maxHeartbeats 4000000 in
set_option maxRecDepth 100000 in
theorem plain_23 (d : ED) (w : World) (hx : Ext w d) (hf : Fit d) (h0 : d.x0 = 23) : Tell 29 #[.agg d.es] w True := by
  have H0 := Lib.hid h0
  have HF := Lib.hid hf
  have hB1 : Below w.heap.size w (w.alloc (Obj.cells d.es 69)) := (Below.refl _ _).alloc (Nat.le_refl _) _
  have HX := Lib.hid (hx.below hB1)
  unfold Tell
  clear hx h0 hf
  go_enter Tryz.func29, Tryz.ntmps29
  go_upto_region 1 with fail
  change Code.wp _ _ _ _ (w.alloc (Obj.cells d.es 69))
  have hM1 := heap_alloc_new w (Obj.cells d.es 69)
  generalize w.alloc (Obj.cells d.es 69) = w1 at hB1 hM1 HX ⊢
  have k0 := (bcell hM1 0).trans (es0 d H0.out)
  have HB1 := Lib.hid hB1
  have HM1 := Lib.hid hM1
  clear hB1 hM1
  go_wp2_with fail
  go_ret
  exact Told.some _ trivial HB1.out
end Go.Proofs.YtgnmgkpfgmpdfaaGreatDoor
end

/- laws.plainExt, by the type (2). -/
section
namespace Go.Proofs.YtgnmgkpfgmpdfaaGreatDoor
open Go.RowKit

set_option maxHeartbeats 4000000 in
set_option maxRecDepth 100000 in
theorem plain_49 (d : ED) (w : World) (hx : Ext w d) (hf : Fit d) (h0 : d.x0 = 49) : Tell 29 #[.agg d.es] w True := by
  have H0 := Lib.hid h0
  have HF := Lib.hid hf
  have hB1 : Below w.heap.size w (w.alloc (Obj.cells d.es 69)) := (Below.refl _ _).alloc (Nat.le_refl _) _
  have HX := Lib.hid (hx.below hB1)
  unfold Tell
  clear hx h0 hf
  go_enter Tryz.func29, Tryz.ntmps29
  go_upto_region 1 with fail
  change Code.wp _ _ _ _ (w.alloc (Obj.cells d.es 69))
  have hM1 := heap_alloc_new w (Obj.cells d.es 69)
  generalize w.alloc (Obj.cells d.es 69) = w1 at hB1 hM1 HX ⊢
  have k0 := (bcell hM1 0).trans (es0 d H0.out)
  have HB1 := Lib.hid hB1
  have HM1 := Lib.hid hM1
  clear hB1 hM1
  go_wp2_with fail
  go_ret
  exact Told.some _ trivial HB1.out
set_option maxHeartbeats 4000000 in
set_option maxRecDepth 100000 in
theorem plain_42 (d : ED) (w : World) (hx : Ext w d) (hf : Fit d) (h0 : d.x0 = 42) : Tell 29 #[.agg d.es] w True := by
  have H0 := Lib.hid h0
  have HF := Lib.hid hf
  have hB1 : Below w.heap.size w (w.alloc (Obj.cells d.es 69)) := (Below.refl _ _).alloc (Nat.le_refl _) _
  have HX := Lib.hid (hx.below hB1)
  unfold Tell
  clear hx h0 hf
  go_enter Tryz.func29, Tryz.ntmps29
  go_upto_region 1 with fail
  change Code.wp _ _ _ _ (w.alloc (Obj.cells d.es 69))
  have hM1 := heap_alloc_new w (Obj.cells d.es 69)
  generalize w.alloc (Obj.cells d.es 69) = w1 at hB1 hM1 HX ⊢
  have k0 := (bcell hM1 0).trans (es0 d H0.out)
  have HB1 := Lib.hid hB1
  have HM1 := Lib.hid hM1
  clear hB1 hM1
  go_wp2_with fail
  go_ret
  exact Told.some _ trivial HB1.out
set_option maxHeartbeats 4000000 in
set_option maxRecDepth 100000 in
theorem plain_65281 (d : ED) (w : World) (hx : Ext w d) (hf : Fit d) (h0 : d.x0 = 65281) : Tell 29 #[.agg d.es] w True := by
  have H0 := Lib.hid h0
  have HF := Lib.hid hf
  have hB1 : Below w.heap.size w (w.alloc (Obj.cells d.es 69)) := (Below.refl _ _).alloc (Nat.le_refl _) _
  have HX := Lib.hid (hx.below hB1)
  unfold Tell
  clear hx h0 hf
  go_enter Tryz.func29, Tryz.ntmps29
  go_upto_region 1 with fail
  change Code.wp _ _ _ _ (w.alloc (Obj.cells d.es 69))
  have hM1 := heap_alloc_new w (Obj.cells d.es 69)
  generalize w.alloc (Obj.cells d.es 69) = w1 at hB1 hM1 HX ⊢
  have k0 := (bcell hM1 0).trans (es0 d H0.out)
  have HB1 := Lib.hid hB1
  have HM1 := Lib.hid hM1
  clear hB1 hM1
  go_wp2_with fail
  go_ret
  exact Told.some _ trivial HB1.out
set_option maxHeartbeats 4000000 in
set_option maxRecDepth 100000 in
theorem plain_43 (d : ED) (w : World) (hx : Ext w d) (hf : Fit d) (h0 : d.x0 = 43) : Tell 29 #[.agg d.es] w True := by
  have H0 := Lib.hid h0
  have HF := Lib.hid hf
  have hB1 : Below w.heap.size w (w.alloc (Obj.cells d.es 69)) := (Below.refl _ _).alloc (Nat.le_refl _) _
  have HX := Lib.hid (hx.below hB1)
  unfold Tell
  clear hx h0 hf
  go_enter Tryz.func29, Tryz.ntmps29
  go_upto_region 1 with fail
  change Code.wp _ _ _ _ (w.alloc (Obj.cells d.es 69))
  have hM1 := heap_alloc_new w (Obj.cells d.es 69)
  generalize w.alloc (Obj.cells d.es 69) = w1 at hB1 hM1 HX ⊢
  have k0 := (bcell hM1 0).trans (es0 d H0.out)
  have HB1 := Lib.hid hB1
  have HM1 := Lib.hid hM1
  clear hB1 hM1
  have k3 := (bcell HM1.out 3).trans (ED.g3 d)
  by_cases b2 : (d.n3 : Int) > 1
  · by_cases b1 : (d.n3 : Int) < 127
    · go_wp2_with fail
      have hb5 := (Below.refl w1.heap.size w1).alloc (Nat.le_refl _) (Obj.cells #[.int .u16 65279, .int .u16 65277, .int .u16 65276] 28)
      have hs5 := new_sl1 w1 #[.int .u16 65279, .int .u16 65277, .int .u16 65276] 3 (fun j => ([65279, 65277, 65276] : List Int).getD j 0) (fun j hj => by
        match j, hj with
        | 0, _ => rfl
        | 1, _ => rfl
        | 2, _ => rfl
        | j + 3, hj => omega)
      generalize w1.alloc (Obj.cells #[.int .u16 65279, .int .u16 65277, .int .u16 65276] 28) = w5 at hb5 hs5 ⊢
      have HB5 := Lib.hid (HB1.out.trans (hb5.mono HB1.out.size))
      have HS3 := Lib.hid (HX.out.r3.below hb5)
      clear hb5
      refine (all_any d.p3 d.n3 d.c3 d.u3 (some ⟨w1.heap.size, 0, none⟩) 3 3 _ w5 HX.out.o3.2.2 HS3.out (by decide) hs5).mono ?_
      rintro e w6 ⟨r, rfl, rfl⟩
      clear hs5
      dsimp only
      go_wp2_with fail
      go_ret
      exact Told.some _ trivial HB5.out
    · go_wp2_with fail
      go_ret
      exact Told.some _ trivial HB1.out
  · go_wp2_with fail
    go_ret
    exact Told.some _ trivial HB1.out
set_option maxHeartbeats 4000000 in
set_option maxRecDepth 100000 in
theorem plain_44 (d : ED) (w : World) (hx : Ext w d) (hf : Fit d) (h0 : d.x0 = 44) : Tell 29 #[.agg d.es] w True := by
  have H0 := Lib.hid h0
  have HF := Lib.hid hf
  have hB1 : Below w.heap.size w (w.alloc (Obj.cells d.es 69)) := (Below.refl _ _).alloc (Nat.le_refl _) _
  have HX := Lib.hid (hx.below hB1)
  unfold Tell
  clear hx h0 hf
  go_enter Tryz.func29, Tryz.ntmps29
  go_upto_region 1 with fail
  change Code.wp _ _ _ _ (w.alloc (Obj.cells d.es 69))
  have hM1 := heap_alloc_new w (Obj.cells d.es 69)
  generalize w.alloc (Obj.cells d.es 69) = w1 at hB1 hM1 HX ⊢
  have k0 := (bcell hM1 0).trans (es0 d H0.out)
  have HB1 := Lib.hid hB1
  have HM1 := Lib.hid hM1
  clear hB1 hM1
  have k1 := (bcell HM1.out 1).trans (ED.g1 d)
  by_cases b2 : (d.s1.size : Int) > 0
  · by_cases b1 : (d.s1.size : Int) ≤ 59999
    · go_wp2_with fail
      go_ret
      exact Told.some _ trivial HB1.out
    · go_wp2_with fail
      go_ret
      exact Told.some _ trivial HB1.out
  · go_wp2_with fail
    go_ret
    exact Told.some _ trivial HB1.out
set_option maxHeartbeats 4000000 in
set_option maxRecDepth 100000 in
theorem plain_54 (d : ED) (w : World) (hx : Ext w d) (hf : Fit d) (h0 : d.x0 = 54) : Tell 29 #[.agg d.es] w True := by
  have H0 := Lib.hid h0
  have HF := Lib.hid hf
  have hB1 : Below w.heap.size w (w.alloc (Obj.cells d.es 69)) := (Below.refl _ _).alloc (Nat.le_refl _) _
  have HX := Lib.hid (hx.below hB1)
  unfold Tell
  clear hx h0 hf
  go_enter Tryz.func29, Tryz.ntmps29
  go_upto_region 1 with fail
  change Code.wp _ _ _ _ (w.alloc (Obj.cells d.es 69))
  have hM1 := heap_alloc_new w (Obj.cells d.es 69)
  generalize w.alloc (Obj.cells d.es 69) = w1 at hB1 hM1 HX ⊢
  have k0 := (bcell hM1 0).trans (es0 d H0.out)
  have HB1 := Lib.hid hB1
  have HM1 := Lib.hid hM1
  clear hB1 hM1
  have k1 := (bcell HM1.out 1).trans (ED.g1 d)
  by_cases b1 : (d.s1.size : Int) < 256
  · go_wp2_with fail
    go_ret
    exact Told.some _ trivial HB1.out
  · go_wp2_with fail
    go_ret
    exact Told.some _ trivial HB1.out
set_option maxHeartbeats 4000000 in
set_option maxRecDepth 100000 in
theorem plain_45 (d : ED) (w : World) (hx : Ext w d) (hf : Fit d) (h0 : d.x0 = 45) : Tell 29 #[.agg d.es] w True := by
  have H0 := Lib.hid h0
  have HF := Lib.hid hf
  have hB1 : Below w.heap.size w (w.alloc (Obj.cells d.es 69)) := (Below.refl _ _).alloc (Nat.le_refl _) _
  have HX := Lib.hid (hx.below hB1)
  unfold Tell
  clear hx h0 hf
  go_enter Tryz.func29, Tryz.ntmps29
  go_upto_region 1 with fail
  change Code.wp _ _ _ _ (w.alloc (Obj.cells d.es 69))
  have hM1 := heap_alloc_new w (Obj.cells d.es 69)
  generalize w.alloc (Obj.cells d.es 69) = w1 at hB1 hM1 HX ⊢
  have k0 := (bcell hM1 0).trans (es0 d H0.out)
  have HB1 := Lib.hid hB1
  have HM1 := Lib.hid hM1
  clear hB1 hM1
  have k3 := (bcell HM1.out 3).trans (ED.g3 d)
  by_cases b1 : (d.n3 : Int) < 256
  · go_wp2_with fail
    have hb5 := (Below.refl w1.heap.size w1).alloc (Nat.le_refl _) (Obj.cells #[.int .u16 0, .int .u16 1] 28)
    have hs5 := new_sl1 w1 #[.int .u16 0, .int .u16 1] 2 (fun j => ([0, 1] : List Int).getD j 0) (fun j hj => by
      match j, hj with
      | 0, _ => rfl
      | 1, _ => rfl
      | j + 2, hj => omega)
    generalize w1.alloc (Obj.cells #[.int .u16 0, .int .u16 1] 28) = w5 at hb5 hs5 ⊢
    have HB5 := Lib.hid (HB1.out.trans (hb5.mono HB1.out.size))
    have HS3 := Lib.hid (HX.out.r3.below hb5)
    clear hb5
    refine (all_any d.p3 d.n3 d.c3 d.u3 (some ⟨w1.heap.size, 0, none⟩) 2 2 _ w5 HX.out.o3.2.2 HS3.out (by decide) hs5).mono ?_
    rintro e w6 ⟨r, rfl, rfl⟩
    clear hs5
    dsimp only
    go_wp2_with fail
    go_ret
    exact Told.some _ trivial HB5.out
  · go_wp2_with fail
    go_ret
    exact Told.some _ trivial HB1.out
end Go.Proofs.YtgnmgkpfgmpdfaaGreatDoor
end
