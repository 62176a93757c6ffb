/- laws.offered. -/
import Derived.Test.YtgnmgkpfgmpdfaaGreatDoorSChk3
import Derived.Test.YtgnmgkpfgmpdfaaGreatDoorSSrtp
set_option linter.unusedVariables false
set_option linter.unusedSimpArgs false
namespace Go.Proofs.YtgnmgkpfgmpdfaaGreatDoor
open Go.RowKit

/-- A row of one's own is a slice whose places hold it. -/
theorem own_sl {w : World} {base e n : Nat} {v : Value} {xs : List Value} (h : w.ownsRow base e 1 v n xs) : ∃ p c, v = .slice p n c ∧ ∀ j u, xs[j]? = some u → ∃ b o, p = some ⟨b, o, none⟩ ∧ w.cell? ⟨b, o + j, none⟩ = some u := by
  obtain ⟨hl, h2⟩ := h
  rcases h2 with ⟨rfl, rfl⟩ | ⟨g, cap, cur, rfl, _, hh, hc, _, _, ht⟩
  · exact ⟨none, 0, rfl, fun j u hj => by rw [List.getElem?_eq_none (by omega)] at hj; cases hj⟩
  · refine ⟨_, _, rfl, fun j u hj => ⟨_, _, rfl, ?_⟩⟩
    rw [Nat.zero_add, bcell hh]
    have hjn : j < n := by have := (List.getElem?_eq_some_iff.1 hj).1; omega
    have ht' : cur.toList.take n = xs := by simpa using ht
    rw [← ht', List.getElem?_take_of_lt hjn] at hj
    simpa using hj
theorem und26 : Tryz.prog.underlying 26 = some (.slice 9) := u26
theorem off_keep {d : ED} {w4 w5 : World} {base T k : Nat} {v : Value} {xs : List Value} {o : Obj} (hT : w4.heap[T]? = some (Obj.cells #[.string (d.a11 k), .int .u32 (d.z11 k)] 180)) (h : w4.ownsRow base 9 1 v k xs) (hgr : (w4.alloc o).grownBy w5 v.ownBlock) :
    w5.cell? ⟨T, 0, none⟩ = some (.string (d.a11 k)) := by
  have e : w5.heap[T]? = some (Obj.cells #[.string (d.a11 k), .int .u32 (d.z11 k)] 180) := by
    rw [← hT, ← heap_alloc_old w4 o (blt hT)]
    exact hgr.block T (by rw [World.size_alloc]; have := blt hT; omega) (row_ne h hT (by decide))
  exact (bcell e 0).trans rfl
def OffRel (d : ED) (w1 : World) (v : Value) (k : Nat) (wr : World) : Prop := wr.ownsRow w1.heap.size 9 1 v k ((List.range k).map fun j => .string (d.a11 j)) ∧ Below w1.heap.size w1 wr
set_option maxHeartbeats 4000000 in
set_option maxRecDepth 100000 in
theorem offered_any (d : ED) (w : World) (hx : Ext w d) (hf : Fit d) : Tell 67 #[.agg d.es] w True := by
  have hB1 : Below w.heap.size w (w.alloc (Obj.cells d.es 69)) := (Below.refl _ _).alloc (Nat.le_refl _) _
  have HX := Lib.hid (hx.below hB1)
  have gn : (d.n11 : Int) ≤ 2147483647 := by have h : d.n11 ≤ 2147483647 := hf.n11; omega
  have gm : (d.n2 : Int) ≤ 2147483647 := by have h : d.n2 ≤ 2147483647 := hf.n2; omega
  unfold Tell
  clear hx hf
  go_enter Tryz.func67, Tryz.ntmps67
  go_upto_region 1 with fail
  change Code.wp _ _ _ _ (w.alloc (Obj.cells d.es 69))
  have hM1 := heap_alloc_new w (Obj.cells d.es 69)
  generalize w.alloc (Obj.cells d.es 69) = w1 at hB1 hM1 HX ⊢
  have HB1 := Lib.hid hB1
  have k2 := (bcell hM1 2).trans (ED.g2 d)
  have k11 := (bcell hM1 11).trans (ED.g11 d)
  clear hB1 hM1
  go_wp2_with fail
  go_loopw [3, 4, 12] (fun v u i wr => ∃ (k : Nat) (y : Int), k ≤ d.n11 ∧ i = .int .i64 (k : Int) ∧ u = .int .i64 y ∧ OffRel d w1 v k wr) (fun _ _ i _ => d.n11 - (intOf i).toNat)
  case atStart => exact ⟨0, 0, by omega, rfl, rfl, World.ownsRow_nil _ _ _ _, Below.refl _ _⟩
  case round =>
    obtain ⟨k, y, hk, rfl, rfl, hown, hB⟩ := hrel
    have HOWN := Lib.hid hown
    by_cases hlt : k < d.n11
    · obtain ⟨b, o, e11, hm1, hm2⟩ := HX.out.r11 k hlt
      have c1 := bcellv hB hm1
      have c2 := bcellv hB hm2
      clear hm1 hm2 hown
      have g1 : (k : Int) < d.n11 := by omega
      have HB := Lib.hid hB
      clear hB
      go_upto_region 6 with (refine wpList_store_row (o := ⟨none, .store 180 (.tmp 6) (.tmp 15), _, _, _, _⟩) rfl 180 (.tmp 6) (.tmp 15) rfl wr.heap.size #[.string (d.a11 k), .int .u32 (d.z11 k)] (by kernel_rfl) (by kernel_rfl) 180 #[.string ⟨#[]⟩, .int .u32 0] (heap_alloc_new wr _) (by kernel_rfl) rfl (by kernel_rfl) ?_; change wpList _ _ _ _ _ ((wr.alloc (Obj.cells #[.string ⟨#[]⟩, .int .u32 0] 180)).setRow wr.heap.size _); rw [setRow_alloc])
      have hb4 : Below wr.heap.size wr (wr.alloc (Obj.cells #[.string (d.a11 k), .int .u32 (d.z11 k)] 180)) := (Below.refl _ _).alloc (Nat.le_refl _) _
      have hT4 := heap_alloc_new wr (Obj.cells #[.string (d.a11 k), .int .u32 (d.z11 k)] 180)
      have hO4 := own_low HOWN.out hb4
      generalize wr.alloc (Obj.cells #[.string (d.a11 k), .int .u32 (d.z11 k)] 180) = w4 at hb4 hT4 hO4 ⊢
      have t0 : w4.cell? ⟨wr.heap.size, 0, none⟩ = some (.string (d.a11 k)) := (bcell hT4 0).trans rfl
      have HB4 := Lib.hid (HB.out.trans (hb4.mono HB.out.size))
      have HO4 := Lib.hid hO4
      have HT4 := Lib.hid hT4
      clear hb4 hT4 c1 c2 hO4
      generalize wr.heap.size = T at t0 HT4 ⊢
      clear HB HOWN e11
      go_upto_region 7 with (refine app_one rfl (.tmp 16) (.tmp 19) 26 9 (.string ⟨#[]⟩) 16 rfl und26 info9 rfl (by decide) w1.heap.size u3 k ((List.range k).map fun j => .string (d.a11 j)) (by kernel_rfl) (HO4.out.alloc _) w4.heap.size 1 (.string (d.a11 k)) (by kernel_rfl) ((bcell (heap_alloc_new w4 _) 0).trans rfl) rfl (by omega) (by rw [World.size_alloc]; have := HB4.out.size; omega) ?_; intro v' w5 hv hgr)
      have t0' := off_keep (d := d) HT4.out HO4.out hgr
      have hb5 : Below w1.heap.size w1 w5 := (HB4.out.alloc HB4.out.size _).grown hgr (by rw [World.size_alloc]; have := HB4.out.size; omega) (fun k' hk' => (HO4.out.lt k' hk').1)
      have HV := Lib.hid hv
      have HB5 := Lib.hid hb5
      clear hv hgr hb5
      go_wp2_with fail
      go_roundw
      case rel => exact ⟨k + 1, _, by omega, by go_num, rfl, by rw [List.range_succ, List.map_append]; exact HV.out, HB5.out⟩
      case measure => simp [intOf]; omega
    · have k2' := bcellv hB k2
      have k11' := bcellv hB k11
      obtain rfl : k = d.n11 := by omega
      have HB := Lib.hid hB
      obtain ⟨p3, c3, rfl, hcells⟩ := own_sl hown
      have hs3 : Sl1 wr p3 d.n11 fun j => .string (d.a11 j) := fun j hj => hcells j _ (by rw [List.getElem?_map, List.getElem?_range hj]; rfl)
      have HS3 := Lib.hid hs3
      clear hB k2 k11 hown hcells hs3 HOWN
      go_wp2_with fail
      go_loopw [4, 31] (fun u i wq => ∃ (j : Nat) (y : Int), j ≤ d.n2 ∧ i = .int .i64 (j : Int) ∧ u = .int .i64 y ∧ wq = wr) (fun _ i _ => d.n2 - (intOf i).toNat)
      case atStart => exact ⟨0, y, by omega, rfl, rfl, rfl⟩
      case round =>
        obtain ⟨j, y, hj, rfl, rfl, rfl⟩ := hrel
        rename World => wr
        by_cases hlt : j < d.n2
        · obtain ⟨b, o, e2, hm1⟩ := HX.out.r2 j hlt
          have c1 := bcellv HB.out hm1
          have g1 : (j : Int) < d.n2 := by omega
          clear hm1
          go_wp2_with fail
          go_roundw
          case rel => exact ⟨j + 1, _, by omega, by go_num, rfl, by trivial⟩
          case measure => simp [intOf]; omega
        · have g1 : ¬ (j : Int) < d.n2 := by omega
          have HBZ := Lib.hid (HB1.out.trans (HB.out.mono HB1.out.size))
          by_cases h1 : y ≤ 60000
          · by_cases h2 : (d.n11 : Int) = d.n2
            · have HN2 := Lib.hid (show d.n2 ≤ RB by show d.n2 ≤ 140737488351232; omega)
              have HN11 := Lib.hid (show d.n11 ≤ RB by show d.n11 ≤ 140737488351232; omega)
              have HS2 := Lib.hid (HX.out.r2.below HB.out)
              go_wp2_with fail
              refine (between_any p3 d.n11 c3 d.a11 1 5000 wr HN11.out HS3.out).mono ?_
              rintro e w2 ⟨r, rfl, rfl⟩
              dsimp only
              cases r
              · go_wp2_with fail
                go_ret
                exact Told.some _ trivial HBZ.out
              · go_wp2_with fail
                refine (between_any d.p2 d.n2 d.c2 d.t2 32 255 w2 HN2.out HS2.out).mono ?_
                rintro e w3 ⟨r, rfl, rfl⟩
                dsimp only
                go_wp2_with fail
                go_ret
                exact Told.some _ trivial HBZ.out
            · go_wp2_with fail
              go_ret
              exact Told.some _ trivial HBZ.out
          · go_wp2_with fail
            go_ret
            exact Told.some _ trivial HBZ.out
end Go.Proofs.YtgnmgkpfgmpdfaaGreatDoor
