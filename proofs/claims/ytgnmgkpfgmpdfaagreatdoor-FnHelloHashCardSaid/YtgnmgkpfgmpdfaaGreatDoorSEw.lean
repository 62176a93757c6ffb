/- spec.extBody, the other types. -/
import Derived.Test.YtgnmgkpfgmpdfaaGreatDoorSEb1
import Derived.Deep.CutBlock
set_option linter.unusedVariables false
set_option linter.unusedSimpArgs false
section
namespace Go.Proofs.YtgnmgkpfgmpdfaaGreatDoor
open Go.RowKit

theorem ld67 (W : World) (p : Addr) (u : Value) (h : W.cell? p = some u) : (Instr.loadAt 67 (.pointer (some p))).run Tryz.prog W = .ok u W := by
  simp [go_sem, Instr.loadAt, Instr.sureAddr, loadVar, h]
theorem conv_run {a : Act} {x : Operand} {v : Value} {s : ByteArray} {d : Nat} {w : World} (ty : TypeId) (pos : String) (af : Array Edge) (hx : a.eval x = v) (h : (convert 24 9 v).run Tryz.prog w = .ok (.string s) w) :
    (execOp a.eval ⟨some d, .convert 24 9 x, ty, pos, af, none⟩).run Tryz.prog w = .ok (.value (.string s)) w := by
  unfold execOp
  simp only [hx, Sem.run_bind, h, Result.andThen_ok, Sem.run_pure]
set_option maxHeartbeats 4000000 in
set_option maxRecDepth 100000 in
theorem ext_48 (d : ED) (w : World) (hx : Ext w d) (hf : Fit d) (h0 : d.x0 = 48) : Calls Tryz.prog 64 #[.agg d.es] w (Said2 BB w) := by
  have H0 := Lib.hid h0
  have HF := Lib.hid hf
  have hB1 : Below w.heap.size w (w.alloc (Obj.cells d.es 69)) := (Below.refl _ _).alloc (Nat.le_refl _) _
  have HX := Lib.hid (hx.below hB1)
  have gS : d.s1.size ≤ 140737488351232 := hx.h1
  clear hx h0 hf
  go_enter Tryz.func64, Tryz.ntmps64
  go_upto_region 1 with fail
  change Code.wp _ _ _ _ (w.alloc (Obj.cells d.es 69))
  have hM1 := heap_alloc_new w (Obj.cells d.es 69)
  generalize w.alloc (Obj.cells d.es 69) = w1 at hB1 hM1 HX ⊢
  have k0 := (bcell hM1 0).trans (es0 d H0.out)
  have HB1 := Lib.hid hB1
  have HM1 := Lib.hid hM1
  clear hB1 hM1
  have k12q := (bcell HM1.out 12).trans (ED.g12 d)
  have gn : (d.n12 : Int) ≤ 2147483647 := by have h : d.n12 ≤ 2147483647 := HF.out.n12; omega
  have K12Q := Lib.hid k12q
  clear k12q
  go_upto_block 1 with fail
  have k12q := K12Q.out
  go_wp2_with fail
  clear k12q
  go_loopw [4, 5] (fun v i wr => ∃ (k : Nat) (s : ByteArray), k ≤ d.n12 ∧ i = .int .i64 (k : Int) ∧ v = .string s ∧ s.size ≤ 131074 * k ∧ Below w1.heap.size w1 wr) (fun _ i _ => d.n12 - (intOf i).toNat)
  case atStart => exact ⟨0, _, by omega, rfl, rfl, Nat.le_refl _, Below.refl _ _⟩
  case round =>
    obtain ⟨k, s, hk, rfl, rfl, hz, hB⟩ := hrel
    have hz1 : s.size ≤ 281479271677952 := by omega
    have HZ := Lib.hid hz
    clear hz
    by_cases hlt : k < d.n12
    · obtain ⟨c0, o, e12, hm1, hm2⟩ := HX.out.r12 k hlt
      have c1 := bcellv hB hm1
      have c2 := bcellv hB hm2
      have k12 : wr.cell? ⟨w.heap.size, 12, none⟩ = some (.slice (some ⟨c0, o, none⟩) d.n12 d.c12) := by rw [← e12]; exact bcellv hB K12Q.out
      have g1 : (k : Int) < d.n12 := by omega
      obtain ⟨hza, hzz⟩ := HX.out.z12 k hlt
      have hza' : (d.a12 k).size ≤ 140737488351232 := hza
      have hzz' : (d.z12 k).size ≤ 140737488351232 := hzz
      have HB := Lib.hid hB
      clear hB hm1 hm2 hza hzz e12
      go_wp2_with fail
      refine (recLong_some 1 (.inl rfl) (d.a12 k) wr (by omega)).mono ?_
      rintro e w2 ⟨r, rfl, hr, rfl⟩
      rename World => wr
      dsimp only
      have HR := Lib.hid hr
      clear hr
      cases r
      · have hza2 : (d.a12 k).size < 65536 := HR.out (by trivial)
        go_wp2_with fail
        refine (recLong_some 2 (.inr rfl) (d.z12 k) wr (by omega)).mono ?_
        rintro e w2 ⟨r, rfl, hr, rfl⟩
        rename World => wr
        dsimp only
        have HR2 := Lib.hid hr
        clear hr
        cases r
        · have hzz2 : (d.z12 k).size < 65536 := HR2.out (by trivial)
          go_upto_region 38 with fail
          have hS0 : Below wr.heap.size wr wr.drew := (Below.refl _ _).drew
          refine wp_region_held (S := fun w2 => Below wr.heap.size wr w2) (by kernel_rfl) ?_
          change wpAnyH _ _ _ _ _ 18 _ _ wr.drew
          refine wpAnyH_takeG (i := 0) (d := 145) (g := none) (op := (Op.move (Operand.tmp 4))) (v := .string s) (by kernel_rfl) (by kernel_rfl) (by kernel_rfl) (by kernel_rfl) (fun _ _ _ h => h) rfl (fun _ _ _ _ _ => by kernel_rfl) hS0 ?_
          refine wpAnyH_takeG (i := 1) (d := 146) (g := none) (op := (Op.fieldAddr 69 (Operand.tmp 1) 12)) (v := .pointer (some ⟨w.heap.size, 12, none⟩)) (by kernel_rfl) (by kernel_rfl) (by kernel_rfl) (by kernel_rfl) (fun _ _ _ h => h) rfl (fun _ _ _ _ _ => by kernel_rfl) hS0 ?_
          refine wpAnyH_ldG (i := 2) (d := 147) (g := none) (t := 67) (x := (Operand.tmp 146)) (p := ⟨w.heap.size, 12, none⟩) (u := .slice (some ⟨c0, o, none⟩) d.n12 d.c12) (by kernel_rfl) (by kernel_rfl) (by kernel_rfl) (by kernel_rfl) (fun _ _ _ h => h) rfl (by kernel_rfl) (fun w2 h1 => ld67 w2 _ _ (bcellv h1 k12)) hS0 ?_
          refine wpAnyH_takeG (i := 3) (d := 148) (g := none) (op := (Op.move (Operand.tmp 5))) (v := .int .i64 (k : Int)) (by kernel_rfl) (by kernel_rfl) (by kernel_rfl) (by kernel_rfl) (fun _ _ _ h => h) rfl (fun _ _ _ _ _ => by kernel_rfl) hS0 ?_
          refine wpAnyH_takeG (i := 4) (d := 149) (g := none) (op := (Op.indexAddr 67 (Operand.tmp 147) (Operand.tmp 148))) (v := .pointer (some ⟨c0, o + k * 2, none⟩)) (by kernel_rfl) (by kernel_rfl) (by kernel_rfl) (by kernel_rfl) (fun _ _ _ h => h) rfl (fun ty pos af w2 _ => idx_run _ _ _ (by kernel_rfl) (by kernel_rfl) w2 (idxAt2_67 d.c12 hlt w2)) hS0 ?_
          refine wpAnyH_takeG (i := 5) (d := 150) (g := none) (op := (Op.fieldAddr 183 (Operand.tmp 149) 0)) (v := .pointer (some ⟨c0, o + k * 2, none⟩)) (by kernel_rfl) (by kernel_rfl) (by kernel_rfl) (by kernel_rfl) (fun _ _ _ h => h) rfl (fun _ _ _ _ _ => by kernel_rfl) hS0 ?_
          refine wpAnyH_ldG (i := 6) (d := 151) (g := none) (t := 9) (x := (Operand.tmp 150)) (p := ⟨c0, o + k * 2, none⟩) (u := .string (d.a12 k)) (by kernel_rfl) (by kernel_rfl) (by kernel_rfl) (by kernel_rfl) (fun _ _ _ h => h) rfl (by kernel_rfl) (fun w2 h1 => ld9 w2 _ _ (bcellv h1 c1)) hS0 ?_
          refine wpAnyH_takeG (i := 8) (d := 153) (g := none) (op := (Op.fieldAddr 69 (Operand.tmp 1) 12)) (v := .pointer (some ⟨w.heap.size, 12, none⟩)) (by kernel_rfl) (by kernel_rfl) (by kernel_rfl) (by kernel_rfl) (fun _ _ _ h => h) rfl (fun _ _ _ _ _ => by kernel_rfl) hS0 ?_
          refine wpAnyH_ldG (i := 9) (d := 154) (g := none) (t := 67) (x := (Operand.tmp 153)) (p := ⟨w.heap.size, 12, none⟩) (u := .slice (some ⟨c0, o, none⟩) d.n12 d.c12) (by kernel_rfl) (by kernel_rfl) (by kernel_rfl) (by kernel_rfl) (fun _ _ _ h => h) rfl (by kernel_rfl) (fun w2 h1 => ld67 w2 _ _ (bcellv h1 k12)) hS0 ?_
          refine wpAnyH_takeG (i := 10) (d := 155) (g := none) (op := (Op.move (Operand.tmp 5))) (v := .int .i64 (k : Int)) (by kernel_rfl) (by kernel_rfl) (by kernel_rfl) (by kernel_rfl) (fun _ _ _ h => h) rfl (fun _ _ _ _ _ => by kernel_rfl) hS0 ?_
          refine wpAnyH_takeG (i := 11) (d := 156) (g := none) (op := (Op.indexAddr 67 (Operand.tmp 154) (Operand.tmp 155))) (v := .pointer (some ⟨c0, o + k * 2, none⟩)) (by kernel_rfl) (by kernel_rfl) (by kernel_rfl) (by kernel_rfl) (fun _ _ _ h => h) rfl (fun ty pos af w2 _ => idx_run _ _ _ (by kernel_rfl) (by kernel_rfl) w2 (idxAt2_67 d.c12 hlt w2)) hS0 ?_
          refine wpAnyH_takeG (i := 12) (d := 157) (g := none) (op := (Op.fieldAddr 183 (Operand.tmp 156) 1)) (v := .pointer (some ⟨c0, o + k * 2 + 1, none⟩)) (by kernel_rfl) (by kernel_rfl) (by kernel_rfl) (by kernel_rfl) (fun _ _ _ h => h) rfl (fun _ _ _ _ _ => by kernel_rfl) hS0 ?_
          refine wpAnyH_ldG (i := 13) (d := 158) (g := none) (t := 9) (x := (Operand.tmp 157)) (p := ⟨c0, o + k * 2 + 1, none⟩) (u := .string (d.z12 k)) (by kernel_rfl) (by kernel_rfl) (by kernel_rfl) (by kernel_rfl) (fun _ _ _ h => h) rfl (by kernel_rfl) (fun w2 h1 => ld9 w2 _ _ (bcellv h1 c2)) hS0 ?_
          refine wpAnyH_call (i := 7) (f := 50) (xs := #[(Operand.tmp 151), (Operand.const (Value.int IntKind.i64 1))]) (ats := #[9, 3]) (d := 152) (vs := #[.string (d.a12 k), .int .i64 1]) (by kernel_rfl) (by kernel_rfl) (by kernel_rfl) (by kernel_rfl) ((recVec_some (d.a12 k) 1 wr.drew (by omega) (by omega) (by omega)).mono ?_)
          rintro e w3 ⟨N1, rfl, hn1, hb3⟩
          have hS3 : Below wr.heap.size wr w3 := hS0.trans (hb3.mono hS0.size)
          refine ⟨_, rfl, hS3, ?_⟩
          clear hb3
          refine wpAnyH_call (i := 14) (f := 50) (xs := #[(Operand.tmp 158), (Operand.const (Value.int IntKind.i64 2))]) (ats := #[9, 3]) (d := 159) (vs := #[.string (d.z12 k), .int .i64 2]) (by kernel_rfl) (by kernel_rfl) (by kernel_rfl) (by kernel_rfl) ((recVec_some (d.z12 k) 2 w3 (by omega) (by omega) (by omega)).mono ?_)
          rintro e w4 ⟨N2, rfl, hn2, hb4⟩
          have hS4 : Below wr.heap.size wr w4 := hS3.trans (hb4.mono hS3.size)
          refine ⟨_, rfl, hS4, ?_⟩
          clear hb4 hS3
          refine wpAnyH_takeG (i := 15) (d := 160) (g := none) (op := (Op.binOp BinOp.add 9 (Operand.tmp 152) (Operand.tmp 159) 9)) (v := .string (N1 ++ N2)) (by kernel_rfl) (by kernel_rfl) (by kernel_rfl) (by kernel_rfl) (fun _ _ _ h => h) rfl (fun ty pos af w2 _ => cat_run _ _ _ (by kernel_rfl) (by kernel_rfl) (by omega) w2) hS4 ?_
          refine wpAnyH_takeG (i := 16) (d := 161) (g := none) (op := (Op.binOp BinOp.add 9 (Operand.tmp 145) (Operand.tmp 160) 9)) (v := .string (s ++ (N1 ++ N2))) (by kernel_rfl) (by kernel_rfl) (by kernel_rfl) (by kernel_rfl) (fun _ _ _ h => h) rfl (fun ty pos af w2 _ => cat_run _ _ _ (by kernel_rfl) (by kernel_rfl) (by rw [ByteArray.size_append]; omega) w2) hS4 ?_
          refine wpAnyH_takeG (i := 17) (d := 4) (g := none) (op := (Op.assign (Operand.tmp 161))) (v := .string (s ++ (N1 ++ N2))) (by kernel_rfl) (by kernel_rfl) (by kernel_rfl) (by kernel_rfl) (fun _ _ _ h => h) rfl (fun _ _ _ _ _ => by kernel_rfl) hS4 ?_
          refine wpAnyH_done (by kernel_rfl) ?_ 0
          simp only [Act.put, List.setIfInBounds_toArray, List.set_cons_zero, List.set_cons_succ]
          have HB4 := Lib.hid (HB.out.trans (hS4.mono HB.out.size))
          have HZ4 := Lib.hid (show (s ++ (N1 ++ N2)).size ≤ 131074 * (k + 1) by rw [ByteArray.size_append, ByteArray.size_append]; have := HZ.out; omega)
          clear hS0 hS4
          go_wp2_with fail
          go_roundw
          case rel => exact ⟨k + 1, s ++ (N1 ++ N2), by omega, by go_num, rfl, HZ4.out, HB4.out⟩
          case measure => simp [intOf]; omega
        · have HBW := Lib.hid (HB1.out.trans (HB.out.mono HB1.out.size))
          go_wp2_with fail
          go_ret2
          exact Said2.mk _ _ (Nat.zero_le _) HBW.out
      · have HBW := Lib.hid (HB1.out.trans (HB.out.mono HB1.out.size))
        go_wp2_with fail
        go_ret2
        exact Said2.mk _ _ (Nat.zero_le _) HBW.out
    · have k12 := bcellv hB K12Q.out
      have HBW := Lib.hid (HB1.out.trans (hB.mono HB1.out.size))
      obtain rfl : k = d.n12 := by omega
      clear hB
      go_wp2_with fail
      refine (recVec_some s 2 wr (by omega) (by omega) (by omega)).mono ?_
      rintro e w3 ⟨N1, rfl, hn1, hb3⟩
      have hn2 : N1.size ≤ 281479271677954 := by omega
      have HBY := Lib.hid (HBW.out.trans (hb3.mono HBW.out.size))
      clear hb3 hn1
      dsimp only
      go_wp2_with fail
      refine (recLong_some 2 (.inr rfl) s w3 (by omega)).mono ?_
      rintro e w4 ⟨r, rfl, _, rfl⟩
      dsimp only
      go_wp2_with fail
      go_ret2
      exact Said2.mk N1 _ (by show N1.size ≤ _; omega) HBY.out
set_option maxHeartbeats 4000000 in
set_option maxRecDepth 100000 in
theorem ext_51 (d : ED) (w : World) (hx : Ext w d) (hf : Fit d) (h0 : d.x0 = 51) : Calls Tryz.prog 64 #[.agg d.es] w (Said2 BB w) := by
  have H0 := Lib.hid h0
  have HF := Lib.hid hf
  have hB1 : Below w.heap.size w (w.alloc (Obj.cells d.es 69)) := (Below.refl _ _).alloc (Nat.le_refl _) _
  have HX := Lib.hid (hx.below hB1)
  have gS : d.s1.size ≤ 140737488351232 := hx.h1
  clear hx h0 hf
  go_enter Tryz.func64, Tryz.ntmps64
  go_upto_region 1 with fail
  change Code.wp _ _ _ _ (w.alloc (Obj.cells d.es 69))
  have hM1 := heap_alloc_new w (Obj.cells d.es 69)
  generalize w.alloc (Obj.cells d.es 69) = w1 at hB1 hM1 HX ⊢
  have k0 := (bcell hM1 0).trans (es0 d H0.out)
  have HB1 := Lib.hid hB1
  have HM1 := Lib.hid hM1
  clear hB1 hM1
  have k8 := (bcell HM1.out 8).trans (ED.g8 d)
  have k9 := (bcell HM1.out 9).trans (ED.g9 d)
  have k10 := (bcell HM1.out 10).trans (ED.g10 d)
  by_cases h10 : (d.n10 : Int) = 1
  · by_cases z8 : (d.n8 : Int) = 0
    · by_cases z9 : (d.n9 : Int) = 0
      · obtain ⟨b9, o9, e9, c1⟩ := HX.out.r10 0 (by omega)
        simp only [Nat.add_zero] at c1
        have g9 : (0 : Int) < d.n10 := by omega
        have k10' : w1.cell? ⟨w.heap.size, 10, none⟩ = some (.slice (some ⟨b9, o9, none⟩) d.n10 d.c10) := by rw [← e9]; exact k10
        clear k10 e9
        go_wp2_with fail
        refine (recNum_some _ 2 w1 (by omega) (by omega)).mono ?_
        rintro e w2 ⟨s, rfl, hs, hb2⟩
        have HB2 := Lib.hid (HB1.out.trans (hb2.mono HB1.out.size))
        have HS := Lib.hid hs
        clear hb2 hs
        dsimp only
        go_wp2_with fail
        go_ret2
        exact Said2.mk s _ (by have h : s.size = 2 := HS.out; show s.size ≤ _; omega) HB2.out
      · by_cases h9 : (d.n9 : Int) = 1
        · go_wp2_with fail
          all_goals
            go_ret2
            exact Said2.mk _ _ (Nat.zero_le _) HB1.out
        · go_wp2_with fail
          all_goals
            go_ret2
            exact Said2.mk _ _ (Nat.zero_le _) HB1.out
    · by_cases h9 : (d.n9 : Int) = 1
      · go_wp2_with fail
        all_goals
          go_ret2
          exact Said2.mk _ _ (Nat.zero_le _) HB1.out
      · by_cases z9 : (d.n9 : Int) = 0
        · go_wp2_with fail
          all_goals
            go_ret2
            exact Said2.mk _ _ (Nat.zero_le _) HB1.out
        · go_wp2_with fail
          all_goals
            go_ret2
            exact Said2.mk _ _ (Nat.zero_le _) HB1.out
  · by_cases z10 : (d.n10 : Int) = 0
    · by_cases h9 : (d.n9 : Int) = 1
      · by_cases z8 : (d.n8 : Int) = 0
        · go_wp2_with fail
          refine (extshares_any d.p9 d.n9 d.c9 d.a9 d.z9 w1 HF.out.n9 HX.out.r9 HX.out.z9).mono ?_
          rintro e w2 ⟨s, b, rfl, hs, hb2⟩
          have HB2 := Lib.hid (HB1.out.trans (hb2.mono HB1.out.size))
          have HS := Lib.hid hs
          clear hb2 hs
          dsimp only
          go_wp2_with fail
          go_ret2
          exact Said2.mk s b (by have h : s.size ≤ 65540 * d.n9 := HS.out; have h2 : d.n9 ≤ 2147483647 := HF.out.n9; show s.size ≤ _; omega) HB2.out
        · go_wp2_with fail
          all_goals
            go_ret2
            exact Said2.mk _ _ (Nat.zero_le _) HB1.out
      · by_cases z9 : (d.n9 : Int) = 0
        · go_wp2_with fail
          refine (extshares_any d.p8 d.n8 d.c8 d.a8 d.z8 w1 HF.out.n8 HX.out.r8 HX.out.z8).mono ?_
          rintro e w2 ⟨s, b, rfl, hs, hb2⟩
          have hs1 : s.size ≤ 140746078289920 := by have h : s.size ≤ 65540 * d.n8 := hs; have h2 : d.n8 ≤ 2147483647 := HF.out.n8; omega
          have HB2 := Lib.hid (HB1.out.trans (hb2.mono HB1.out.size))
          clear hb2 hs
          dsimp only
          go_wp2_with fail
          refine (recVec_some s 2 w2 (by omega) (by omega) (by omega)).mono ?_
          rintro e w3 ⟨N1, rfl, hn1, hb3⟩
          have hn2 : N1.size ≤ 140746078289922 := by omega
          have HB3 := Lib.hid (HB2.out.trans (hb3.mono HB2.out.size))
          clear hb3 hn1
          dsimp only
          cases b
          · go_wp2_with fail
            go_ret2
            exact Said2.mk N1 _ (by show N1.size ≤ _; omega) HB3.out
          · go_wp2_with fail
            refine (recLong_some 2 (.inr rfl) s w3 (by omega)).mono ?_
            rintro e w4 ⟨r, rfl, _, rfl⟩
            dsimp only
            go_wp2_with fail
            go_ret2
            exact Said2.mk N1 _ (by show N1.size ≤ _; omega) HB3.out
        · go_wp2_with fail
          all_goals
            go_ret2
            exact Said2.mk _ _ (Nat.zero_le _) HB1.out
    · by_cases h9 : (d.n9 : Int) = 1
      · by_cases z8 : (d.n8 : Int) = 0
        · go_wp2_with fail
          all_goals
            go_ret2
            exact Said2.mk _ _ (Nat.zero_le _) HB1.out
        · go_wp2_with fail
          all_goals
            go_ret2
            exact Said2.mk _ _ (Nat.zero_le _) HB1.out
      · by_cases z9 : (d.n9 : Int) = 0
        · go_wp2_with fail
          all_goals
            go_ret2
            exact Said2.mk _ _ (Nat.zero_le _) HB1.out
        · go_wp2_with fail
          all_goals
            go_ret2
            exact Said2.mk _ _ (Nat.zero_le _) HB1.out
set_option maxHeartbeats 4000000 in
set_option maxRecDepth 100000 in
theorem ext_65281 (d : ED) (w : World) (hx : Ext w d) (hf : Fit d) (h0 : d.x0 = 65281) : Calls Tryz.prog 64 #[.agg d.es] w (Said2 BB w) := by
  have H0 := Lib.hid h0
  have HF := Lib.hid hf
  have hB1 : Below w.heap.size w (w.alloc (Obj.cells d.es 69)) := (Below.refl _ _).alloc (Nat.le_refl _) _
  have HX := Lib.hid (hx.below hB1)
  have gS : d.s1.size ≤ 140737488351232 := hx.h1
  clear hx h0 hf
  go_enter Tryz.func64, Tryz.ntmps64
  go_upto_region 1 with fail
  change Code.wp _ _ _ _ (w.alloc (Obj.cells d.es 69))
  have hM1 := heap_alloc_new w (Obj.cells d.es 69)
  generalize w.alloc (Obj.cells d.es 69) = w1 at hB1 hM1 HX ⊢
  have k0 := (bcell hM1 0).trans (es0 d H0.out)
  have HB1 := Lib.hid hB1
  have HM1 := Lib.hid hM1
  clear hB1 hM1
  have k6 := (bcell HM1.out 6).trans (ED.g6 d)
  go_upto_region 52 with fail
  have hS0 : Below w1.heap.size w1 w1.drew := (Below.refl _ _).drew
  refine wp_region_held (S := fun w2 => Below w1.heap.size w1 w2) (by kernel_rfl) ?_
  change wpAnyH _ _ _ _ _ 10 _ _ w1.drew
  refine wpAnyH_takeG (i := 0) (d := 250) (g := none) (op := (Op.fieldAddr 69 (Operand.tmp 1) 6)) (v := .pointer (some ⟨w.heap.size, 6, none⟩)) (by kernel_rfl) (by kernel_rfl) (by kernel_rfl) (by kernel_rfl) (fun _ _ _ h => h) rfl (fun _ _ _ _ _ => by kernel_rfl) hS0 ?_
  refine wpAnyH_ldG (i := 1) (d := 251) (g := none) (t := 22) (x := (Operand.tmp 250)) (p := ⟨w.heap.size, 6, none⟩) (u := .int .u32 d.x6) (by kernel_rfl) (by kernel_rfl) (by kernel_rfl) (by kernel_rfl) (fun _ _ _ h => h) rfl (by kernel_rfl) (fun w2 h1 => ld22 w2 _ _ (bcellv h1 k6)) hS0 ?_
  refine wpAnyH_takeG (i := 2) (d := 252) (g := none) (op := (Op.convert 22 5 (Operand.tmp 251))) (v := .int .u8 (IntKind.u8.wrap d.x6)) (by kernel_rfl) (by kernel_rfl) (by kernel_rfl) (by kernel_rfl) (fun _ _ _ h => h) rfl (fun _ _ _ _ _ => by kernel_rfl) hS0 ?_
  refine wpAnyH_takeG (i := 5) (d := 255) (g := none) (op := (Op.fieldAddr 69 (Operand.tmp 1) 6)) (v := .pointer (some ⟨w.heap.size, 6, none⟩)) (by kernel_rfl) (by kernel_rfl) (by kernel_rfl) (by kernel_rfl) (fun _ _ _ h => h) rfl (fun _ _ _ _ _ => by kernel_rfl) hS0 ?_
  refine wpAnyH_ldG (i := 6) (d := 256) (g := none) (t := 22) (x := (Operand.tmp 255)) (p := ⟨w.heap.size, 6, none⟩) (u := .int .u32 d.x6) (by kernel_rfl) (by kernel_rfl) (by kernel_rfl) (by kernel_rfl) (fun _ _ _ h => h) rfl (by kernel_rfl) (fun w2 h1 => ld22 w2 _ _ (bcellv h1 k6)) hS0 ?_
  refine wpAnyH_takeG (i := 7) (d := 257) (g := none) (op := (Op.binOp BinOp.lss 22 (Operand.tmp 256) (Operand.const (Value.int IntKind.u32 256)) 22)) (v := .bool (decide (d.x6 < 256))) (by kernel_rfl) (by kernel_rfl) (by kernel_rfl) (by kernel_rfl) (fun _ _ _ h => h) rfl (fun _ _ _ _ _ => by kernel_rfl) hS0 ?_
  have hb2 := (Below.refl w1.drew.heap.size w1.drew).alloc (Nat.le_refl _) (Obj.cells #[.int .u8 (IntKind.u8.wrap d.x6)] 5)
  have hS3 : Below w1.heap.size w1 (w1.drew.alloc (Obj.cells #[.int .u8 (IntKind.u8.wrap d.x6)] 5)) := hS0.trans (hb2.mono hS0.size)
  refine wpAnyH_seq (i := 3) (d := 253) (op := (Op.buildSlice 24 1 #[(0, (Operand.tmp 252))])) (v := .slice (some ⟨w1.drew.heap.size, 0, none⟩) 1 1) (w' := w1.drew.alloc (Obj.cells #[.int .u8 (IntKind.u8.wrap d.x6)] 5)) (by kernel_rfl) (by kernel_rfl) (fun _ _ _ => by kernel_rfl) hS3 ?_
  have hc := conv_text (w1.drew.alloc (Obj.cells #[.int .u8 (IntKind.u8.wrap d.x6)] 5)) w1.drew.heap.size 1 1 [.int .u8 (IntKind.u8.wrap d.x6)] rfl (fun j u hj => by
    rw [Nat.zero_add, bcell (heap_alloc_new w1.drew _)]
    simpa using hj) (fun u hu => by
    simp only [List.mem_cons, List.not_mem_nil, or_false] at hu
    subst hu
    exact ⟨_, rfl⟩)
  have hz : (strOf [.int .u8 (IntKind.u8.wrap d.x6)]).size = 1 := by simp [strOf, ByteArray.size]
  generalize strOf [.int .u8 (IntKind.u8.wrap d.x6)] = N1 at hc hz
  refine wpAnyH_seq (i := 4) (d := 254) (op := (Op.convert 24 9 (Operand.tmp 253))) (v := .string N1) (w' := _) (by kernel_rfl) (by kernel_rfl) (fun _ _ _ => conv_run _ _ _ (by kernel_rfl) hc) hS3 ?_
  refine wpAnyH_takeG (i := 8) (d := 2) (g := none) (op := (Op.assign (Operand.tmp 254))) (v := .string N1) (by kernel_rfl) (by kernel_rfl) (by kernel_rfl) (by kernel_rfl) (fun _ _ _ h => h) rfl (fun _ _ _ _ _ => by kernel_rfl) hS3 ?_
  refine wpAnyH_takeG (i := 9) (d := 3) (g := none) (op := (Op.assign (Operand.tmp 257))) (v := .bool (decide (d.x6 < 256))) (by kernel_rfl) (by kernel_rfl) (by kernel_rfl) (by kernel_rfl) (fun _ _ _ h => h) rfl (fun _ _ _ _ _ => by kernel_rfl) hS3 ?_
  refine wpAnyH_done (by kernel_rfl) ?_ 0
  simp only [Act.put, List.setIfInBounds_toArray, List.set_cons_zero, List.set_cons_succ]
  have HBZ := Lib.hid (HB1.out.trans (hS3.mono HB1.out.size))
  clear hS0
  go_wp2_with fail
  go_ret2
  exact Said2.mk N1 _ (by show N1.size ≤ _; omega) HBZ.out
set_option maxHeartbeats 4000000 in
set_option maxRecDepth 100000 in
theorem ext_else (d : ED) (w : World) (h : ¬ Known d.x0) : Calls Tryz.prog 64 #[.agg d.es] w (Said2 BB w) := by
  obtain ⟨x, hx⟩ : ∃ x, d.x0 = x := ⟨_, rfl⟩
  rw [hx] at h
  have H0 := Lib.hid hx
  simp only [Known, List.mem_cons, List.not_mem_nil, or_false, not_or] at h
  obtain ⟨n0, n1, n2, n3, n4, n5, n6, n7, n8, n9, n10, n11, n12, n13, n14, n15, n16, n17, n18⟩ := h
  have hB1 : Below w.heap.size w (w.alloc (Obj.cells d.es 69)) := (Below.refl _ _).alloc (Nat.le_refl _) _
  clear hx
  go_enter Tryz.func64, Tryz.ntmps64
  go_upto_region 1 with fail
  change Code.wp _ _ _ _ (w.alloc (Obj.cells d.es 69))
  have hM1 := heap_alloc_new w (Obj.cells d.es 69)
  generalize w.alloc (Obj.cells d.es 69) = w1 at hB1 hM1 ⊢
  have k0 := (bcell hM1 0).trans (es0 d H0.out)
  have HB1 := Lib.hid hB1
  clear hB1 hM1
  go_wp2_with fail
  go_ret2
  exact Said2.mk _ _ (Nat.zero_le _) HB1.out
theorem extbody_any (d : ED) (w : World) (hx : Ext w d) (hf : Fit d) : Calls Tryz.prog 64 #[.agg d.es] w (Said2 BB w) := by
  by_cases hk : Known d.x0
  · simp only [Known, List.mem_cons, List.not_mem_nil, or_false] at hk
    rcases hk with h | h | h | h | h | h | h | h | h | h | h | h | h | h | h | h | h | h | h
    · exact ext_0 d w hx hf h
    · exact ext_10 d w hx hf h
    · exact ext_11 d w hx hf h
    · exact ext_13 d w hx hf h
    · exact ext_50 d w hx hf h
    · exact ext_14 d w hx hf h
    · exact ext_16 d w hx hf h
    · exact ext_47 d w hx hf h
    · exact ext_23 d w hx hf h
    · exact ext_49 d w hx hf h
    · exact ext_42 d w hx hf h
    · exact ext_65281 d w hx hf h
    · exact ext_41 d w hx hf h
    · exact ext_43 d w hx hf h
    · exact ext_44 d w hx hf h
    · exact ext_45 d w hx hf h
    · exact ext_48 d w hx hf h
    · exact ext_51 d w hx hf h
    · exact ext_54 d w hx hf h
  · exact ext_else d w hk
end Go.Proofs.YtgnmgkpfgmpdfaaGreatDoor
end

/- spec.ExtensionWrite. -/
section
namespace Go.Proofs.YtgnmgkpfgmpdfaaGreatDoor
open Go.RowKit

set_option maxHeartbeats 2000000 in
set_option maxRecDepth 100000 in
theorem extwrite_any (d : ED) (w : World) (hx : Ext w d) (hf : Fit d) : Calls Tryz.prog 28 #[.agg d.es] w (Said2 (fun _ _ => True) w) := by
  have hB1 : Below w.heap.size w (w.alloc (Obj.cells d.es 69)) := (Below.refl _ _).alloc (Nat.le_refl _) _
  have HX := Lib.hid (hx.below hB1)
  have HF := Lib.hid hf
  clear hx hf
  go_enter Tryz.func28, Tryz.ntmps28
  go_upto_region 1 with fail
  change Code.wp _ _ _ _ (w.alloc (Obj.cells d.es 69))
  have hM1 := heap_alloc_new w (Obj.cells d.es 69)
  generalize w.alloc (Obj.cells d.es 69) = w1 at hB1 hM1 HX ⊢
  have k0 := (bcell hM1 0).trans (ED.g0 d)
  have HB1 := Lib.hid hB1
  have HM1 := Lib.hid hM1
  clear hB1 hM1
  go_wp2_with (with_reducible refine wpList_load_row rfl 69 (.tmp 1) rfl w.heap.size (by kernel_rfl) 69 d.es (0, 0) _ HM1.out Tryz.underlying69 rfl (hi69 d) ?_)
  refine (extbody_any d w1 HX.out HF.out).mono ?_
  rintro e w2 ⟨s, b, rfl, hs, hb2⟩
  have hs1 : s.size ≤ 1152921504606846976 := hs
  have k0 := bcellv hb2 k0
  have HB2 := Lib.hid (HB1.out.trans (hb2.mono HB1.out.size))
  clear hb2 hs
  dsimp only
  cases b
  · go_wp2_with fail
    go_ret2
    exact Said2.mk _ _ trivial HB2.out
  · go_wp2_with fail
    refine (recLong_some 2 (.inr rfl) s w2 (by omega)).mono ?_
    rintro e w3 ⟨r, rfl, hr, rfl⟩
    rename World => w2
    dsimp only
    have HR := Lib.hid hr
    clear hr
    cases r
    · have hs2 : s.size < 65536 := HR.out (by trivial)
      go_wp2_with fail
      refine (recNum_some _ 2 w2 (by omega) (by omega)).mono ?_
      rintro e w3 ⟨N1, rfl, hn1, hb3⟩
      have HB3 := Lib.hid (HB2.out.trans (hb3.mono HB2.out.size))
      have hn1' : N1.size ≤ 2 := by omega
      clear hb3 hn1
      dsimp only
      go_wp2_with fail
      refine (recVec_some s 2 w3 (by omega) (by omega) (by omega)).mono ?_
      rintro e w4 ⟨N2, rfl, hn2, hb4⟩
      have HB4 := Lib.hid (HB3.out.trans (hb4.mono HB3.out.size))
      have hn2' : N2.size ≤ 65540 := by omega
      clear hb4 hn2
      dsimp only
      go_wp2_with fail
      go_ret2
      exact Said2.mk _ _ trivial HB4.out
    · go_wp2_with fail
      go_ret2
      exact Said2.mk _ _ trivial HB2.out
end Go.Proofs.YtgnmgkpfgmpdfaaGreatDoor
end
