/- laws.zzFits7, 6, 15, 14: extensions, entries: an answer, and with true their lists within the bound. -/
import Derived.Test.YtgnmgkpfgmpdfaaGreatDoorSFitA
set_option linter.unusedVariables false
set_option linter.unusedSimpArgs false
namespace Go.Proofs.YtgnmgkpfgmpdfaaGreatDoor
open Go.RowKit

set_option maxHeartbeats 2000000 in
set_option maxRecDepth 100000 in
theorem fits26 (d : ED) (w : World) (hx : Ext w d) : Tell 26 #[.agg d.es] w (Fit d) := by
  have HX := Lib.hid hx
  unfold Tell
  clear hx
  go_enter Tryz.func26, Tryz.ntmps26
  go_upto_region 1 with fail
  change Code.wp _ _ _ _ (w.alloc (Obj.cells d.es 69))
  have hB1 : Below w.heap.size w (w.alloc (Obj.cells d.es 69)) := (Below.refl _ _).alloc (Nat.le_refl _) _
  have hM1 := heap_alloc_new w (Obj.cells d.es 69)
  generalize w.alloc (Obj.cells d.es 69) = w1 at hB1 hM1 ⊢
  have HB1 := Lib.hid hB1
  have HM1 := Lib.hid hM1
  clear hB1 hM1
  have k1 := (bcell HM1.out 1).trans (ED.g1 d)
  by_cases h1 : (d.s1.size : Int) > 2147483647
  · go_wp2_with fail
    go_ret
    exact Told.no HB1.out
  · have k2 := (bcell HM1.out 2).trans (ED.g2 d)
    go_wp2_with fail
    refine (fits11 d.p2 d.n2 d.c2 d.t2 w1 HX.out.o2 (HX.out.r2.below HB1.out)).mono ?_
    rintro e w102 ⟨b, rfl, h2, hb102⟩
    have HM102 := Lib.hid (bblk hb102 HM1.out)
    have HB102 := Lib.hid (HB1.out.trans (hb102.mono HB1.out.size))
    have F102 := Lib.hid h2
    clear hb102 h2
    dsimp only
    cases b
    · go_wp2_with fail
      go_ret
      exact Told.no HB102.out
    · have k3 := (bcell HM102.out 3).trans (ED.g3 d)
      by_cases h3 : (d.n3 : Int) > 2147483647
      · go_wp2_with fail
        go_ret
        exact Told.no HB102.out
      · have k4 := (bcell HM102.out 4).trans (ED.g4 d)
        by_cases h4 : (d.n4 : Int) > 2147483647
        · go_wp2_with fail
          go_ret
          exact Told.no HB102.out
        · have k8 := (bcell HM102.out 8).trans (ED.g8 d)
          go_wp2_with fail
          refine (fits61 d.p8 d.n8 d.c8 d.a8 d.z8 w102 HX.out.o8 (HX.out.r8.below HB102.out)).mono ?_
          rintro e w108 ⟨b, rfl, h8, hb108⟩
          have HM108 := Lib.hid (bblk hb108 HM102.out)
          have HB108 := Lib.hid (HB102.out.trans (hb108.mono HB102.out.size))
          have F108 := Lib.hid h8
          clear hb108 h8
          dsimp only
          cases b
          · go_wp2_with fail
            go_ret
            exact Told.no HB108.out
          · have k9 := (bcell HM108.out 9).trans (ED.g9 d)
            go_wp2_with fail
            refine (fits61 d.p9 d.n9 d.c9 d.a9 d.z9 w108 HX.out.o9 (HX.out.r9.below HB108.out)).mono ?_
            rintro e w109 ⟨b, rfl, h9, hb109⟩
            have HM109 := Lib.hid (bblk hb109 HM108.out)
            have HB109 := Lib.hid (HB108.out.trans (hb109.mono HB108.out.size))
            have F109 := Lib.hid h9
            clear hb109 h9
            dsimp only
            cases b
            · go_wp2_with fail
              go_ret
              exact Told.no HB109.out
            · have k10 := (bcell HM109.out 10).trans (ED.g10 d)
              by_cases h10 : (d.n10 : Int) > 2147483647
              · go_wp2_with fail
                go_ret
                exact Told.no HB109.out
              · have k11 := (bcell HM109.out 11).trans (ED.g11 d)
                go_wp2_with fail
                refine (fits62 d.p11 d.n11 d.c11 d.a11 d.z11 w109 HX.out.o11 (HX.out.r11.below HB109.out)).mono ?_
                rintro e w111 ⟨b, rfl, h11, hb111⟩
                have HM111 := Lib.hid (bblk hb111 HM109.out)
                have HB111 := Lib.hid (HB109.out.trans (hb111.mono HB109.out.size))
                have F111 := Lib.hid h11
                clear hb111 h11
                dsimp only
                cases b
                · go_wp2_with fail
                  go_ret
                  exact Told.no HB111.out
                · have k12 := (bcell HM111.out 12).trans (ED.g12 d)
                  go_wp2_with fail
                  refine (fits63 d.p12 d.n12 d.c12 d.a12 d.z12 w111 HX.out.o12 (HX.out.r12.below HB111.out)).mono ?_
                  rintro e w112 ⟨b, rfl, h12, hb112⟩
                  have HM112 := Lib.hid (bblk hb112 HM111.out)
                  have HB112 := Lib.hid (HB111.out.trans (hb112.mono HB111.out.size))
                  have F112 := Lib.hid h12
                  clear hb112 h12
                  dsimp only
                  cases b
                  · go_wp2_with fail
                    go_ret
                    exact Told.no HB112.out
                  · go_wp2_with fail
                    go_ret
                    exact Told.yes (⟨F102.out (by trivial), by unfold MX; omega, by unfold MX; omega, F108.out (by trivial), F109.out (by trivial), by unfold MX; omega, F111.out (by trivial), F112.out (by trivial)⟩) HB112.out

theorem load_ext (w : World) (b o : Nat) (d : ED) (h : ∀ i u, d.es[i]? = some u → w.cell? ⟨b, o + i, none⟩ = some u) : (Instr.loadAt 69 (.pointer (some ⟨b, o, none⟩))).run Tryz.prog w = .ok (.agg d.es) w :=
  run_loadAt_mid w b o 69 d.es.toList _ (fun j u hj => h j u (by simpa using hj)) Tryz.underlying69 rfl (by kernel_rfl)
theorem hi69 (d : ED) : (Tryz.prog.info? 69).map (·.size) = some d.es.size := by
  show _ = some 13
  kernel_rfl
/-- A load whose run is known. -/
theorem wpList_ld {ops : Array Oper} {rest : List Oper} {o : Oper} {a : Act} {w : World} {Q : Exit → Act → World → Prop} (hgd : o.guard = none) (t : TypeId) (x : Operand) (ho : o.op = .load t x) (p : Addr) (u : Value) (hx : a.eval x = .pointer (some p))
    (hrun : (Instr.loadAt t (.pointer (some p))).run Tryz.prog w = .ok u w) (h : wpList Tryz.prog ops Q rest (a.put o.dst u) w) : wpList Tryz.prog ops Q (o :: rest) a w := by
  unfold wpList
  rw [if_pos (by simp [Region.wanted, hgd])]
  refine .inl ?_
  unfold Oper.wp execOp
  simp only [ho, hx, Sem.run_bind, hrun, Result.andThen_ok, Sem.run_pure, Oper.upon]
  exact h
def zero69 : Array Value := #[.int .u16 0, .string ⟨#[]⟩, .slice none 0 0, .slice none 0 0, .slice none 0 0, .bool false, .int .u32 0, .bool false, .slice none 0 0, .slice none 0 0, .slice none 0 0, .slice none 0 0, .slice none 0 0]
set_option maxHeartbeats 2000000 in
set_option maxRecDepth 100000 in
theorem fits9 (p : Option Addr) (n cap : Nat) (D : Nat → ED) (w : World) (ho : NilOk p n cap) (hs : SlE w p n D) : Tell 9 #[.slice p n cap] w (n ≤ MX ∧ ∀ j, j < n → Fit (D j)) := by
  have HM := Lib.hid hs
  have gn : (n : Int) ≤ 140737488351232 := by have h : n ≤ 140737488351232 := ho.2.2; omega
  unfold Tell
  clear hs ho
  go_enter Tryz.func9, Tryz.ntmps9
  by_cases hc : (n : Int) > 2147483647
  · go_wp2_with fail
    go_ret
    exact Told.no (Below.refl _ _)
  · go_wp2_with fail
    go_loopw [10] (fun i wr => ∃ k : Nat, k ≤ n ∧ i = .int .i64 (k : Int) ∧ Below w.heap.size w wr ∧ ∀ j, j < k → Fit (D j)) (fun i _ => n - (intOf i).toNat)
    case atStart => exact ⟨0, by omega, rfl, Below.refl _ _, fun j hj => absurd hj (by omega)⟩
    case round =>
      obtain ⟨k, hk, rfl, hB, hF⟩ := hrel
      by_cases hlt : k < n
      · obtain ⟨b, o, rfl, hm1, hx⟩ := HM.out k hlt
        have g1 : (k : Int) < n := by omega
        have hld := load_ext wr b (o + k * 13) (D k) (fun i u hu => bcellv hB (hm1 i u hu))
        have HLD := Lib.hid hld
        have HX := Lib.hid (hx.below hB)
        have HB := Lib.hid hB
        have HF := Lib.hid hF
        clear hB hm1 hx hF hld
        go_wp2_with (first | (with_reducible refine wpList_ld rfl 69 (.tmp 12) rfl ⟨b, o + k * 13, none⟩ (.agg (D k).es) (by kernel_rfl) HLD.out ?_) | (with_reducible refine wpList_load_row rfl 69 (.tmp 4) rfl wr.heap.size (by kernel_rfl) 69 (D k).es (0, 0) _ (heap_alloc_new wr _) Tryz.underlying69 rfl (hi69 (D k)) ?_) | refine wpList_store_row (o := ⟨none, .store 69 (.tmp 4) (.tmp 13), _, _, _, _⟩) rfl 69 (.tmp 4) (.tmp 13) rfl wr.heap.size (D k).es (by kernel_rfl) (by kernel_rfl) 69 zero69 (heap_alloc_new wr _) (by kernel_rfl) rfl (ED.one _) ?_; change wpList _ _ _ _ _ ((wr.alloc (Obj.cells zero69 69)).setRow wr.heap.size _); rw [setRow_alloc])
        refine (fits26 (D k) (wr.alloc (Obj.cells (D k).es 69)) (HX.out.below ((Below.refl _ _).alloc (Nat.le_refl _) _))).mono ?_
        rintro e w2 ⟨b, rfl, hfk, hb2⟩
        have hB2 : Below w.heap.size w w2 := (HB.out.alloc HB.out.size _).trans (hb2.mono (by rw [World.size_alloc]; have := HB.out.size; omega))
        have HB2 := Lib.hid hB2
        have HFK := Lib.hid hfk
        clear hb2 hB2 hfk
        dsimp only
        cases b
        · go_wp2_with fail
          go_ret
          exact Told.no HB2.out
        · go_wp2_with fail
          go_roundw
          case rel => exact ⟨k + 1, by omega, by go_num, HB2.out, fun j hj => by
            by_cases e : j = k
            · subst e; exact HFK.out (by trivial)
            · exact HF.out j (by omega)⟩
          case measure => simp [intOf]; omega
      · obtain rfl : k = n := by omega
        have HB := Lib.hid hB
        have HF := Lib.hid hF
        clear hB hF
        go_wp2_with fail
        go_ret
        exact Told.yes ⟨by unfold MX; omega, HF.out⟩ HB.out
/-- A slice of entries. -/
def SlN (w : World) (p : Option Addr) (n : Nat) (z : Nat → ByteArray) (q : Nat → Option Addr) (m c : Nat → Nat) : Prop :=
  ∀ j, j < n → (∃ b o, p = some ⟨b, o, none⟩ ∧ w.cell? ⟨b, o + j * 2, none⟩ = some (.string (z j)) ∧ w.cell? ⟨b, o + j * 2 + 1, none⟩ = some (.slice (q j) (m j) (c j))) ∧ NilOk (q j) (m j) (c j) ∧ ∃ D, SlE w (q j) (m j) D
theorem SlN.below {w w' : World} {p : Option Addr} {n : Nat} {z : Nat → ByteArray} {q : Nat → Option Addr} {m c : Nat → Nat} (h : SlN w p n z q m c) (hb : Below w.heap.size w w') : SlN w' p n z q m c :=
  fun j hj => by
    obtain ⟨⟨b, o, e, h1, h2⟩, h3, D, h4⟩ := h j hj
    exact ⟨⟨b, o, e, bcellv hb h1, bcellv hb h2⟩, h3, D, h4.below hb⟩
set_option maxHeartbeats 2000000 in
theorem fits31 (z : ByteArray) (q : Option Addr) (m c : Nat) (D : Nat → ED) (w : World) (ho : NilOk q m c) (hs : SlE w q m D) : Tell 31 #[.agg #[.string z, .slice q m c]] w True := by
  have HX := Lib.hid hs
  have HO := Lib.hid ho
  unfold Tell
  clear hs ho
  go_enter Tryz.func31, Tryz.ntmps31
  go_upto_region 1 with fail
  change Code.wp _ _ _ _ (w.alloc (Obj.cells #[.string z, .slice q m c] 74))
  have hB1 : Below w.heap.size w (w.alloc (Obj.cells #[.string z, .slice q m c] 74)) := (Below.refl _ _).alloc (Nat.le_refl _) _
  have hM1 := heap_alloc_new w (Obj.cells #[.string z, .slice q m c] 74)
  generalize w.alloc (Obj.cells #[.string z, .slice q m c] 74) = w1 at hB1 hM1 ⊢
  have HB1 := Lib.hid hB1
  have HM1 := Lib.hid hM1
  clear hB1 hM1
  have k0 := (bcell HM1.out 0).trans rfl
  by_cases h0 : (z.size : Int) > 2147483647
  · go_wp2_with fail
    go_ret
    exact Told.no HB1.out
  · have k1 := (bcell HM1.out 1).trans rfl
    go_wp2_with fail
    refine (fits9 q m c D w1 HO.out (HX.out.below HB1.out)).mono ?_
    rintro e w101 ⟨b, rfl, h1, hb101⟩
    have HM101 := Lib.hid (bblk hb101 HM1.out)
    have HB101 := Lib.hid (HB1.out.trans (hb101.mono HB1.out.size))
    have F101 := Lib.hid h1
    clear hb101 h1
    dsimp only
    cases b
    · go_wp2_with fail
      go_ret
      exact Told.no HB101.out
    · go_wp2_with fail
      go_ret
      exact Told.yes (trivial) HB101.out

set_option maxHeartbeats 2000000 in
set_option maxRecDepth 100000 in
theorem fits12 (p : Option Addr) (n cap : Nat) (z : Nat → ByteArray) (q : Nat → Option Addr) (m c : Nat → Nat) (w : World) (ho : NilOk p n cap) (hs : SlN w p n z q m c) : Tell 12 #[.slice p n cap] w True := by
  have HM := Lib.hid hs
  have gn : (n : Int) ≤ 140737488351232 := by have h : n ≤ 140737488351232 := ho.2.2; omega
  unfold Tell
  clear hs ho
  go_enter Tryz.func12, Tryz.ntmps12
  by_cases hc : (n : Int) > 2147483647
  · go_wp2_with fail
    go_ret
    exact Told.no (Below.refl _ _)
  · go_wp2_with fail
    go_loopw [10] (fun i wr => ∃ k : Nat, k ≤ n ∧ i = .int .i64 (k : Int) ∧ Below w.heap.size w wr) (fun i _ => n - (intOf i).toNat)
    case atStart => exact ⟨0, by omega, rfl, Below.refl _ _⟩
    case round =>
      obtain ⟨k, hk, rfl, hB⟩ := hrel
      by_cases hlt : k < n
      · obtain ⟨⟨b, o, rfl, hm1, hm2⟩, hno, D, hD⟩ := HM.out k hlt
        have c1 := bcellv hB hm1
        have c2 := bcellv hB hm2
        clear hm1 hm2
        have g1 : (k : Int) < n := by omega
        have hld : (Instr.loadAt 74 (.pointer (some ⟨b, o + k * 2, none⟩))).run Tryz.prog wr = .ok (.agg #[.string (z k), .slice (q k) (m k) (c k)]) wr :=
          run_loadAt_mid wr b (o + k * 2) 74 [.string (z k), .slice (q k) (m k) (c k)] _ (fun j u hj => by
            match j, hj with
            | 0, hj => simp at hj; subst hj; exact c1
            | 1, hj => simp at hj; subst hj; exact c2
            | j + 2, hj => simp at hj) Tryz.underlying74 rfl (by kernel_rfl)
        have HB := Lib.hid hB
        have HD := Lib.hid (hD.below hB)
        have HO := Lib.hid hno
        clear hB hD hno
        go_wp2_with (refine wpList_store_row (o := ⟨none, .store 74 (.tmp 4) (.tmp 13), _, _, _, _⟩) rfl 74 (.tmp 4) (.tmp 13) rfl wr.heap.size #[.string (z k), .slice (q k) (m k) (c k)] (by kernel_rfl) (by kernel_rfl) 74 #[.string ⟨#[]⟩, .slice none 0 0] (heap_alloc_new wr _) (by kernel_rfl) rfl (by kernel_rfl) ?_; change wpList _ _ _ _ _ ((wr.alloc (Obj.cells #[.string ⟨#[]⟩, .slice none 0 0] 74)).setRow wr.heap.size _); rw [setRow_alloc])
        refine (fits31 (z k) (q k) (m k) (c k) D (wr.alloc (Obj.cells #[.string (z k), .slice (q k) (m k) (c k)] 74)) HO.out (HD.out.below ((Below.refl _ _).alloc (Nat.le_refl _) _))).mono ?_
        rintro e w2 ⟨b, rfl, _, hb2⟩
        have hB2 : Below w.heap.size w w2 := (HB.out.alloc HB.out.size _).trans (hb2.mono (by rw [World.size_alloc]; have := HB.out.size; omega))
        have HB2 := Lib.hid hB2
        clear hb2 hB2
        dsimp only
        cases b
        · go_wp2_with fail
          go_ret
          exact Told.no HB2.out
        · go_wp2_with fail
          go_roundw
          case rel => exact ⟨k + 1, by omega, by go_num, HB2.out⟩
          case measure => simp [intOf]; omega
      · obtain rfl : k = n := by omega
        have HB := Lib.hid hB
        clear hB
        go_wp2_with fail
        go_ret
        exact Told.yes trivial HB.out

end Go.Proofs.YtgnmgkpfgmpdfaaGreatDoor
