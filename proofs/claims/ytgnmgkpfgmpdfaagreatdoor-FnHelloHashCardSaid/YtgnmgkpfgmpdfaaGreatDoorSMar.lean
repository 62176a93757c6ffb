/- MessageClientHello's Marshal, of a hello without cookie and extensions. -/
import Derived.Test.YtgnmgkpfgmpdfaaGreatDoorSExtNil
import Derived.Test.YtgnmgkpfgmpdfaaGreatDoorSText
import Derived.Deep.Cut
set_option linter.unusedVariables false
set_option linter.unusedSimpArgs false
namespace Go.Proofs.YtgnmgkpfgmpdfaaGreatDoor
open Go.RowKit

/-- A hello as the library has it, without cookie and extensions: its cells, and what they lead to. -/
structure Hello (w : World) (cs : Array Value) (mj mi tm : Int) (rd : Nat → UInt8) (bse ns cpse : Nat) (se : Nat → UInt8) (bs os n cps : Nat) (su : Nat → Int) (bm m cpm : Nat) (p : Nat → Nat) (me : Nat → Int) : Prop where
  c0 : cs[0]? = some (.int .u8 mj)
  c1 : cs[1]? = some (.int .u8 mi)
  c2 : cs[2]? = some (.int .u32 tm)
  c3 : ∀ j, j < 28 → cs[3 + j]? = some (.int .u8 ((rd j).toNat : Int))
  c31 : cs[31]? = some (.slice none 0 0)
  c32 : cs[32]? = some (.slice (some ⟨bse, 0, none⟩) ns cpse)
  c33 : cs[33]? = some (.slice (some ⟨bs, os, none⟩) n cps)
  c34 : cs[34]? = some (.slice (some ⟨bm, 0, none⟩) m cpm)
  c35 : cs[35]? = some (.slice none 0 0)
  hse : ∀ j, j < ns → w.cell? ⟨bse, 0 + j, none⟩ = some (.int .u8 ((se j).toNat : Int))
  hsu : ∀ j, j < n → w.cell? ⟨bs, os + j, none⟩ = some (.int .u16 (su j))
  hme : ∀ j, j < m → w.cell? ⟨bm, j, none⟩ = some (.pointer (some ⟨p j, 0, none⟩)) ∧ w.cell? ⟨p j, 0, none⟩ = some (.int .u8 (me j))
  ns32 : ns ≤ 32
  n1 : 1 ≤ n
  n2 : n ≤ 30000
  m1 : 1 ≤ m
  m2 : m ≤ 255
theorem own_ge {w : World} {base n : Nat} {v : Value} {xs : List Value} (h : w.ownsRow base 5 1 v n xs) : ∀ k, v.ownBlock = some k → base ≤ k := by
  intro k hk
  rcases h.2 with ⟨rfl, _⟩ | ⟨g, cap', cur, rfl, hg, _⟩
  · simp [Value.ownBlock] at hk
  · simp [Value.ownBlock] at hk; omega
theorem own_below {w w' : World} {base n : Nat} {v : Value} {xs : List Value} (h : w.ownsRow base 5 1 v n xs) (hb : Below w.heap.size w w') : w'.ownsRow base 5 1 v n xs := by
  obtain ⟨hl, h2⟩ := h
  refine ⟨hl, ?_⟩
  rcases h2 with h2 | ⟨g, cap, cur, hv, hg, hh, r⟩
  · exact .inl h2
  · exact .inr ⟨g, cap, cur, hv, hg, bblk hb hh, r⟩
theorem row_src {w3 w : World} {q n : Nat} {cur : Array Value} {xs : List Value} (hh : w3.heap[q]? = some (.cells cur 5 (0, 0))) (hb : Below w3.heap.size w3 w) (ht : cur.toList.take n = xs) (j : Nat) (u : Value) (hj : xs[j]? = some u) : w.cell? ⟨q, 0 + j, none⟩ = some u := by
  rw [Nat.zero_add, bcell (bblk hb hh)]
  rw [← ht] at hj
  by_cases h : j < n
  · rw [List.getElem?_take_of_lt h] at hj
    simpa using hj
  · rw [List.getElem?_eq_none (by rw [List.length_take]; omega)] at hj
    cases hj
theorem enc_one (n : Nat) (su : Nat → Int) : ∀ k, ∀ u ∈ encOf n su k, u.oneCell' = true := by
  intro k
  induction k with
  | zero => intro u hu; simp [encOf, u16b] at hu; rcases hu with rfl | rfl <;> rfl
  | succ k ih =>
    intro u hu
    rw [encOf_succ, List.mem_append] at hu
    rcases hu with hu | hu
    · exact ih u hu
    · simp [u16b] at hu; rcases hu with rfl | rfl <;> rfl
theorem comp_one (n : Nat) (m : Nat → Int) (k : Nat) : ∀ u ∈ compOf n m k, u.oneCell' = true := by
  intro u hu
  simp [compOf] at hu
  rcases hu with rfl | ⟨j, _, rfl⟩ <;> rfl
/-- The hello's bytes. -/
def rawOf (mj mi tm : Int) (rd : Nat → UInt8) (ns : Nat) (se : Nat → UInt8) (n : Nat) (su : Nat → Int) (m : Nat) (me : Nat → Int) : List Value :=
  ([] ++ [.int .u8 mj, .int .u8 mi]) ++ (fixedOf tm rd).toList ++ [.int .u8 (ns : Int)] ++ bytesAt se 0 ns ++ [.int .u8 0] ++ encOf n su n ++ compOf m me m ++ two0
set_option maxHeartbeats 2000000 in
set_option maxRecDepth 100000 in
theorem marshal_any (g : Nat) (w : World) (cs : Array Value) (mj mi tm : Int) (rd : Nat → UInt8) (bse ns cpse : Nat) (se : Nat → UInt8) (bs os n cps : Nat) (su : Nat → Int) (bm m cpm : Nat) (p : Nat → Nat) (me : Nat → Int)
    (hg : w.heap[g]? = some (.cells cs 126 (0, 0))) (hH : Hello w cs mj mi tm rd bse ns cpse se bs os n cps su bm m cpm p me) :
    Calls Tryz.prog 78 #[.pointer (some ⟨g, 0, none⟩)] w fun e w' => ∃ v B, e = .returned (.tuple #[v, .nilIface]) ∧ w.heap.size ≤ B ∧ w'.ownsRow B 5 1 v (0 + 2 + 32 + 1 + ns + 1 + (2 + 2 * n) + (1 + m) + 2) (rawOf mj mi tm rd ns se n su m me) ∧ Below w.heap.size w w' := by
  have k31 := (bcell hg 31).trans hH.c31
  have k32 := (bcell hg 32).trans hH.c32
  have k33 := (bcell hg 33).trans hH.c33
  have k34 := (bcell hg 34).trans hH.c34
  have k35 := (bcell hg 35).trans hH.c35
  have gns : (ns : Int) ≤ 32 := by have := hH.ns32; omega
  have gm : (m : Int) ≤ 255 := by have := hH.m2; omega
  have gn : (n : Int) ≤ 30000 := by have := hH.n2; omega
  have hgw := blt hg
  have HG := Lib.hid hg
  have HH := Lib.hid hH
  clear hg hH
  go_enter Tryz.func78, Tryz.ntmps78
  go_wp2_with fail
  refine (extnil w).mono ?_
  rintro e w1 ⟨v1, rfl, ho1, hb1⟩
  have j33 := bcellv hb1 k33
  have HO1 := Lib.hid ho1
  have HB1 := Lib.hid hb1
  have K31 := Lib.hid k31
  have K32 := Lib.hid k32
  have K33 := Lib.hid k33
  have K34 := Lib.hid k34
  clear k31 k32 k33 k34 k35 ho1 hb1
  dsimp only
  go_wp2_with fail
  refine (suites_any bs os n cps su w1 HH.out.n1 HH.out.n2 (fun j hj => bcellv HB1.out (HH.out.hsu j hj))).mono ?_
  rintro e w2 ⟨v2, rfl, ho2, hb2⟩
  have hB2 := HB1.out.trans (hb2.mono HB1.out.size)
  have j34 := bcellv hB2 K34.out
  have HO2 := Lib.hid ho2
  have HB2 := Lib.hid hB2
  have HB2' := Lib.hid hb2
  clear ho2 hb2 hB2 j33
  dsimp only
  go_wp2_with fail
  refine (comp_any bm m cpm p me w2 HH.out.m1 HH.out.m2 (fun j hj => ⟨bcellv HB2.out (HH.out.hme j hj).1, bcellv HB2.out (HH.out.hme j hj).2⟩)).mono ?_
  rintro e w3 ⟨v3, rfl, ho3, hb3⟩
  have hB3 := HB2.out.trans (hb3.mono HB2.out.size)
  have HO3 := Lib.hid ho3
  have HB3 := Lib.hid hB3
  have HB3' := Lib.hid hb3
  clear ho3 hb3 hB3 j34
  obtain ⟨q1, cp1, cur1, rfl, hq1, hh1, hl1, hm1, hs1, ht1⟩ := own_row HO1.out (by omega)
  obtain ⟨q2, cp2, cur2, rfl, hq2, hh2, hl2, hm2, hs2, ht2⟩ := own_row HO2.out (by omega)
  obtain ⟨q3, cp3, cur3, rfl, hq3, hh3, hl3, hm3, hs3, ht3⟩ := own_row HO3.out (by omega)
  have HH1 := Lib.hid (bblk HB3'.out (bblk HB2'.out hh1))
  have HH2 := Lib.hid (bblk HB3'.out hh2)
  have HH3 := Lib.hid hh3
  have HS1 := Lib.hid hs1
  have HS2 := Lib.hid hs2
  have HS3 := Lib.hid hs3
  have HT1 := Lib.hid ht1
  have HT2 := Lib.hid ht2
  have HT3 := Lib.hid ht3
  have HQ1 := Lib.hid hq1
  have HQ2 := Lib.hid hq2
  have HQ3 := Lib.hid hq3
  clear hh1 hh2 hh3 hs1 hs2 hs3 ht1 ht2 ht3 hq1 hq2 hq3
  dsimp only
  go_wp2_with fail
  have j31 : w3.drew.cell? ⟨g, 31, none⟩ = _ := bcellv HB3.out K31.out
  have j32 : w3.drew.cell? ⟨g, 32, none⟩ = _ := bcellv HB3.out K32.out
  have r1 : IntKind.i64.wrap (35 + (ns : Int)) = 35 + (ns : Int) := by rw [IntKind.wrap_i64]; omega
  have r2 : IntKind.i64.wrap (35 + (ns : Int) + 1) = 35 + (ns : Int) + 1 := by rw [IntKind.wrap_i64]; omega
  have r3 : IntKind.i64.wrap (35 + (ns : Int) + 1 + (2 + 2 * (n : Int))) = 35 + (ns : Int) + 1 + (2 + 2 * (n : Int)) := by rw [IntKind.wrap_i64]; omega
  have r4 : IntKind.i64.wrap (35 + (ns : Int) + 1 + (2 + 2 * (n : Int)) + (1 + (m : Int))) = 35 + (ns : Int) + 1 + (2 + 2 * (n : Int)) + (1 + (m : Int)) := by rw [IntKind.wrap_i64]; omega
  have r5 : IntKind.i64.wrap (35 + (ns : Int) + 1 + (2 + 2 * (n : Int)) + (1 + (m : Int)) + 2) = 35 + (ns : Int) + 1 + (2 + 2 * (n : Int)) + (1 + (m : Int)) + 2 := by rw [IntKind.wrap_i64]; omega
  go_still_tail 22, (by kernel_rfl)
  change wpList _ _ _ _ _ w3.drew
  obtain ⟨i5, hi5, hz0, hz1, hz2⟩ := info_parts info5
  have hN : (35 + (ns : Int) + 1 + (2 + 2 * (n : Int)) + (1 + (m : Int)) + 2) = ((35 + ns + 1 + (2 + 2 * n) + (1 + m) + 2 : Nat) : Int) := by omega
  have hN2 : i5.bytes * (35 + ns + 1 + (2 + 2 * n) + (1 + m) + 2) ≤ 281474976710656 := by rw [hz2]; omega
  have hN3 : 35 + ns + 1 + (2 + 2 * n) + (1 + m) + 2 ≤ maxLen := by unfold maxLen; omega
  have NN := Lib.hid hN
  have NN2 := Lib.hid hN2
  have HI5 := Lib.hid hi5
  have HZ0 := Lib.hid hz0
  have HZ1 := Lib.hid hz1
  clear r1 r2 r3 r4 r5 j31 j32 hN hN2 hi5 hz0 hz1 hz2
  go_upto_region 13 with (refine wpList_make_own w3.drew rfl (.const (.int .i64 0)) (.tmp 73) 24 rfl w3.heap.size 5 i5 (.int .u8 0) 1 underlying24 HI5.out HZ0.out HZ1.out .i64 .i64 (35 + (ns : Int) + 1 + (2 + 2 * (n : Int)) + (1 + (m : Int)) + 2) (35 + ns + 1 + (2 + 2 * n) + (1 + m) + 2) rfl (by kernel_rfl) NN.out NN2.out hN3 (Nat.le_refl _) ?_; intro w4 ho4 hg4)
  have hb4 : Below w3.heap.size w3 w4 := (Below.refl _ _).drew.grown hg4 (Nat.le_refl _) (fun k hk => by cases hk)
  have hB4 : Below w.heap.size w w4.drew := (HB3.out.trans (hb4.mono HB3.out.size)).drew
  have j0 : w4.drew.cell? ⟨g, 0, none⟩ = some (.int .u8 mj) := bcellv hB4 ((bcell HG.out 0).trans HH.out.c0)
  have j1 : w4.drew.cell? ⟨g, 1, none⟩ = some (.int .u8 mi) := bcellv hB4 ((bcell HG.out 1).trans HH.out.c1)
  have HO4 : Hid (w4.drew.ownsRow w3.heap.size 5 1 (.slice (some ⟨w3.drew.heap.size, 0, none⟩) 0 (35 + ns + 1 + (2 + 2 * n) + (1 + m) + 2)) 0 []) := Lib.hid (ho4.drew)
  have HB4 := Lib.hid hb4.drew
  have l0 := load5 w4.drew ⟨g, 0, none⟩ _ j0
  have l1 := load5 w4.drew ⟨g, 1, none⟩ _ j1
  have L0 := Lib.hid l0
  have L1 := Lib.hid l1
  clear j0 j1 l0 l1 ho4 hg4 hb4 hB4 NN NN2 HZ0 HZ1 hN3
  refine wp_region_any (by kernel_rfl) ?_
  change wpAny _ _ _ _ _ _ _ w4.drew
  generalize w4.drew = w5 at HO4 HB4 L0 L1 ⊢
  generalize hv4 : (Value.slice (some ⟨w3.drew.heap.size, 0, none⟩) 0 (35 + ns + 1 + (2 + 2 * n) + (1 + m) + 2)) = v4 at HO4 ⊢
  clear hv4
  refine wpAny_take1 (i := 0) (d := 75) (v := v4) (fun _ _ _ _ _ h => h) (by kernel_rfl) (by kernel_rfl) (by kernel_rfl) (fun _ => by kernel_rfl) ?_
  refine wpAny_take1 (i := 1) (d := 76) (v := .pointer (some ⟨g, 0, none⟩)) (fun _ _ _ _ _ h => h) (by kernel_rfl) (by kernel_rfl) (by kernel_rfl) (fun _ => by kernel_rfl) ?_
  refine wpAny_take1 (i := 2) (d := 77) (v := .pointer (some ⟨g, 0, none⟩)) (fun _ _ _ _ _ h => h) (by kernel_rfl) (by kernel_rfl) (by kernel_rfl) (fun _ => by kernel_rfl) ?_
  refine wpAny_take1 (i := 3) (d := 78) (v := .pointer (some ⟨g, 0, none⟩)) (fun _ _ _ _ _ h => h) (by kernel_rfl) (by kernel_rfl) (by kernel_rfl) (fun _ => by kernel_rfl) ?_
  refine wpAny_take1 (i := 4) (d := 79) (v := .pointer (some ⟨g, 0, none⟩)) (fun _ _ _ _ _ h => h) (by kernel_rfl) (by kernel_rfl) (by kernel_rfl) (fun _ => by kernel_rfl) ?_
  refine wpAny_take1 (i := 6) (d := 81) (v := .pointer (some ⟨g, 0, none⟩)) (fun _ _ _ _ _ h => h) (by kernel_rfl) (by kernel_rfl) (by kernel_rfl) (fun _ => by kernel_rfl) ?_
  refine wpAny_take1 (i := 7) (d := 82) (v := .pointer (some ⟨g, 0, none⟩)) (fun _ _ _ _ _ h => h) (by kernel_rfl) (by kernel_rfl) (by kernel_rfl) (fun _ => by kernel_rfl) ?_
  refine wpAny_take1 (i := 8) (d := 83) (v := .pointer (some ⟨g, 0, none⟩)) (fun _ _ _ _ _ h => h) (by kernel_rfl) (by kernel_rfl) (by kernel_rfl) (fun _ => by kernel_rfl) ?_
  refine wpAny_take1 (i := 9) (d := 84) (v := .pointer (some ⟨g, 1, none⟩)) (fun _ _ _ _ _ h => h) (by kernel_rfl) (by kernel_rfl) (by kernel_rfl) (fun _ => by kernel_rfl) ?_
  refine wpAny_loads2 (i := 5) (j := 10) (di := 80) (dj := 85) (ti := 5) (tj := 5) (xi := .tmp 79) (xj := .tmp 84) (by kernel_rfl) (by kernel_rfl) (by kernel_rfl) (by kernel_rfl) (by kernel_rfl) (by kernel_rfl) (by kernel_rfl) (by kernel_rfl) (by kernel_rfl) L0.out L1.out (by decide) (by decide) ?_
  refine wpAny_tail 11 _ rfl rfl (by kernel_rfl) ?_
  simp only [Act.put, List.setIfInBounds_toArray, List.set_cons_zero, List.set_cons_succ, List.drop_succ_cons, List.drop_zero]
  have hs5 : w3.heap.size ≤ (w5.alloc (Obj.cells #[Value.int .u8 mj, Value.int .u8 mi] 5)).heap.size := by rw [World.size_alloc]; have := HB4.out.size; omega
  have HS5 := Lib.hid hs5
  clear hs5
  go_upto_region 14 with (refine app_bytes rfl (.tmp 75) (.tmp 86) rfl w3.heap.size v4 0 [] (by kernel_rfl) (HO4.out.alloc _) w5.heap.size 0 2 2 [.int .u8 mj, .int .u8 mi] (by kernel_rfl) rfl (src_new w5 #[.int .u8 mj, .int .u8 mi]) (fun u hu => by simp at hu; rcases hu with rfl | rfl <;> rfl) (by omega) HS5.out ?_; intro v6 w6 ho6 hg6 _)
  have hb6 : Below w3.heap.size w3 w6 := (HB4.out.alloc HB4.out.size _).grown hg6 HS5.out (own_ge HO4.out)
  have HO6 := Lib.hid ho6
  have HB6 := Lib.hid hb6
  clear ho6 hg6 hb6
  go_wp2_with fail
  have hB6 : Below w.heap.size w w6 := HB3.out.trans (HB6.out.mono HB3.out.size)
  refine (fixed_any g 2 tm rd w6 (bcellv hB6 ((bcell HG.out 2).trans HH.out.c2)) (fun j hj => bcellv hB6 ((bcell HG.out (2 + 1 + j)).trans (HH.out.c3 j hj)))).mono ?_
  rintro e w7 ⟨rfl, hb7⟩
  have hb7' : Below w3.heap.size w3 w7 := HB6.out.trans (hb7.mono HB6.out.size)
  have ho7 := own_below HO6.out hb7 
  have hf1 := fixed_one tm rd
  have hf2 := fixed_size tm rd
  generalize hfx : fixedOf tm rd = fx at hf1 hf2
  have hf3 : (Tryz.prog.info? 58).map (·.size) = some fx.size := by rw [hf2]; kernel_rfl
  have hs8 : w3.heap.size ≤ (w7.alloc (Obj.cells fx 58)).heap.size := by rw [World.size_alloc]; have := hb7'.size; omega
  have hsrc8 : ∀ j u, fx.toList[j]? = some u → (w7.alloc (Obj.cells fx 58)).cell? ⟨w7.heap.size, 0 + j, none⟩ = some u := fun j u hj => by
    rw [Nat.zero_add, bcell (heap_alloc_new w7 (Obj.cells fx 58))]
    simpa using hj
  have HFX := Lib.hid hfx
  have HF1 := Lib.hid hf1
  have HF2 := Lib.hid hf2
  have HF3 := Lib.hid hf3
  have HB7 := Lib.hid hb7'
  have HO7 := Lib.hid ho7
  have HS8 := Lib.hid hs8
  have HSRC8 := Lib.hid hsrc8
  clear hb7 hb7' ho7 hf1 hf2 hfx hf3 hs8 hsrc8 hB6
  dsimp only
  go_upto_region 15 with (refine wpList_store_row (o := ⟨none, .store 58 (.tmp 9) (.tmp 91), _, _, _, _⟩) rfl 58 (.tmp 9) (.tmp 91) rfl w7.heap.size fx (by kernel_rfl) (by rw [← HFX.out]; kernel_rfl) 58 zero32 (heap_alloc_new w7 _) HF3.out (HF2.out.symm ▸ rfl) (all_of_one HF1.out) ?_; change wpList _ _ _ _ _ ((w7.alloc (Obj.cells zero32 58)).setRow w7.heap.size fx); rw [setRow_alloc])
  go_upto_region 16 with (refine app_bytes rfl (.tmp 92) (.tmp 93) rfl w3.heap.size v6 (0 + 2) (([] ++ [.int .u8 mj, .int .u8 mi])) (by kernel_rfl) (HO7.out.alloc _) w7.heap.size 0 32 32 fx.toList (by kernel_rfl) (by rw [Array.length_toList, HF2.out]) HSRC8.out (fun u hu => HF1.out u (by simpa using hu)) (by omega) HS8.out ?_; intro v9 w9 ho9 hg9 _)
  have hb9 : Below w3.heap.size w3 w9 := (HB7.out.alloc HB7.out.size _).grown hg9 HS8.out (own_ge HO7.out)
  have HO9 := Lib.hid ho9
  have HB9 := Lib.hid hb9
  clear ho9 hg9 hb9
  have j32 : w9.cell? ⟨g, 32, none⟩ = _ := bcellv (HB3.out.trans (HB9.out.mono HB3.out.size)) K32.out
  have hs9 : w3.heap.size ≤ (w9.alloc (Obj.cells #[Value.int .u8 (ns : Int)] 5)).heap.size := by rw [World.size_alloc]; have := HB9.out.size; omega
  have HS9 := Lib.hid hs9
  clear hs9
  go_upto_region 17 with (refine app_bytes rfl (.tmp 95) (.tmp 102) rfl w3.heap.size v9 (0 + 2 + 32) (([] ++ [.int .u8 mj, .int .u8 mi]) ++ fx.toList) (by kernel_rfl) (HO9.out.alloc _) w9.heap.size 0 1 1 [.int .u8 (ns : Int)] (by kernel_rfl) rfl (src_new w9 #[.int .u8 (ns : Int)]) one_single (by omega) HS9.out ?_; intro v10 w10 ho10 hg10 _)
  have hb10 : Below w3.heap.size w3 w10 := (HB9.out.alloc HB9.out.size _).grown hg10 HS9.out (own_ge HO9.out)
  have HO10 := Lib.hid ho10
  have HB10 := Lib.hid hb10
  clear ho10 hg10 hb10
  clear j32
  have j32 : w10.cell? ⟨g, 32, none⟩ = _ := bcellv (HB3.out.trans (HB10.out.mono HB3.out.size)) K32.out
  have hsrc10 : ∀ j u, (bytesAt se 0 ns)[j]? = some u → w10.cell? ⟨bse, 0 + j, none⟩ = some u := fun j u hj => by
    obtain ⟨h1, rfl⟩ := bytesAt_get hj
    have h2 := bcellv (HB3.out.trans (HB10.out.mono HB3.out.size)) (HH.out.hse j h1)
    simpa using h2
  have HSRC10 := Lib.hid hsrc10
  clear hsrc10
  go_upto_region 18 with (refine app_bytes rfl (.tmp 104) (.tmp 108) rfl w3.heap.size v10 (0 + 2 + 32 + 1) (([] ++ [.int .u8 mj, .int .u8 mi]) ++ fx.toList ++ [.int .u8 (ns : Int)]) (by kernel_rfl) HO10.out bse 0 ns cpse (bytesAt se 0 ns) (by kernel_rfl) (bytesAt_length se 0 ns) HSRC10.out bytesAt_one (by omega) HB10.out.size ?_; intro v11 w11 ho11 hg11 _)
  have hb11 : Below w3.heap.size w3 w11 := (HB10.out).grown hg11 HB10.out.size (own_ge HO10.out)
  have HO11 := Lib.hid ho11
  have HB11 := Lib.hid hb11
  clear ho11 hg11 hb11
  clear j32
  have j31 : w11.cell? ⟨g, 31, none⟩ = _ := bcellv (HB3.out.trans (HB11.out.mono HB3.out.size)) K31.out
  have hs11 : w3.heap.size ≤ (w11.alloc (Obj.cells #[Value.int .u8 0] 5)).heap.size := by rw [World.size_alloc]; have := HB11.out.size; omega
  have HS11 := Lib.hid hs11
  clear hs11
  go_upto_region 19 with (refine app_bytes rfl (.tmp 110) (.tmp 117) rfl w3.heap.size v11 (0 + 2 + 32 + 1 + ns) (([] ++ [.int .u8 mj, .int .u8 mi]) ++ fx.toList ++ [.int .u8 (ns : Int)] ++ bytesAt se 0 ns) (by kernel_rfl) (HO11.out.alloc _) w11.heap.size 0 1 1 [.int .u8 0] (by kernel_rfl) rfl (src_new w11 #[.int .u8 0]) one_single (by omega) HS11.out ?_; intro v12 w12 ho12 hg12 _)
  have hb12 : Below w3.heap.size w3 w12 := (HB11.out.alloc HB11.out.size _).grown hg12 HS11.out (own_ge HO11.out)
  have HO12 := Lib.hid ho12
  have HB12 := Lib.hid hb12
  clear ho12 hg12 hb12
  clear j31
  have j31 : w12.cell? ⟨g, 31, none⟩ = _ := bcellv (HB3.out.trans (HB12.out.mono HB3.out.size)) K31.out
  go_upto_region 20 with (refine wpList_append_own_none rfl (.tmp 119) (.tmp 123) 24 rfl w3.heap.size 5 i5 1 underlying24 HI5.out v12 (0 + 2 + 32 + 1 + ns + 1) (([] ++ [.int .u8 mj, .int .u8 mi]) ++ fx.toList ++ [.int .u8 (ns : Int)] ++ bytesAt se 0 ns ++ [.int .u8 0]) (by kernel_rfl) HO12.out (by kernel_rfl) ?_)
  clear j31
  have hsrc12 := row_src HH2.out HB12.out HT2.out
  have HSRC12 := Lib.hid hsrc12
  clear hsrc12
  go_upto_region 21 with (refine app_bytes rfl (.tmp 125) (.tmp 126) rfl w3.heap.size v12 (0 + 2 + 32 + 1 + ns + 1) (([] ++ [.int .u8 mj, .int .u8 mi]) ++ fx.toList ++ [.int .u8 (ns : Int)] ++ bytesAt se 0 ns ++ [.int .u8 0]) (by kernel_rfl) HO12.out q2 0 (2 + 2 * n) cp2 (encOf n su n) (by kernel_rfl) (encOf_length n su n) HSRC12.out (enc_one n su n) (by omega) HB12.out.size ?_; intro v13 w13 ho13 hg13 _)
  have hb13 : Below w3.heap.size w3 w13 := (HB12.out).grown hg13 HB12.out.size (own_ge HO12.out)
  have HO13 := Lib.hid ho13
  have HB13 := Lib.hid hb13
  clear ho13 hg13 hb13
  have hsrc13 := row_src HH3.out HB13.out HT3.out
  have HSRC13 := Lib.hid hsrc13
  clear hsrc13
  go_upto_region 22 with (refine app_bytes rfl (.tmp 128) (.tmp 129) rfl w3.heap.size v13 (0 + 2 + 32 + 1 + ns + 1 + (2 + 2 * n)) (([] ++ [.int .u8 mj, .int .u8 mi]) ++ fx.toList ++ [.int .u8 (ns : Int)] ++ bytesAt se 0 ns ++ [.int .u8 0] ++ encOf n su n) (by kernel_rfl) HO13.out q3 0 (1 + m) cp3 (compOf m me m) (by kernel_rfl) (by simp [compOf]; omega) HSRC13.out (comp_one m me m) (by omega) HB13.out.size ?_; intro v14 w14 ho14 hg14 _)
  have hb14 : Below w3.heap.size w3 w14 := (HB13.out).grown hg14 HB13.out.size (own_ge HO13.out)
  have HO14 := Lib.hid ho14
  have HB14 := Lib.hid hb14
  clear ho14 hg14 hb14
  have hsrc14 := row_src HH1.out HB14.out HT1.out
  have HSRC14 := Lib.hid hsrc14
  clear hsrc14
  go_wp2_with (refine app_bytes rfl (.tmp 131) (.tmp 132) rfl w3.heap.size v14 (0 + 2 + 32 + 1 + ns + 1 + (2 + 2 * n) + (1 + m)) (([] ++ [.int .u8 mj, .int .u8 mi]) ++ fx.toList ++ [.int .u8 (ns : Int)] ++ bytesAt se 0 ns ++ [.int .u8 0] ++ encOf n su n ++ compOf m me m) (by kernel_rfl) HO14.out q1 0 2 cp1 two0 (by kernel_rfl) rfl HSRC14.out (fun u hu => by simp [two0] at hu; subst hu; rfl) (by omega) HB14.out.size ?_; intro v15 w15 ho15 hg15 _)
  have hb15 : Below w3.heap.size w3 w15 := (HB14.out).grown hg15 HB14.out.size (own_ge HO14.out)
  have HO15 := Lib.hid ho15
  have HB15 := Lib.hid hb15
  clear ho15 hg15 hb15
  go_ret2
  refine ⟨v15, w3.heap.size, rfl, HB3.out.size, ?_, HB3.out.trans (HB15.out.mono HB3.out.size)⟩
  have h := HO15.out
  rw [← HFX.out] at h
  exact h
end Go.Proofs.YtgnmgkpfgmpdfaaGreatDoor
