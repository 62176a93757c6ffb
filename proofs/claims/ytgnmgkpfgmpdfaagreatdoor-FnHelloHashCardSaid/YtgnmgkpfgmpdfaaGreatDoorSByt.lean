/- impl.message of a client hello. -/
import Derived.Test.YtgnmgkpfgmpdfaaGreatDoorSHel
import Derived.Test.YtgnmgkpfgmpdfaaGreatDoorSText
set_option linter.unusedVariables false
set_option linter.unusedSimpArgs false
section
namespace Go.Proofs.YtgnmgkpfgmpdfaaGreatDoor
open Go.RowKit

section
variable {ops : Array Oper} {Q : Exit → Act → World → Prop} {i d : Nat} {K : Act → World → Prop} {a : Act} {w : World}
theorem wpOp_call {f : Nat} {xs : Array Operand} {ats : Array TypeId} {vs : Array Value} (hf : (Tryz.prog.funcs[f]?).map (fun fn => (fn.name == "runtime.NumGoroutine", fn.body.isSome)) = some (false, true))
    (ho : (ops[i]?.map fun o => (o.guard, o.dst, o.op)) = some (none, some d, .call { callee := .value (.func f), args := xs, argTypes := ats })) (hx : xs.map a.eval = vs)
    (h : Calls Tryz.prog f vs w fun e w' => ∃ u, e = .returned u ∧ K (a.put (some d) u) w') : wpOp Tryz.prog ops Q i K a w := by
  refine wpOp_of ho fun o h1 h2 => ?_
  unfold Oper.wp execOp
  have e1 : a.eval (.func f) = .func (.func f) #[] #[] := rfl
  simp only [h2, resolve, e1, hx, Sem.run_bind]
  have e2 : (Sem.run Tryz.prog (Deferred.ofValue (Value.func (Fn.func f) #[] #[]) vs) w) = .ok { target := .fn (.func f) #[], args := vs } w := by
    simp [Deferred.ofValue]
  rw [e2, Result.andThen_ok]
  have e3 : Sem.run Tryz.prog (invoke (.fn (.func f) #[]) vs) w = .ok (.enter f vs) w := by
    cases hq : Tryz.prog.funcs[f]? with
    | none => simp [hq] at hf
    | some fn =>
      simp only [hq, Option.map_some, Option.some.injEq, Prod.mk.injEq] at hf
      obtain ⟨b, hb⟩ := Option.isSome_iff_exists.1 hf.2
      have h3 : fn.name ≠ "runtime.NumGoroutine" := by simpa using hf.1
      simp [invoke, callFunc, hq, h3, hb]
  rw [e3]
  simp only [Oper.upon]
  refine Calls.mono h ?_
  rintro e w' ⟨u, rfl, hK⟩
  rw [h1]
  exact hK
end
set_option maxHeartbeats 2000000 in
set_option maxRecDepth 100000 in
theorem message_any (ms : Array Value) (mj mi tm : Int) (rd ck se : ByteArray) (bs os n cps : Nat) (su : Nat → Int) (bc oc m cpc : Nat) (me : Nat → Int) (vex : Value) (w : World)
    (hM : Msg ms mj mi tm rd ck se (.slice (some ⟨bs, os, none⟩) n cps) (.slice (some ⟨bc, oc, none⟩) m cpc) vex) (hex : Exts w vex)
    (hsu : ∀ j, j < n → w.cell? ⟨bs, os + j, none⟩ = some (.int .u16 (su j))) (hco : ∀ j, j < m → w.cell? ⟨bc, oc + j, none⟩ = some (.int .u8 (me j)))
    (hn1 : 1 ≤ n) (hn2 : n ≤ 30000) (hm1 : 1 ≤ m) (hm2 : m ≤ 255) (hse : se.size ≤ 32) :
    Calls Tryz.prog 21 #[.agg ms] w fun e w' => ∃ v, e = .returned v ∧ HelloAt w w' v mj mi tm rd se n su m me := by
  have HM := Lib.hid hM
  have HEX := Lib.hid hex
  have HSU := Lib.hid hsu
  have HCO := Lib.hid hco
  clear hM hex hsu hco
  go_enter Tryz.func21, Tryz.ntmps21
  go_upto_region 1 with fail
  change Code.wp _ _ _ _ (w.alloc (Obj.cells ms 31))
  have hB1 : Below w.heap.size w (w.alloc (Obj.cells ms 31)) := (Below.refl _ _).alloc (Nat.le_refl _) _
  have hM1 := heap_alloc_new w (Obj.cells ms 31)
  generalize w.alloc (Obj.cells ms 31) = w1 at hB1 hM1 ⊢
  have k0 := (bcell hM1 0).trans HM.out.c0
  have HB1 := Lib.hid hB1
  have HM1 := Lib.hid hM1
  clear hB1 hM1
  go_upto_region 4 with fail
  refine wp_region_held (S := fun w' => Below w1.drew.heap.size w1.drew w') (by kernel_rfl) ?_
  change wpAnyH _ _ _ _ _ 5 _ _ w1.drew
  have hd1 : Below w.heap.size w w1.drew := HB1.out.drew
  have hdM : w1.drew.heap[w.heap.size]? = _ := HM1.out
  generalize w1.drew = W at hd1 hdM ⊢
  have HB := Lib.hid hd1
  have HMM := Lib.hid hdM
  clear hd1 hdM k0 HB1 HM1
  have hS0 : Below W.heap.size W W := Below.refl _ _
  refine wpAnyH_ld (i := 0) (d := 8) (t := 31) (x := .tmp 1) (p := ⟨w.heap.size, 0, none⟩) (u := .agg ms) (by kernel_rfl) (by kernel_rfl) (by kernel_rfl) (by kernel_rfl) (fun _ _ _ h => h) (by kernel_rfl) (fun w' hw => loadRow w' (bblk hw HMM.out) Tryz.underlying31 rfl (by rw [HM.out.sz]; kernel_rfl)) hS0 ?_
  refine wpAnyH_ld (i := 1) (d := 9) (t := 31) (x := .tmp 1) (p := ⟨w.heap.size, 0, none⟩) (u := .agg ms) (by kernel_rfl) (by kernel_rfl) (by kernel_rfl) (by kernel_rfl) (fun _ _ _ h => h) (by kernel_rfl) (fun w' hw => loadRow w' (bblk hw HMM.out) Tryz.underlying31 rfl (by rw [HM.out.sz]; kernel_rfl)) hS0 ?_
  refine wpAnyH_all (rs := [2]) (by kernel_rfl) (by simp) fun i hi => ?_
  obtain rfl := List.mem_singleton.1 hi
  clear hi
  refine wpOp_call (f := 35) (xs := #[.tmp 9]) (ats := #[31]) (vs := #[.agg ms]) (d := 10) (by kernel_rfl) (by kernel_rfl) (by kernel_rfl) ((version_any ms mj mi W HM.out.c2 HM.out.c3).mono ?_)
  rintro e w2 ⟨rfl, hb2⟩
  refine ⟨_, rfl, hb2, ?_⟩
  refine wpAnyH_all (rs := [3]) (by kernel_rfl) (by simp) fun i hi => ?_
  obtain rfl := List.mem_singleton.1 hi
  clear hi
  have hbw2 := HB.out.trans (hb2.mono HB.out.size)
  refine wpOp_call (f := 34) (xs := #[.tmp 8, .tmp 10]) (ats := #[31, 81]) (vs := #[.agg ms, .agg #[.int .u8 mj, .int .u8 mi]]) (d := 11) (by kernel_rfl) (by kernel_rfl) (by kernel_rfl)
    ((hello_any ms mj mi mj mi tm rd ck se bs os n cps su bc oc m cpc me vex w2 HM.out (fun w1 h1 => HEX.out w1 (hbw2.trans (h1.mono hbw2.size))) (fun j hj => bcellv hbw2 (HSU.out j hj)) (fun j hj => bcellv hbw2 (HCO.out j hj)) hn1 hn2 hm1 hm2 hse).mono ?_)
  rintro e w3 ⟨v, rfl, g0, cs, rfl, hb3, hr⟩
  have hb3' : Below W.heap.size W w3 := hb2.trans (hb3.mono hb2.size)
  refine ⟨_, rfl, hb3', ?_⟩
  refine wpAnyH_seq (i := 4) (d := 2) (op := .assign (.tmp 11)) (v := .iface 53 (.pointer (some ⟨g0, 0, none⟩))) (w' := w3) (by kernel_rfl) (by kernel_rfl) (fun _ _ _ => by kernel_rfl) hb3' ?_
  refine wpAnyH_done (by kernel_rfl) ?_ 0
  have hfin : HelloAt w w3 (.iface 53 (.pointer (some ⟨g0, 0, none⟩))) mj mi tm rd se n su m me := ⟨g0, cs, rfl, HB.out.trans (hb3'.mono HB.out.size), hr⟩
  have HF := Lib.hid hfin
  clear hfin hb3 hb3' hb2 hbw2 hr hS0
  rename_i KK hKK
  refine hKK _ _ ?_
  refine wp_ret ?_
  change bodyPost Tryz.prog Tryz.f21 (fun e w' => ∃ v, e = .returned v ∧ HelloAt w w' v mj mi tm rd se n su m me) .ret _ w3
  refine bodyPost_ret (v := .iface 53 (.pointer (some ⟨g0, 0, none⟩))) (by kernel_rfl) rfl ?_
  exact ⟨_, rfl, HF.out⟩
end Go.Proofs.YtgnmgkpfgmpdfaaGreatDoor
end

/- impl.HelloHash of a client hello. -/
section
namespace Go.Proofs.YtgnmgkpfgmpdfaaGreatDoor
open Go.RowKit

def isU8 (u : Value) : Prop := ∃ k : Int, u = .int .u8 k
theorem put4_u8 {cs : Array Value} (h : ∀ u ∈ cs, isU8 u) (o : Nat) (v : Int) : ∀ u ∈ put4 cs o v, isU8 u := by
  intro u hu
  unfold put4 at hu
  rcases Array.mem_or_eq_of_mem_setIfInBounds hu with hu | rfl
  · rcases Array.mem_or_eq_of_mem_setIfInBounds hu with hu | rfl
    · rcases Array.mem_or_eq_of_mem_setIfInBounds hu with hu | rfl
      · rcases Array.mem_or_eq_of_mem_setIfInBounds hu with hu | rfl
        · exact h u hu
        · exact ⟨_, rfl⟩
      · exact ⟨_, rfl⟩
    · exact ⟨_, rfl⟩
  · exact ⟨_, rfl⟩
theorem zero32_u8 : ∀ u ∈ zero32, isU8 u := by
  intro u hu
  have h : zero32.toList = List.replicate 32 (.int .u8 0) := rfl
  have hu' : u ∈ zero32.toList := by simpa using hu
  rw [h] at hu'
  obtain ⟨_, rfl⟩ := List.mem_replicate.1 hu'
  exact ⟨0, rfl⟩
theorem outN_u8 (s : St8) : ∀ u ∈ outN s 8, isU8 u :=
  put4_u8 (put4_u8 (put4_u8 (put4_u8 (put4_u8 (put4_u8 (put4_u8 (put4_u8 zero32_u8 _ _) _ _) _ _) _ _) _ _) _ _) _ _) _ _
theorem hash_u8 (mj mi tm : Int) (rd : Nat → UInt8) (ns : Nat) (se : Nat → UInt8) (n : Nat) (su : Nat → Int) (m : Nat) (me : Nat → Int) : ∀ u ∈ hashOf mj mi tm rd ns se n su m me, isU8 u := by unfold hashOf shaOf sumOf; exact outN_u8 _
set_option maxHeartbeats 2000000 in
set_option maxRecDepth 100000 in
theorem hellohash_any (ms : Array Value) (mj mi tm : Int) (rd ck se : ByteArray) (bs os n cps : Nat) (su : Nat → Int) (bc oc m cpc : Nat) (me : Nat → Int) (vex : Value) (w : World)
    (hM : Msg ms mj mi tm rd ck se (.slice (some ⟨bs, os, none⟩) n cps) (.slice (some ⟨bc, oc, none⟩) m cpc) vex) (hex : Exts w vex)
    (hsu : ∀ j, j < n → w.cell? ⟨bs, os + j, none⟩ = some (.int .u16 (su j))) (hco : ∀ j, j < m → w.cell? ⟨bc, oc + j, none⟩ = some (.int .u8 (me j)))
    (hn1 : 1 ≤ n) (hn2 : n ≤ 30000) (hm1 : 1 ≤ m) (hm2 : m ≤ 255) (hse : se.size ≤ 32)
    (hK : ∀ j, j < 64 → w.cell? ⟨4, j, none⟩ = some (.int .u32 (Kc.getD j 0))) (hb : ∀ u ∈ rawOf mj mi tm (sby rd) se.size (sby se) n su m me, isByte u) :
    Calls Tryz.prog 7 #[.agg ms] w fun e w' => e = .returned (.tuple #[.string (strOf (hashOf mj mi tm (sby rd) se.size (sby se) n su m me).toList), .bool true]) ∧ Below w.heap.size w w' := by
  have HM := Lib.hid hM
  have HEX := Lib.hid hex
  have HSU := Lib.hid hsu
  have HCO := Lib.hid hco
  have HK := Lib.hid hK
  have HBY := Lib.hid hb
  clear hM hex hsu hco hK hb
  go_enter Tryz.func7, Tryz.ntmps7
  go_upto_region 1 with fail
  change Code.wp _ _ _ _ (w.alloc (Obj.cells ms 31))
  have hB1 : Below w.heap.size w (w.alloc (Obj.cells ms 31)) := (Below.refl _ _).alloc (Nat.le_refl _) _
  have hM1 := heap_alloc_new w (Obj.cells ms 31)
  generalize w.alloc (Obj.cells ms 31) = w1 at hB1 hM1 ⊢
  have HB1 := Lib.hid hB1
  have HM1 := Lib.hid hM1
  have HI := Lib.hid (show (Tryz.prog.info? 31).map (·.size) = some ms.size by rw [HM.out.sz]; kernel_rfl)
  clear hB1 hM1
  go_wp2_with (with_reducible refine wpList_load_row rfl 31 (.tmp 1) rfl w.heap.size (by kernel_rfl) 31 ms (0, 0) _ HM1.out Tryz.underlying31 rfl HI.out ?_)
  refine (message_any ms mj mi tm rd ck se bs os n cps su bc oc m cpc me vex w1 HM.out (fun w2 h => HEX.out w2 (HB1.out.trans (h.mono HB1.out.size))) (fun j hj => bcellv HB1.out (HSU.out j hj)) (fun j hj => bcellv HB1.out (HCO.out j hj)) hn1 hn2 hm1 hm2 hse).mono ?_
  rintro e w2 ⟨v, rfl, g0, cs, rfl, hb2, hg, h36, h1, bse, cpse, bs', cps', bm, cpm, p, hH⟩
  have HB2 := Lib.hid (HB1.out.trans (hb2.mono HB1.out.size))
  have HG := Lib.hid hg
  have H36 := Lib.hid h36
  have H1 := Lib.hid h1
  have HH := Lib.hid hH
  clear hb2 hg h36 h1 hH HB1 HM1
  dsimp only
  have hta : (Instr.typeAssert (.iface 53 (.pointer (some ⟨g0, 0, none⟩))) 56 53 true).run Tryz.prog w2 = .ok (.tuple #[.pointer (some ⟨g0, 0, none⟩), .bool true]) w2 := by kernel_rfl
  go_wp2_with fail
  clear hta
  refine (zz_any g0 w2 cs mj mi tm (sby rd) bse se.size cpse (sby se) bs' 0 n cps' su bm m cpm p me HG.out H36.out H1.out HH.out (fun j hj => bcellv HB2.out (HK.out j hj)) HBY.out).mono ?_
  rintro e w3 ⟨rfl, hb3⟩
  have HB3 := Lib.hid (HB2.out.trans (hb3.mono HB2.out.size))
  have ho1 := hash_one mj mi tm (sby rd) se.size (sby se) n su m me
  have ho2 := hash_size mj mi tm (sby rd) se.size (sby se) n su m me
  have ho3 := hash_u8 mj mi tm (sby rd) se.size (sby se) n su m me
  generalize hO : hashOf mj mi tm (sby rd) se.size (sby se) n su m me = out at ho1 ho2 ho3 ⊢
  have ho4 : (Tryz.prog.info? 58).map (·.size) = some out.size := by rw [ho2]; kernel_rfl
  have HO := Lib.hid hO
  have HO1 := Lib.hid ho1
  have HO2 := Lib.hid ho2
  have HO3 := Lib.hid ho3
  have HO4 := Lib.hid ho4
  clear hO ho1 ho2 ho3 ho4 hb3
  dsimp only
  go_wp2_with (refine wpList_store_row (o := ⟨none, .store 58 (.tmp 6) (.tmp 19), _, _, _, _⟩) rfl 58 (.tmp 6) (.tmp 19) rfl w3.heap.size out (by kernel_rfl) (by kernel_rfl) 58 zero32 (heap_alloc_new w3 _) HO4.out (HO2.out.symm ▸ rfl) (all_of_one HO1.out) ?_; change wpList _ _ _ _ _ ((w3.alloc (Obj.cells zero32 58)).setRow w3.heap.size out); rw [setRow_alloc])
  refine (text_any w3.heap.size 32 32 out.toList _ (by rw [Array.length_toList, HO2.out]) (fun j u hj => by rw [Nat.zero_add, bcell (heap_alloc_new w3 (Obj.cells out 58))]; simpa using hj) (fun u hu => HO3.out u (by simpa using hu))).mono ?_
  rintro e w4 ⟨rfl, rfl⟩
  dsimp only
  go_wp2_with fail
  refine bodyPost_ret (v := .tuple #[.string (strOf out.toList), .bool true]) (by kernel_rfl) rfl ⟨?_, HB3.out.alloc HB3.out.size _⟩
  rw [HO.out]
end Go.Proofs.YtgnmgkpfgmpdfaaGreatDoor
end

/- The hashed bytes are bytes. -/
section
namespace Go.Proofs.YtgnmgkpfgmpdfaaGreatDoor
open Go.RowKit

theorem isByte_of {x : Int} (h0 : 0 ≤ x) (h1 : x < 256) : isByte (.int .u8 x) := ⟨UInt8.ofNat x.toNat, by
  have : (UInt8.ofNat x.toNat).toNat = x.toNat := by
    rw [UInt8.toNat_ofNat']
    exact Nat.mod_eq_of_lt (by omega)
  rw [this]
  congr 1
  omega⟩
theorem isByte_mod (x : Int) : isByte (.int .u8 (x % 256)) := isByte_of (Int.emod_nonneg _ (by decide)) (Int.emod_lt_of_pos _ (by decide))
theorem isByte_put4 {cs : Array Value} (h : ∀ u ∈ cs, isByte u) (o : Nat) (v : Int) : ∀ u ∈ put4 cs o v, isByte u := by
  intro u hu
  unfold put4 at hu
  rcases Array.mem_or_eq_of_mem_setIfInBounds hu with hu | rfl
  · rcases Array.mem_or_eq_of_mem_setIfInBounds hu with hu | rfl
    · rcases Array.mem_or_eq_of_mem_setIfInBounds hu with hu | rfl
      · rcases Array.mem_or_eq_of_mem_setIfInBounds hu with hu | rfl
        · exact h u hu
        · exact isByte_mod _
      · exact isByte_mod _
    · exact isByte_mod _
  · exact isByte_mod _
theorem isByte_bytes (d : Nat → UInt8) (o n : Nat) : ∀ u ∈ bytesAt d o n, isByte u := by
  intro u hu
  obtain ⟨j, _, rfl⟩ := List.mem_map.1 hu
  exact ⟨_, rfl⟩
theorem isByte_fixed (tm : Int) (d : Nat → UInt8) : ∀ u ∈ (fixedOf tm d).toList, isByte u := by
  intro u hu
  unfold fixedOf spl at hu
  have hz : ∀ u ∈ put4 zero32 0 tm, isByte u := isByte_put4 (fun u hu => by
    have h : zero32.toList = List.replicate 32 (.int .u8 0) := rfl
    have hu' : u ∈ zero32.toList := by simpa using hu
    rw [h] at hu'
    obtain ⟨_, rfl⟩ := List.mem_replicate.1 hu'
    exact isByte_of (by decide) (by decide)) _ _
  simp only [List.mem_append] at hu
  rcases hu with hu | hu | hu
  · exact hz u (by simpa using List.mem_of_mem_take hu)
  · exact isByte_bytes _ _ _ u hu
  · exact hz u (by simpa using List.mem_of_mem_drop hu)
theorem isByte_enc (n : Nat) (su : Nat → Int) (k : Nat) : ∀ u ∈ encOf n su k, isByte u := by
  intro u hu
  unfold encOf u16b at hu
  simp only [List.mem_append, List.mem_cons, List.not_mem_nil, or_false, List.mem_flatMap] at hu
  rcases hu with (rfl | rfl) | ⟨j, _, rfl | rfl⟩ <;> exact isByte_mod _
theorem isByte_comp (n : Nat) (m : Nat → Int) (k : Nat) (hn : n < 256) (hk : k ≤ n) (hm : ∀ j, j < n → m j = 0) : ∀ u ∈ compOf n m k, isByte u := by
  intro u hu
  unfold compOf at hu
  rcases List.mem_cons.1 hu with rfl | hu
  · exact isByte_of (by omega) (by omega)
  · obtain ⟨j, hj, rfl⟩ := List.mem_map.1 hu
    have hj := List.mem_range.1 hj
    rw [hm (n - 1 - j) (by omega)]
    exact isByte_of (by decide) (by decide)
theorem raw_bytes (tm : Int) (rd : Nat → UInt8) (ns : Nat) (se : Nat → UInt8) (n : Nat) (su : Nat → Int) (m : Nat) (me : Nat → Int) (hns : ns ≤ 32) (hm : m < 256) (hme : ∀ j, j < m → me j = 0) : ∀ u ∈ rawOf 254 253 tm rd ns se n su m me, isByte u := by
  intro u hu
  unfold rawOf at hu
  simp only [List.mem_append, List.mem_cons, List.not_mem_nil, or_false, false_or] at hu
  rcases hu with ((((((h | h) | h) | h) | h) | h) | h) | h
  · rcases h with rfl | rfl <;> exact isByte_of (by decide) (by decide)
  · exact isByte_fixed _ _ u h
  · subst h; exact isByte_of (by omega) (by omega)
  · exact isByte_bytes _ _ _ u h
  · subst h; exact isByte_of (by decide) (by decide)
  · exact isByte_enc _ _ _ u h
  · exact isByte_comp _ _ _ hm (Nat.le_refl _) hme u h
  · unfold two0 at h
    simp only [List.mem_cons, List.not_mem_nil, or_false] at h
    rcases h with rfl | rfl <;> exact isByte_of (by decide) (by decide)
theorem str_size (l : List Value) : (strOf l).size = l.length := by
  show (List.map byteV l).toArray.size = _
  simp
end Go.Proofs.YtgnmgkpfgmpdfaaGreatDoor
end
