/- clientHelloNegotiationHash. -/
import Derived.Test.YtgnmgkpfgmpdfaaGreatDoorSMar
import Derived.Lib.BufferWrite
set_option linter.unusedVariables false
set_option linter.unusedSimpArgs false
section
namespace Go.Proofs.YtgnmgkpfgmpdfaaGreatDoor
open Go.RowKit

def isByte (u : Value) : Prop := ∃ b : UInt8, u = .int .u8 (b.toNat : Int)
/-- The bytes of a list of cells. -/
def byteAt (l : List Value) (i : Nat) : UInt8 := UInt8.ofNat (intOf (l.getD i undef)).toNat
theorem byteAt_get {l : List Value} (h : ∀ u ∈ l, isByte u) {j : Nat} {u : Value} (hj : l[j]? = some u) : u = .int .u8 ((byteAt l j).toNat : Int) := by
  obtain ⟨b, rfl⟩ := h u (List.mem_of_getElem? hj)
  unfold byteAt
  rw [List.getD_eq_getElem?_getD, hj]
  simp [intOf]
theorem results_cell_row_tmp {P : Program} {fn : Func} {p u : Tmp} {ty : TypeId} (h : fn.results = #[.cell p ty, .tmp u]) (tmps : Array Value) (w : World) (g : Nat) (t : TypeId) (cs : Array Value) (fr : Nat × Nat) (d : TypeDesc)
    (hp : tmps.getD p undef = .pointer (some ⟨g, 0, none⟩)) (hg : w.heap[g]? = some (.cells cs t fr)) (hu : P.underlying ty = some d) (hd : (match d with | .struct _ | .array _ _ => true | _ => false) = true) (hi : (P.info? ty).map (·.size) = some cs.size) :
    (results fn tmps).run P w = .ok (.tuple #[.agg cs, tmps.getD u undef]) w := by
  rw [results_cell_tmp h, hp]
  simp [asAddr, run_loadVar_row w g t ty cs fr d hg hu hd hi]
theorem Hello.below {w w' : World} {cs : Array Value} {mj mi tm : Int} {rd : Nat → UInt8} {bse ns cpse : Nat} {se : Nat → UInt8} {bs os n cps : Nat} {su : Nat → Int} {bm m cpm : Nat} {p : Nat → Nat} {me : Nat → Int}
    (h : Hello w cs mj mi tm rd bse ns cpse se bs os n cps su bm m cpm p me) (hb : Below w.heap.size w w') : Hello w' cs mj mi tm rd bse ns cpse se bs os n cps su bm m cpm p me :=
  { h with hse := fun j hj => bcellv hb (h.hse j hj), hsu := fun j hj => bcellv hb (h.hsu j hj), hme := fun j hj => ⟨bcellv hb (h.hme j hj).1, bcellv hb (h.hme j hj).2⟩ }
/-- The library's hello with cookie and extensions struck. -/
def norm (cs : Array Value) : Array Value := (cs.setIfInBounds 31 (.slice none 0 0)).setIfInBounds 35 (.slice none 0 0)
theorem hu126 : ∃ fs, Tryz.prog.underlying 126 = some (.struct fs) := ⟨_, Tryz.underlying126⟩
theorem hi126 {cs : Array Value} (h : cs.size = 36) : (Tryz.prog.info? 126).map (·.size) = some cs.size := by rw [h]; kernel_rfl
set_option maxHeartbeats 2000000 in
set_option maxRecDepth 100000 in
theorem neg_any (g0 : Nat) (w : World) (cs : Array Value) (mj mi tm : Int) (rd : Nat → UInt8) (bse ns cpse : Nat) (se : Nat → UInt8) (bs os n cps : Nat) (su : Nat → Int) (bm m cpm : Nat) (p : Nat → Nat) (me : Nat → Int)
    (hg : w.heap[g0]? = some (.cells cs 126 (0, 0))) (h36 : cs.size = 36) (h1 : ∀ u ∈ cs, u.oneCell' = true) (hH : Hello w (norm cs) mj mi tm rd bse ns cpse se bs os n cps su bm m cpm p me)
    (hK : ∀ j, j < 64 → w.cell? ⟨4, j, none⟩ = some (.int .u32 (Kc.getD j 0))) (hb : ∀ u ∈ rawOf mj mi tm rd ns se n su m me, isByte u) :
    Calls Tryz.prog 46 #[.pointer (some ⟨g0, 0, none⟩)] w fun e w' => e = .returned (.tuple #[.agg (shaOf (byteAt (rawOf mj mi tm rd ns se n su m me)) (rawOf mj mi tm rd ns se n su m me).length), .nilIface]) ∧ Below w.heap.size w w' := by
  obtain ⟨fs, hu⟩ := hu126
  have HG := Lib.hid hg
  have H36 := Lib.hid h36
  have H1 := Lib.hid h1
  have HH := Lib.hid hH
  have HK := Lib.hid hK
  have HB := Lib.hid hb
  have HU := Lib.hid hu
  clear hg h36 h1 hH hK hb hu
  go_enter Tryz.func46, Tryz.ntmps46
  go_upto_region 1 with fail
  change Code.wp _ _ _ _ (w.alloc (Obj.cells zero32 58))
  have hB1 : Below w.heap.size w (w.alloc (Obj.cells zero32 58)) := (Below.refl _ _).alloc (Nat.le_refl _) _
  have hR1 := heap_alloc_new w (Obj.cells zero32 58)
  have hs1 := World.size_alloc w (Obj.cells zero32 58)
  generalize w.alloc (Obj.cells zero32 58) = w1 at hB1 hR1 hs1 ⊢
  have hg1 := bblk hB1 HG.out
  have HB1 := Lib.hid hB1
  have HR1 := Lib.hid hR1
  have HS1 := Lib.hid hs1
  have HG1 := Lib.hid hg1
  clear hB1 hR1 hs1 hg1
  go_upto_region 2 with (first | (with_reducible refine wpList_load_row rfl 126 (.tmp 8) rfl g0 (by kernel_rfl) 126 cs (0, 0) _ HG1.out HU.out rfl (hi126 H36.out) ?_) | (refine wpList_store_row (o := ⟨none, .store 126 (.tmp 4) (.tmp 9), _, _, _, _⟩) rfl 126 (.tmp 4) (.tmp 9) rfl w1.heap.size cs (by kernel_rfl) (by kernel_rfl) 126 _ (heap_alloc_new w1 _) (hi126 H36.out) (by rw [H36.out]; kernel_rfl) (all_of_one H1.out) ?_; rw [setRow_alloc]))
  have hB2 : Below w.heap.size w (w1.alloc (Obj.cells cs 126)) := HB1.out.alloc HB1.out.size _
  have hg2 := heap_alloc_new w1 (Obj.cells cs 126)
  have hr2 := bblk ((Below.refl w1.heap.size w1).alloc (Nat.le_refl _) (Obj.cells cs 126)) HR1.out
  generalize w1.alloc (Obj.cells cs 126) = w2 at hB2 hg2 hr2 ⊢
  have c31 := (bcell hg2 31).trans (Array.getElem?_eq_getElem (by rw [H36.out]; omega))
  have c35 := (bcell hg2 35).trans (Array.getElem?_eq_getElem (by rw [H36.out]; omega))
  have f31 := bfrozen hg2 31
  have f35 := bfrozen hg2 35
  have HG2 := Lib.hid hg2
  have HB2 := Lib.hid hB2
  have HR2 := Lib.hid hr2
  clear hB2 hg2 hr2
  go_upto_region 4 with fail
  have hg3 := bset (bset HG2.out 31 (.slice none 0 0)) 35 (.slice none 0 0)
  have hb3 := ((HB2.out.setCell (p := ⟨w1.heap.size, 31, none⟩) HB1.out.size (.slice none 0 0)).setCell (p := ⟨w1.heap.size, 35, none⟩) HB1.out.size (.slice none 0 0))
  have hr3 : ((w2.setCell ⟨w1.heap.size, 31, none⟩ (.slice none 0 0)).setCell ⟨w1.heap.size, 35, none⟩ (.slice none 0 0)).heap[w.heap.size]? = _ :=
    (Below.heap_setCell _ ⟨w1.heap.size, 35, none⟩ _ w.heap.size (by have := HS1.out; simp only; omega)).trans ((Below.heap_setCell _ ⟨w1.heap.size, 31, none⟩ _ w.heap.size (by have := HS1.out; simp only; omega)).trans HR2.out)
  clear c31 c35 f31 f35
  generalize (w2.setCell ⟨w1.heap.size, 31, none⟩ (.slice none 0 0)).setCell ⟨w1.heap.size, 35, none⟩ (.slice none 0 0) = w3 at hg3 hb3 hr3 ⊢
  have HG3 := Lib.hid hg3
  have HB3 := Lib.hid hb3
  have HR3 := Lib.hid hr3
  clear hg3 hb3 hr3
  go_wp2_with fail
  refine (marshal_any w1.heap.size w3 (norm cs) mj mi tm rd bse ns cpse se bs os n cps su bm m cpm p me HG3.out (HH.out.below HB3.out)).mono ?_
  rintro e w4 ⟨v, B, rfl, hB, ho, hb4⟩
  have hb4' := HB3.out.trans (hb4.mono HB3.out.size)
  have hr4 := bblk hb4 HR3.out
  obtain ⟨q, cap, cur, rfl, hq, hh, hl, hm, hcs, ht⟩ := own_row ho (by omega)
  have hlen : (rawOf mj mi tm rd ns se n su m me).length = 0 + 2 + 32 + 1 + ns + 1 + (2 + 2 * n) + (1 + m) + 2 := by
    have := ho.1
    omega
  have hdat : ∀ j, j < 0 + 2 + 32 + 1 + ns + 1 + (2 + 2 * n) + (1 + m) + 2 → w4.cell? ⟨q, 0 + j, none⟩ = some (.int .u8 ((byteAt (rawOf mj mi tm rd ns se n su m me) j).toNat : Int)) := fun j hj => by
    have hj' : j < (rawOf mj mi tm rd ns se n su m me).length := by omega
    have h1 := row_src hh (Below.refl _ _) ht j _ (List.getElem?_eq_getElem hj')
    rw [h1, byteAt_get HB.out (List.getElem?_eq_getElem hj')]
  generalize hN : 0 + 2 + 32 + 1 + ns + 1 + (2 + 2 * n) + (1 + m) + 2 = N at hl hlen hdat ⊢
  have hN1 : 0 < N := by omega
  have hN2 : N ≤ 65535 := by have h2 := HH.out.ns32; have h3 := HH.out.n2; have h4 := HH.out.m2; omega
  unfold maxLen at hm
  have HN := Lib.hid hN
  have HB4 := Lib.hid hb4'
  have HR4 := Lib.hid hr4
  have HD := Lib.hid hdat
  have HL := Lib.hid hlen
  clear hN hb4 hb4' hr4 hdat hB ho hh ht hcs hq hlen
  dsimp only
  go_wp2_with fail
  refine (sum256_any q 0 N cap (byteAt (rawOf mj mi tm rd ns se n su m me)) w4 hN1 hN2 hl hm HD.out (fun j hj => bcellv HB4.out (HK.out j hj))).mono ?_
  rintro e w5 ⟨rfl, hb5⟩
  have hb5' := HB4.out.trans (hb5.mono HB4.out.size)
  have hr5 := bblk hb5 HR4.out
  have ho1 : ∀ u ∈ shaOf (byteAt (rawOf mj mi tm rd ns se n su m me)) N, u.oneCell' = true := sumOf_one _ _ _ _
  have ho2 : (shaOf (byteAt (rawOf mj mi tm rd ns se n su m me)) N).size = 32 := sumOf_size _ _ _ _
  generalize hO : shaOf (byteAt (rawOf mj mi tm rd ns se n su m me)) N = out at ho1 ho2 ⊢
  have ho3 : (Tryz.prog.info? 58).map (·.size) = some out.size := by rw [ho2]; kernel_rfl
  have HO := Lib.hid hO
  have HO1 := Lib.hid ho1
  have HO2 := Lib.hid ho2
  have HO3 := Lib.hid ho3
  have HB5 := Lib.hid hb5'
  have HR5 := Lib.hid hr5
  clear hO ho1 ho2 ho3 hb5 hb5' hr5
  dsimp only
  go_wp2_with (refine wpList_store_row (o := ⟨none, .store 58 (.tmp 2) (.tmp 21), _, _, _, _⟩) rfl 58 (.tmp 2) (.tmp 21) rfl w.heap.size out (by kernel_rfl) (by kernel_rfl) 58 zero32 HR5.out HO3.out (HO2.out.symm ▸ rfl) (all_of_one HO1.out) ?_)
  refine bodyPost_ret (results_cell_row_tmp rfl _ _ w.heap.size 58 out (0, 0) _ (by kernel_rfl) (setRow_heap w5 w.heap.size zero32 _ 58 _ HR5.out) hu58 rfl HO3.out) rfl ⟨?_, below_setRow HB5.out (Nat.le_refl _) out⟩
  rw [HL.out, HO.out]
  rfl
end Go.Proofs.YtgnmgkpfgmpdfaaGreatDoor
end

/- ZZHelloHash. -/
section
namespace Go.Proofs.YtgnmgkpfgmpdfaaGreatDoor
open Go.RowKit

/-- The hash of a hello. -/
def hashOf (mj mi tm : Int) (rd : Nat → UInt8) (ns : Nat) (se : Nat → UInt8) (n : Nat) (su : Nat → Int) (m : Nat) (me : Nat → Int) : Array Value := shaOf (byteAt (rawOf mj mi tm rd ns se n su m me)) (rawOf mj mi tm rd ns se n su m me).length
theorem hash_one (mj mi tm : Int) (rd : Nat → UInt8) (ns : Nat) (se : Nat → UInt8) (n : Nat) (su : Nat → Int) (m : Nat) (me : Nat → Int) : ∀ u ∈ hashOf mj mi tm rd ns se n su m me, u.oneCell' = true := by unfold hashOf shaOf; exact sumOf_one _ _ _ _
theorem hash_size (mj mi tm : Int) (rd : Nat → UInt8) (ns : Nat) (se : Nat → UInt8) (n : Nat) (su : Nat → Int) (m : Nat) (me : Nat → Int) : (hashOf mj mi tm rd ns se n su m me).size = 32 := by unfold hashOf shaOf; exact sumOf_size _ _ _ _
set_option maxHeartbeats 2000000 in
set_option maxRecDepth 100000 in
theorem zz_any (g0 : Nat) (w : World) (cs : Array Value) (mj mi tm : Int) (rd : Nat → UInt8) (bse ns cpse : Nat) (se : Nat → UInt8) (bs os n cps : Nat) (su : Nat → Int) (bm m cpm : Nat) (p : Nat → Nat) (me : Nat → Int)
    (hg : w.heap[g0]? = some (.cells cs 126 (0, 0))) (h36 : cs.size = 36) (h1 : ∀ u ∈ cs, u.oneCell' = true) (hH : Hello w (norm cs) mj mi tm rd bse ns cpse se bs os n cps su bm m cpm p me)
    (hK : ∀ j, j < 64 → w.cell? ⟨4, j, none⟩ = some (.int .u32 (Kc.getD j 0))) (hb : ∀ u ∈ rawOf mj mi tm rd ns se n su m me, isByte u) :
    Calls Tryz.prog 22 #[.pointer (some ⟨g0, 0, none⟩)] w fun e w' => e = .returned (.tuple #[.agg (hashOf mj mi tm rd ns se n su m me), .nilIface]) ∧ Below w.heap.size w w' := by
  have HG := Lib.hid hg
  have H36 := Lib.hid h36
  have H1 := Lib.hid h1
  have HH := Lib.hid hH
  have HK := Lib.hid hK
  have HB := Lib.hid hb
  clear hg h36 h1 hH hK hb
  go_enter Tryz.func22, Tryz.ntmps22
  go_upto_region 1 with fail
  change Code.wp _ _ _ _ (w.alloc (Obj.cells zero32 58))
  have hB1 : Below w.heap.size w (w.alloc (Obj.cells zero32 58)) := (Below.refl _ _).alloc (Nat.le_refl _) _
  have hR1 := heap_alloc_new w (Obj.cells zero32 58)
  have hs1 := World.size_alloc w (Obj.cells zero32 58)
  generalize w.alloc (Obj.cells zero32 58) = w1 at hB1 hR1 hs1 ⊢
  have HB1 := Lib.hid hB1
  have HR1 := Lib.hid hR1
  clear hB1 hR1 hs1
  go_wp2_with fail
  refine (neg_any g0 w1 cs mj mi tm rd bse ns cpse se bs os n cps su bm m cpm p me (bblk HB1.out HG.out) H36.out H1.out (HH.out.below HB1.out) (fun j hj => bcellv HB1.out (HK.out j hj)) HB.out).mono ?_
  rintro e w5 ⟨rfl, hb5⟩
  have hb5' := HB1.out.trans (hb5.mono HB1.out.size)
  have hr5 := bblk hb5 HR1.out
  have ho1 := hash_one mj mi tm rd ns se n su m me
  have ho2 := hash_size mj mi tm rd ns se n su m me
  change ∀ u ∈ hashOf mj mi tm rd ns se n su m me, _ at ho1
  generalize hO : hashOf mj mi tm rd ns se n su m me = out at ho1 ho2
  have ho3 : (Tryz.prog.info? 58).map (·.size) = some out.size := by rw [ho2]; kernel_rfl
  have HO := Lib.hid hO
  change shaOf _ _ = out at hO
  rw [hO]
  have HO1 := Lib.hid ho1
  have HO2 := Lib.hid ho2
  have HO3 := Lib.hid ho3
  have HB5 := Lib.hid hb5'
  have HR5 := Lib.hid hr5
  clear hO ho1 ho2 ho3 hb5 hb5' hr5
  dsimp only
  go_wp2_with (refine wpList_store_row (o := ⟨none, .store 58 (.tmp 2) (.tmp 6), _, _, _, _⟩) rfl 58 (.tmp 2) (.tmp 6) rfl w.heap.size out (by kernel_rfl) (by kernel_rfl) 58 zero32 HR5.out HO3.out (HO2.out.symm ▸ rfl) (all_of_one HO1.out) ?_)
  refine bodyPost_ret (results_cell_row_tmp rfl _ _ w.heap.size 58 out (0, 0) _ (by kernel_rfl) (setRow_heap w5 w.heap.size zero32 _ 58 _ HR5.out) hu58 rfl HO3.out) rfl ⟨?_, below_setRow HB5.out (Nat.le_refl _) out⟩
  rw [HO.out]
  rfl
end Go.Proofs.YtgnmgkpfgmpdfaaGreatDoor
end

/- impl.version, impl.random of a message. -/
section
namespace Go.Proofs.YtgnmgkpfgmpdfaaGreatDoor
open Go.RowKit

/-- A message's cells, as far as a client hello has them. -/
structure Msg (ms : Array Value) (mj mi tm : Int) (rd ck se : ByteArray) (vsu vco vex : Value) : Prop where
  sz : ms.size = 25
  one : ∀ u ∈ ms, u.oneCell' = true
  c0 : ms[0]? = some (.int .u8 1)
  c2 : ms[2]? = some (.int .u8 mj)
  c3 : ms[3]? = some (.int .u8 mi)
  c4 : ms[4]? = some (.int .u32 tm)
  c5 : ms[5]? = some (.string rd)
  c6 : ms[6]? = some (.string ck)
  c7 : ms[7]? = some (.string se)
  c8 : ms[8]? = some vsu
  c9 : ms[9]? = some vco
  c10 : ms[10]? = some vex
  rd28 : rd.size = 28
def two81 : Array Value := #[.int .u8 0, .int .u8 0]
theorem hi81 (a b : Int) : (Tryz.prog.info? 81).map (·.size) = some (#[Value.int .u8 a, .int .u8 b] : Array Value).size := by kernel_rfl
set_option maxHeartbeats 1000000 in
set_option maxRecDepth 100000 in
theorem version_any (ms : Array Value) (mj mi : Int) (w : World) (h2 : ms[2]? = some (.int .u8 mj)) (h3 : ms[3]? = some (.int .u8 mi)) :
    Calls Tryz.prog 35 #[.agg ms] w fun e w' => e = .returned (.agg #[.int .u8 mj, .int .u8 mi]) ∧ Below w.heap.size w w' := by
  have hB2 : Below w.heap.size w ((w.alloc (Obj.cells ms 31)).alloc (Obj.cells #[Value.int IntKind.u8 0, Value.int IntKind.u8 0] 81)) := ((Below.refl _ _).alloc (Nat.le_refl _) _).alloc (by simp) _
  have hT2 : ((w.alloc (Obj.cells ms 31)).alloc (Obj.cells #[Value.int IntKind.u8 0, Value.int IntKind.u8 0] 81)).heap[w.heap.size + 1]? = some (.cells #[Value.int IntKind.u8 0, Value.int IntKind.u8 0] 81 (0, 0)) := by
    have h := heap_alloc_new (w.alloc (Obj.cells ms 31)) (Obj.cells #[Value.int IntKind.u8 0, Value.int IntKind.u8 0] 81)
    rwa [World.size_alloc] at h
  have hM2 : ((w.alloc (Obj.cells ms 31)).alloc (Obj.cells #[Value.int IntKind.u8 0, Value.int IntKind.u8 0] 81)).heap[w.heap.size]? = some (.cells ms 31 (0, 0)) := by
    rw [heap_alloc_old _ _ (by simp)]
    exact heap_alloc_new _ _
  generalize hw : (w.alloc (Obj.cells ms 31)).alloc (Obj.cells #[Value.int IntKind.u8 0, Value.int IntKind.u8 0] 81) = w2 at hB2 hT2 hM2
  have k2 := (bcell hM2 2).trans h2
  have k3 := (bcell hM2 3).trans h3
  have HW := Lib.hid hw
  have HB2 := Lib.hid hB2
  have HT2 := Lib.hid hT2
  clear hB2 hT2 hM2 h2 h3 hw
  go_enter Tryz.func35, Tryz.ntmps35
  go_upto_region 1 with fail
  rw [HW.out]
  go_wp2_with (refine wpList_store_row (o := ⟨none, .store 81 (.tmp 2) (.tmp 7), _, _, _, _⟩) rfl 81 (.tmp 2) (.tmp 7) rfl (w.heap.size + 1) #[.int .u8 mj, .int .u8 mi] (by kernel_rfl) (by kernel_rfl) 81 #[Value.int IntKind.u8 0, Value.int IntKind.u8 0] HT2.out (hi81 mj mi) rfl (by kernel_rfl) ?_)
  exact bodyPost_ret (results_cell_row rfl _ _ (w.heap.size + 1) 81 #[.int .u8 mj, .int .u8 mi] (0, 0) _ (by kernel_rfl) (setRow_heap w2 (w.heap.size + 1) _ _ 81 _ HT2.out) Tryz.underlying81 rfl (hi81 mj mi)) rfl ⟨rfl, below_setRow HB2.out (by omega) _⟩
end Go.Proofs.YtgnmgkpfgmpdfaaGreatDoor
end
