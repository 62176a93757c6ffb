/- impl.random of a message. -/
import Derived.Test.YtgnmgkpfgmpdfaaGreatDoorSMsg
set_option linter.unusedVariables false
set_option linter.unusedSimpArgs false
section
namespace Go.Proofs.YtgnmgkpfgmpdfaaGreatDoor
open Go.RowKit

theorem wpList_copy_string {P : Program} {w : World} {ops : Array Oper} {rest : List Oper} {o : Oper} {a : Act} {Q : Exit → Act → World → Prop} (hgd : o.guard = none) (d s : Operand) (dT sT : TypeId)
    (ho : o.op = .call { callee := .builtin .copy, args := #[d, s], argTypes := #[dT, sT] }) (elem : TypeId) (hu : P.underlying dT = some (.slice elem)) (hsz : (P.info? elem).map (·.size) = some 1)
    (g off dLen dCap : Nat) (b : ByteArray) (hd : a.eval d = .slice (some ⟨g, off, none⟩) dLen dCap) (hs : a.eval s = .string b)
    (cur : Array Value) (t : TypeId) (hg : w.heap[g]? = some (.cells cur t (0, 0))) (hle : b.size ≤ dLen) (hfit : off + b.size ≤ cur.size)
    (h : wpList P ops Q rest (a.put o.dst (goInt b.size)) (w.setRow g (cur.toList.take off ++ Lib.byteCells b.data.toList ++ cur.toList.drop (off + b.size)).toArray)) : wpList P ops Q (o :: rest) a w := by
  refine wpList_plain hgd fun K hK => ?_
  have hrun := Lib.run_copy_row_string (P := P) w dT sT o.type elem g off dLen dCap b cur t hu hsz hg hle hfit
  unfold Oper.wp
  simp [execOp, ho, resolve, invoke, builtin, hd, hs, hrun, Result.andThen]
  exact hK _ _ (by simpa using h)
def zero28 : Array Value := (Value.int .u32 0 :: List.replicate 28 (.int .u8 0)).toArray
def tm28 (tm : Int) : Array Value := (Value.int .u32 tm :: List.replicate 28 (.int .u8 0)).toArray
def rndC (tm : Int) (rd : ByteArray) : Array Value := (Value.int .u32 tm :: Lib.byteCells rd.data.toList).toArray
theorem hi121 : (Tryz.prog.info? 121).map (·.size) = some 29 := by kernel_rfl
theorem rndC_size (tm : Int) (rd : ByteArray) (h : rd.size = 28) : (rndC tm rd).size = 29 := by
  simp [rndC, Lib.byteCells_length, h]
theorem rndC_one (tm : Int) (rd : ByteArray) : ∀ u ∈ rndC tm rd, u.oneCell' = true := by
  intro u hu
  simp only [rndC, List.mem_toArray, List.mem_cons] at hu
  rcases hu with rfl | hu
  · rfl
  · exact Lib.byteCells_one _ u hu
theorem rnd_row (tm : Int) (rd : ByteArray) (h : rd.size = 28) : (List.take 1 (tm28 tm).toList ++ Lib.byteCells rd.data.toList ++ List.drop (1 + rd.size) (tm28 tm).toList).toArray = rndC tm rd := by
  rw [h]
  have e1 : List.take 1 (tm28 tm).toList = [.int .u32 tm] := rfl
  have e2 : List.drop (1 + 28) (tm28 tm).toList = [] := rfl
  rw [e1, e2, List.append_nil]
  rfl
set_option maxHeartbeats 1000000 in
set_option maxRecDepth 100000 in
theorem random_any (ms : Array Value) (tm : Int) (rd : ByteArray) (w : World) (h4 : ms[4]? = some (.int .u32 tm)) (h5 : ms[5]? = some (.string rd)) (h28 : rd.size = 28) :
    Calls Tryz.prog 71 #[.agg ms] w fun e w' => e = .returned (.agg (rndC tm rd)) ∧ Below w.heap.size w w' := by
  have H4 := Lib.hid h4
  have H5 := Lib.hid h5
  have H28 := Lib.hid h28
  clear h4 h5 h28
  go_enter Tryz.func71, Tryz.ntmps71
  go_upto_region 1 with fail
  have hB1 : Below w.heap.size w ((w.alloc (Obj.cells ms 31)).alloc (Obj.cells zero28 121)) := ((Below.refl _ _).alloc (Nat.le_refl _) _).alloc (by simp) _
  have hT1 : ((w.alloc (Obj.cells ms 31)).alloc (Obj.cells zero28 121)).heap[w.heap.size + 1]? = some (.cells zero28 121 (0, 0)) := by
    have h := heap_alloc_new (w.alloc (Obj.cells ms 31)) (Obj.cells zero28 121)
    rwa [World.size_alloc] at h
  have hM1 : ((w.alloc (Obj.cells ms 31)).alloc (Obj.cells zero28 121)).heap[w.heap.size]? = some (.cells ms 31 (0, 0)) := by
    rw [heap_alloc_old _ _ (by simp)]
    exact heap_alloc_new _ _
  change Code.wp _ _ _ _ ((w.alloc (Obj.cells ms 31)).alloc (Obj.cells zero28 121))
  generalize (w.alloc (Obj.cells ms 31)).alloc (Obj.cells zero28 121) = w1 at hB1 hT1 hM1 ⊢
  have k4 := (bcell hM1 4).trans H4.out
  have HB1 := Lib.hid hB1
  have HT1 := Lib.hid hT1
  have HM1 := Lib.hid hM1
  clear hB1 hT1 hM1
  go_wp2_with (refine wpList_store_row (o := ⟨none, .store 121 (.tmp 3) (.tmp 6), _, _, _, _⟩) rfl 121 (.tmp 3) (.tmp 6) rfl w1.heap.size (tm28 tm) (by kernel_rfl) (by kernel_rfl) 121 zero28 (heap_alloc_new w1 _) hi121 rfl (by kernel_rfl) ?_; change wpList _ _ _ _ _ ((w1.alloc (Obj.cells zero28 121)).setRow w1.heap.size (tm28 tm)); rw [setRow_alloc])
  have hB2 := HB1.out.alloc HB1.out.size (Obj.cells (tm28 tm) 121)
  have hT2 := (heap_alloc_old w1 (Obj.cells (tm28 tm) 121) (blt HT1.out)).trans HT1.out
  have hM2 := (heap_alloc_old w1 (Obj.cells (tm28 tm) 121) (blt HM1.out)).trans HM1.out
  have hG2 := heap_alloc_new w1 (Obj.cells (tm28 tm) 121)
  have hge : w.heap.size ≤ w1.heap.size := HB1.out.size
  have hne : w.heap.size + 1 ≠ w1.heap.size := by have := blt HT1.out; omega
  generalize w1.heap.size = g at hG2 hge hne ⊢
  generalize w1.alloc (Obj.cells (tm28 tm) 121) = w2 at hB2 hT2 hM2 hG2 ⊢
  have k5 := (bcell (show w2.drew.heap[w.heap.size]? = _ from hM2) 5).trans H5.out
  have HB2 := Lib.hid hB2.drew
  have HT2 := Lib.hid (show w2.drew.heap[w.heap.size + 1]? = _ from hT2)
  have HG2 := Lib.hid (show w2.drew.heap[g]? = _ from hG2)
  have HGE := Lib.hid hge
  have HNE := Lib.hid hne
  clear k4 hB2 hT2 hM2 hG2 hge hne HB1 HT1 HM1
  go_still_tail 4, (by kernel_rfl)
  change wpList _ _ _ _ _ w2.drew
  generalize w2.drew = w3 at HB2 HT2 HG2 k5 ⊢
  refine wpList_copy_string (o := ⟨_, .call { callee := .builtin .copy, args := #[.tmp 8, .tmp 10], argTypes := #[24, 9] }, _, _, _, _⟩) rfl (.tmp 8) (.tmp 10) 24 9 rfl 5 underlying24 size5 g 1 28 28 rd (by kernel_rfl) (by kernel_rfl) (tm28 tm) 121 HG2.out (by rw [H28.out]; decide) (by rw [H28.out]; exact Nat.le_refl 29) ?_
  rw [rnd_row tm rd H28.out]
  have hB4 := below_setRow HB2.out HGE.out (rndC tm rd)
  have hT4 : (w3.setRow g (rndC tm rd)).heap[w.heap.size + 1]? = _ := (setRow_other w3 g _ _ HNE.out).trans HT2.out
  have hG4 := setRow_heap w3 g _ (rndC tm rd) 121 _ HG2.out
  have hs := rndC_size tm rd H28.out
  have ho := rndC_one tm rd
  have hi : (Tryz.prog.info? 121).map (·.size) = some (rndC tm rd).size := by rw [hs]; exact hi121
  generalize hE : rndC tm rd = out at hB4 hT4 hG4 hs ho hi ⊢
  have HE := Lib.hid hE
  clear hE
  generalize w3.setRow g out = w4 at *
  have HB4 := Lib.hid hB4
  have HT4 := Lib.hid hT4
  have HG4 := Lib.hid hG4
  have HS := Lib.hid hs
  have HO := Lib.hid ho
  have HI := Lib.hid hi
  clear hB4 hT4 hG4 hs ho hi k5 HB2 HT2 HG2
  go_wp2_with (first | (with_reducible refine wpList_load_row rfl 121 (.tmp 3) rfl g (by kernel_rfl) 121 out (0, 0) _ HG4.out Tryz.underlying121 rfl HI.out ?_) | (refine wpList_store_row (o := ⟨none, .store 121 (.tmp 2) (.tmp 12), _, _, _, _⟩) rfl 121 (.tmp 2) (.tmp 12) rfl (w.heap.size + 1) out (by kernel_rfl) (by kernel_rfl) 121 zero28 HT4.out HI.out (by rw [HS.out]; rfl) (all_of_one HO.out) ?_))
  refine bodyPost_ret (results_cell_row rfl _ _ (w.heap.size + 1) 121 out (0, 0) _ (by kernel_rfl) (setRow_heap w4 (w.heap.size + 1) zero28 _ 121 _ HT4.out) Tryz.underlying121 rfl HI.out) rfl ⟨?_, below_setRow HB4.out (by omega) out⟩
  rw [HE.out]
end Go.Proofs.YtgnmgkpfgmpdfaaGreatDoor
end

/- impl.methods. -/
section
namespace Go.Proofs.YtgnmgkpfgmpdfaaGreatDoor
open Go.RowKit
theorem info129 : (Tryz.prog.info? 129).map (fun i => (i.zero, i.size, i.bytes)) = some (some (.pointer none), 1, 8) := by kernel_rfl
theorem info28 : (Tryz.prog.info? 28).map (fun i => (i.zero, i.size, i.bytes)) = some (some (.int .u16 0), 1, 2) := by kernel_rfl
theorem info188 : (Tryz.prog.info? 188).map (fun i => (i.zero, i.size, i.bytes)) = some (some .nilIface, 1, 16) := by kernel_rfl
theorem u123 : Tryz.prog.underlying 123 = some (.slice 129) := by kernel_rfl
theorem u116 : Tryz.prog.underlying 116 = some (.slice 188) := by kernel_rfl
theorem u23 : Tryz.prog.underlying 23 = some (.slice 28) := by kernel_rfl
section
variable {ops : Array Oper} {rest : List Oper} {o : Oper} {a : Act} {w : World} {Q : Exit → Act → World → Prop}
/-- One more element, of one cell, behind a row of one's own. -/
theorem app_one (hgd : o.guard = none) (s x : Operand) (t e : TypeId) (z : Value) (by8 : Nat) (ho : o.op = .call { callee := .builtin .append, args := #[s, x], argTypes := #[t, t] })
    (ht : Tryz.prog.underlying t = some (.slice e)) (hinf : (Tryz.prog.info? e).map (fun i => (i.zero, i.size, i.bytes)) = some (some z, 1, by8)) (hz : z.cells.size = 1) (h16 : by8 ≤ 16)
    (base : Nat) (v : Value) (n : Nat) (xs : List Value) (hs : a.eval s = v) (hown : w.ownsRow base e 1 v n xs)
    (b : Nat) (c : Nat) (u : Value) (hx : a.eval x = .slice (some ⟨b, 0, none⟩) 1 c) (hnew : w.cell? ⟨b, 0, none⟩ = some u) (h1 : u.oneCell' = true)
    (h63 : n + 1 ≤ 4294967296) (hbase : base ≤ w.heap.size)
    (h : ∀ v' w', w'.ownsRow base e 1 v' (n + 1) (xs ++ [u]) → w.grownBy w' v.ownBlock → wpList Tryz.prog ops Q rest (a.put o.dst v') w') : wpList Tryz.prog ops Q (o :: rest) a w := by
  obtain ⟨i, hi, hz0, hz1, hz2⟩ := info_parts hinf
  have hb : (n + 1) * by8 ≤ 140737488355328 := Nat.le_trans (Nat.mul_le_mul h63 h16) (by decide)
  exact wpList_append_own w hgd s x t ho base e i z 1 by8 ht hi hz0 hz1 hz2 hz (by decide) v n xs hs hown ⟨b, 0, none⟩ 1 c [u] hx rfl (fun j u' hj => by
      cases j with
      | zero => simp at hj; subst hj; simpa [addr_add] using hnew
      | succ j => simp at hj) (fun u' hu' => by obtain rfl := List.mem_singleton.1 hu'; exact h1)
    (by unfold maxLen; omega) hb hbase (fun v' w' a1 a2 _ => h v' w' a1 a2)
end
/-- The methods' pointers. -/
def ptrs (p : Nat → Nat) (k : Nat) : List Value := (List.range k).map fun j => .pointer (some ⟨p j, 0, none⟩)
theorem ptrs_succ (p : Nat → Nat) (k : Nat) : ptrs p (k + 1) = ptrs p k ++ [.pointer (some ⟨p k, 0, none⟩)] := by simp [ptrs, List.range_succ]
theorem ptrs_congr (p p' : Nat → Nat) (k : Nat) (h : ∀ j, j < k → p j = p' j) : ptrs p k = ptrs p' k := by
  unfold ptrs
  exact List.map_congr_left fun j hj => by rw [h j (List.mem_range.1 hj)]
def MetRel (me : Nat → Int) (m : Nat) (w : World) (v i : Value) (wr : World) : Prop :=
  ∃ (k : Nat) (p : Nat → Nat), k ≤ m ∧ i = .int .i64 (k : Int) ∧ wr.ownsRow w.heap.size 129 1 v k (ptrs p k) ∧ Below w.heap.size w wr ∧
    ∀ j, j < k → wr.heap[p j]? = some (.cells #[.int .u8 (me j)] 192 (0, 0))
set_option maxHeartbeats 2000000 in
set_option maxRecDepth 100000 in
theorem methods_any (b o m cap : Nat) (me : Nat → Int) (w : World) (hm1 : m ≤ 255) (hm : ∀ j, j < m → w.cell? ⟨b, o + j, none⟩ = some (.int .u8 (me j))) :
    Calls Tryz.prog 72 #[.slice (some ⟨b, o, none⟩) m cap] w fun e w' => ∃ v p, e = .returned v ∧ w'.ownsRow w.heap.size 129 1 v m (ptrs p m) ∧ Below w.heap.size w w' ∧
      ∀ j, j < m → w'.heap[p j]? = some (.cells #[.int .u8 (me j)] 192 (0, 0)) := by
  have HM := Lib.hid hm
  clear hm
  have gm : (m : Int) ≤ 255 := by omega
  go_enter Tryz.func72, Tryz.ntmps72
  go_wp2_with fail
  go_loopw [3, 8] (fun v i wr => MetRel me m w v i wr) (fun _ i _ => m - (intOf i).toNat)
  case atStart => exact ⟨0, fun _ => 0, by omega, rfl, World.ownsRow_nil _ _ _ _, Below.refl _ _, fun j hj => absurd hj (by omega)⟩
  case round =>
    obtain ⟨k, p, hk, rfl, hown, hB, hp⟩ := hrel
    by_cases hlt : k < m
    · have hm1 := HM.out k hlt
      have c1 := (hB.cell (p := ⟨b, o + k, none⟩) (World.block_lt_of_cell? w _ hm1)).trans hm1
      clear hm1
      have g1 : (k : Int) < m := by omega
      have HOWN := Lib.hid hown
      have HB := Lib.hid hB
      have HP := Lib.hid hp
      clear hown hB hp
      go_upto_region 5 with fail
      have hb2 : Below w.heap.size w ((wr.alloc (Obj.cells #[Value.int .u8 (me k)] 192)).alloc (Obj.cells #[Value.pointer (some ⟨wr.heap.size, 0, none⟩)] 129)) := (HB.out.alloc HB.out.size _).alloc (by rw [World.size_alloc]; have := HB.out.size; omega) _
      have ho2 : ((wr.alloc (Obj.cells #[Value.int .u8 (me k)] 192)).alloc (Obj.cells #[Value.pointer (some ⟨wr.heap.size, 0, none⟩)] 129)).ownsRow w.heap.size 129 1 u3 k (ptrs p k) := (HOWN.out.alloc _).alloc _
      have hp2 : ∀ j, j < k → ((wr.alloc (Obj.cells #[Value.int .u8 (me k)] 192)).alloc (Obj.cells #[Value.pointer (some ⟨wr.heap.size, 0, none⟩)] 129)).heap[p j]? = some (.cells #[.int .u8 (me j)] 192 (0, 0)) := fun j hj => by
        have h := HP.out j hj
        rw [heap_alloc_old _ _ (by rw [World.size_alloc]; have := blt h; omega), heap_alloc_old _ _ (blt h)]
        exact h
      have hq2 : ((wr.alloc (Obj.cells #[Value.int .u8 (me k)] 192)).alloc (Obj.cells #[Value.pointer (some ⟨wr.heap.size, 0, none⟩)] 129)).heap[wr.heap.size]? = some (.cells #[.int .u8 (me k)] 192 (0, 0)) := by
        rw [heap_alloc_old _ _ (by simp)]
        exact heap_alloc_new _ _
      have hn2 : ((wr.alloc (Obj.cells #[Value.int .u8 (me k)] 192)).alloc (Obj.cells #[Value.pointer (some ⟨wr.heap.size, 0, none⟩)] 129)).heap[wr.heap.size + 1]? = some (.cells #[Value.pointer (some ⟨wr.heap.size, 0, none⟩)] 129 (0, 0)) := by
        have h := heap_alloc_new (wr.alloc (Obj.cells #[Value.int .u8 (me k)] 192)) (Obj.cells #[Value.pointer (some ⟨wr.heap.size, 0, none⟩)] 129)
        rwa [World.size_alloc] at h
      generalize hW : (wr.alloc (Obj.cells #[Value.int .u8 (me k)] 192)).alloc (Obj.cells #[Value.pointer (some ⟨wr.heap.size, 0, none⟩)] 129) = w2 at hb2 ho2 hp2 hq2 hn2
      have hc2 := bcell hn2 0
      have HW := Lib.hid hW
      have HB2 := Lib.hid hb2
      have HO2 := Lib.hid ho2
      have HP2 := Lib.hid hp2
      have HQ2 := Lib.hid hq2
      have HC2 := Lib.hid hc2
      clear hW hb2 ho2 hp2 hq2 hn2 hc2
      go_wp2_with (refine app_one rfl (.tmp 12) (.tmp 16) 123 129 (.pointer none) 8 rfl u123 info129 rfl (by decide) w.heap.size u3 k (ptrs p k) (by kernel_rfl) (by rw [HW.out]; exact HO2.out) (wr.heap.size + 1) 1 (.pointer (some ⟨wr.heap.size, 0, none⟩)) (by kernel_rfl) (by rw [HW.out]; exact HC2.out) rfl (by omega) (by rw [HW.out]; exact HB2.out.size) ?_; rw [HW.out]; intro v' w3 hv hgr)
      have hb3 : Below w.heap.size w w3 := HB2.out.grown hgr HB2.out.size (fun k' hk' => (HO2.out.lt k' hk').1)
      have hne : ∀ (q : Nat) (cs : Array Value), w2.heap[q]? = some (.cells cs 192 (0, 0)) → w3.heap[q]? = some (.cells cs 192 (0, 0)) := fun q cs hq => by
        rw [← hq]
        refine hgr.block q (blt hq) (fun e => ?_)
        obtain ⟨_, h2⟩ := HO2.out
        rcases h2 with ⟨rfl, _⟩ | ⟨g, cap', cur, rfl, hg, hh, _⟩
        · simp [Value.ownBlock] at e
        · simp [Value.ownBlock] at e
          subst e
          rw [hh] at hq
          simp at hq
      have hrel : MetRel me m w v' (.int .i64 ((k + 1 : Nat) : Int)) w3 := by
        refine ⟨k + 1, fun j => if j < k then p j else wr.heap.size, by omega, rfl, ?_, hb3, fun j hj => ?_⟩
        · rw [ptrs_succ, ptrs_congr (fun j => if j < k then p j else wr.heap.size) p k (fun j hj => by simp [hj])]
          simpa using hv
        · by_cases hjk : j < k
          · simp only [hjk, if_true]
            exact hne _ _ (HP2.out j hjk)
          · obtain rfl : j = k := by omega
            simp only [hjk, if_false]
            exact hne _ _ HQ2.out
      have HR := Lib.hid hrel
      clear hrel hne hb3 hv hgr
      go_wp2_with fail
      go_roundw
      case rel => 
        have h := HR.out
        simpa using h
      case measure => simp [intOf]; omega
    · obtain rfl : k = m := by omega
      have HOWN := Lib.hid hown
      have HB := Lib.hid hB
      have HP := Lib.hid hp
      clear hown hB hp
      go_wp2_with fail
      go_ret
      exact ⟨u3, p, rfl, HOWN.out, HB.out, HP.out⟩
end Go.Proofs.YtgnmgkpfgmpdfaaGreatDoor
end
