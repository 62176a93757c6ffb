/- A region that draws: two loads that may run in either order. -/
import Derived.Test.YtgnmgkpfgmpdfaaGreatDoorSSum256
import Derived.Test.YtgnmgkpfgmpdfaaGreatDoorSCheck
import Derived.Test.YtgnmgkpfgmpdfaaGreatDoorSOwn
set_option linter.unusedVariables false
set_option linter.unusedSimpArgs false
section
namespace Go.Proofs.YtgnmgkpfgmpdfaaGreatDoor
open Go.RowKit

theorem load5 (W : World) (p : Addr) (u : Value) (h : W.cell? p = some u) : (Instr.loadAt 5 (.pointer (some p))).run Tryz.prog W = .ok u W := by
  simp [go_sem, Instr.loadAt, Instr.sureAddr, loadVar, h]
theorem wpOp_load {P : Program} {ops : Array Oper} {Q : Exit → Act → World → Prop} {i d : Nat} {t : TypeId} {x : Operand} {p : Addr} {u : Value} {K : Act → World → Prop} {a : Act} {w : World}
    (ho : (ops[i]?.map fun o => (o.guard, o.dst, o.op)) = some (none, some d, .load t x)) (hx : a.eval x = .pointer (some p)) (hr : (Instr.loadAt t (.pointer (some p))).run P w = .ok u w) (h : K (a.put (some d) u) w) : wpOp P ops Q i K a w := by
  cases hq : ops[i]? with
  | none => simp [hq] at ho
  | some o =>
    simp only [hq, Option.map_some, Option.some.injEq, Prod.mk.injEq] at ho
    unfold wpOp
    simp only [hq]
    rw [if_pos (by simp [Region.wanted, ho.1])]
    refine .inl ?_
    unfold Oper.wp execOp
    simp only [ho.2.2, hx, Sem.run_bind, hr, Result.andThen_ok, Sem.run_pure, Oper.upon, ho.2.1]
    exact h
theorem wpAny_loads2 {P : Program} {md : Region.Mode} {ops : Array Oper} {Q : Exit → Act → World → Prop} {fuel : Nat} {listed : Array Bool} {a : Act} {w : World} {i j di dj : Nat} {ti tj : TypeId} {xi xj : Operand} {pi pj : Addr} {vi vj : Value}
    (hr : Region.ready md ops listed = [i, j]) (hri : Region.ready md ops (listed.setIfInBounds i true) = [j]) (hrj : Region.ready md ops (listed.setIfInBounds j true) = [i])
    (hoi : (ops[i]?.map fun o => (o.guard, o.dst, o.op)) = some (none, some di, .load ti xi)) (hoj : (ops[j]?.map fun o => (o.guard, o.dst, o.op)) = some (none, some dj, .load tj xj))
    (hxi : a.eval xi = .pointer (some pi)) (hxj : a.eval xj = .pointer (some pj)) (hxi' : (a.put (some dj) vj).eval xi = .pointer (some pi)) (hxj' : (a.put (some di) vi).eval xj = .pointer (some pj))
    (hli : (Instr.loadAt ti (.pointer (some pi))).run P w = .ok vi w) (hlj : (Instr.loadAt tj (.pointer (some pj))).run P w = .ok vj w) (hd : di ≠ dj) (hij : i ≠ j)
    (h : wpAny P md ops Q fuel ((listed.setIfInBounds i true).setIfInBounds j true) ((a.put (some di) vi).put (some dj) vj) w) : wpAny P md ops Q (fuel + 2) listed a w := by
  refine wpAny_all hr (by simp) (fun k hk => ?_)
  simp only [List.mem_cons, List.not_mem_nil, or_false] at hk
  rcases hk with rfl | rfl
  · refine wpOp_load hoi hxi hli ?_
    refine wpAny_all hri (by simp) (fun k hk => ?_)
    obtain rfl := List.mem_singleton.1 hk
    exact wpOp_load hoj hxj' hlj h
  · refine wpOp_load hoj hxj hlj ?_
    refine wpAny_all hrj (by simp) (fun k hk => ?_)
    obtain rfl := List.mem_singleton.1 hk
    refine wpOp_load hoi hxi' hli ?_
    rw [Array.setIfInBounds_comm _ _ (Ne.symm hij), Act.put_comm a vj vi (fun d h1 h2 => hd ((Option.some.inj h2).trans (Option.some.inj h1).symm))]
    exact h
end Go.Proofs.YtgnmgkpfgmpdfaaGreatDoor
end

/- binary.BigEndian's PutUint16, PutUint32 into a block of the call's own. -/
section
namespace Go.Proofs.YtgnmgkpfgmpdfaaGreatDoor
open Go.RowKit

/-- Two bytes of a number, laid from place o on. -/
def put2 (cs : Array Value) (o : Nat) (v : Int) : Array Value := (cs.setIfInBounds o (.int .u8 (v / 256 % 256))).setIfInBounds (o + 1) (.int .u8 (v % 256))
set_option maxHeartbeats 1000000 in
set_option maxRecDepth 100000 in
theorem be16 (g o n c : Nat) (v : Int) (t : TypeId) (cs : Array Value) (w : World) (hn : 2 ≤ n) (hn1 : n ≤ 9223372036854775807) (ho : o + 2 ≤ cs.size) (hb : w.heap[g]? = some (.cells cs t (0, 0))) :
    Calls Tryz.prog 112 #[.agg #[], .slice (some ⟨g, o, none⟩) n c, .int .u16 v] w fun e w' => e = .returned (.tuple #[]) ∧ w'.heap[g]? = some (.cells (put2 cs o v) t (0, 0)) ∧ Chg w w' (fun i => i = g) := by
  have i0 : (0 : Int) < (n : Int) := by omega
  have i1 : (1 : Int) < (n : Int) := by omega
  have hB : Below w.heap.size w (w.alloc (.cells #[] 228)) := (Below.refl _ _).alloc (Nat.le_refl _) _
  have hb1 := bblk hB hb
  have hc1 := Chg.of_below hB (fun i => i = g)
  generalize hw : w.alloc (.cells #[] 228) = w1 at hb1 hc1
  have HW := Lib.hid hw
  have c0 := (bcell hb1 o).trans (Array.getElem?_eq_getElem (by omega))
  have c1 := (bcell hb1 (o + 1)).trans (Array.getElem?_eq_getElem (by omega))
  have f0 := bfrozen hb1 o
  have f1 := bfrozen hb1 (o + 1)
  have H := Lib.hid hb1
  have HC := Lib.hid hc1
  clear hB hb hb1 hc1 hw
  go_enter Tryz.func112, Tryz.ntmps112
  iterate 6 go_step
  rw [HW.out]
  go_wp2
  have b1 := bset H.out o (.int .u8 (v / 256 % 256))
  have b2 := bset b1 (o + 1) (.int .u8 (v % 256))
  have d1 := HC.out.setCell (p := ⟨g, o, none⟩) (.inl rfl) (.int .u8 (v / 256 % 256))
  have d2 := d1.setCell (p := ⟨g, o + 1, none⟩) (.inl rfl) (.int .u8 (v % 256))
  exact bodyPost_end (v := .tuple #[]) (by kernel_rfl) rfl ⟨rfl, b2, d2⟩
set_option maxHeartbeats 1000000 in
set_option maxRecDepth 100000 in
theorem be32 (g o n c : Nat) (v : Int) (t : TypeId) (cs : Array Value) (w : World) (hn : 4 ≤ n) (hn1 : n ≤ 9223372036854775807) (ho : o + 4 ≤ cs.size) (hb : w.heap[g]? = some (.cells cs t (0, 0))) :
    Calls Tryz.prog 113 #[.agg #[], .slice (some ⟨g, o, none⟩) n c, (Value.int .u32 v)] w fun e w' => e = .returned (.tuple #[]) ∧ w'.heap[g]? = some (.cells (put4 cs o v) t (0, 0)) ∧ Chg w w' (fun i => i = g) := by
  have i0 : (0 : Int) < (n : Int) := by omega
  have i1 : (1 : Int) < (n : Int) := by omega
  have i2 : (2 : Int) < (n : Int) := by omega
  have i3 : (3 : Int) < (n : Int) := by omega
  have hB : Below w.heap.size w (w.alloc (.cells #[] 228)) := (Below.refl _ _).alloc (Nat.le_refl _) _
  have hb1 := bblk hB hb
  have hc1 := Chg.of_below hB (fun i => i = g)
  generalize hw : w.alloc (.cells #[] 228) = w1 at hb1 hc1
  have HW := Lib.hid hw
  have c0 := (bcell hb1 o).trans (Array.getElem?_eq_getElem (by omega))
  have c1 := (bcell hb1 (o + 1)).trans (Array.getElem?_eq_getElem (by omega))
  have c2 := (bcell hb1 (o + 2)).trans (Array.getElem?_eq_getElem (by omega))
  have c3 := (bcell hb1 (o + 3)).trans (Array.getElem?_eq_getElem (by omega))
  have f0 := bfrozen hb1 o
  have f2 := bfrozen hb1 (o + 2)
  have f3 := bfrozen hb1 (o + 3)
  have f1 := bfrozen hb1 (o + 1)
  have H := Lib.hid hb1
  have HC := Lib.hid hc1
  clear hB hb hb1 hc1 hw
  go_enter Tryz.func113, Tryz.ntmps113
  iterate 6 go_step
  rw [HW.out]
  go_wp2
  have b1 := bset H.out o (.int .u8 (v / 16777216 % 256))
  have b2 := bset b1 (o + 1) (.int .u8 (v / 65536 % 256))
  have b3 := bset b2 (o + 2) (.int .u8 (v / 256 % 256))
  have b4 := bset b3 (o + 3) (.int .u8 (v % 256))
  have d1 := HC.out.setCell (p := ⟨g, o, none⟩) (.inl rfl) (.int .u8 (v / 16777216 % 256))
  have d2 := d1.setCell (p := ⟨g, o + 1, none⟩) (.inl rfl) (.int .u8 (v / 65536 % 256))
  have d3 := d2.setCell (p := ⟨g, o + 2, none⟩) (.inl rfl) (.int .u8 (v / 256 % 256))
  have d4 := d3.setCell (p := ⟨g, o + 3, none⟩) (.inl rfl) (.int .u8 (v % 256))
  exact bodyPost_end (v := .tuple #[]) (by kernel_rfl) rfl ⟨rfl, b4, d4⟩
end Go.Proofs.YtgnmgkpfgmpdfaaGreatDoor
end

/- handshake.Random's MarshalFixed. -/
section
namespace Go.Proofs.YtgnmgkpfgmpdfaaGreatDoor
open Go.RowKit

/-- A random value's 32 bytes. -/
def fixedOf (tm : Int) (d : Nat → UInt8) : Array Value := spl (put4 zero32 0 tm) 4 (bytesAt d 0 28)
theorem fixed_size (tm : Int) (d : Nat → UInt8) : (fixedOf tm d).size = 32 := by
  unfold fixedOf
  have hl := bytesAt_length d 0 28
  have hz : zero32.size = 32 := rfl
  rw [spl_size _ _ _ (by rw [put4_size, hl, hz]; omega), put4_size, hz]
theorem fixed_one (tm : Int) (d : Nat → UInt8) : ∀ u ∈ fixedOf tm d, u.oneCell' = true := one_spl (put4_one zero32_one _ _) _ bytesAt_one
set_option maxHeartbeats 2000000 in
set_option maxRecDepth 100000 in
theorem fixed_any (g o : Nat) (tm : Int) (d : Nat → UInt8) (w : World) (ht : w.cell? ⟨g, o, none⟩ = some (.int .u32 tm)) (hd : ∀ j, j < 28 → w.cell? ⟨g, o + 1 + j, none⟩ = some (.int .u8 ((d j).toNat : Int))) :
    Calls Tryz.prog 96 #[.pointer (some ⟨g, o, none⟩)] w fun e w' => e = .returned (.agg (fixedOf tm d)) ∧ Below w.heap.size w w' := by
  have HT := Lib.hid ht
  have HD := Lib.hid hd
  have hgw : g < w.heap.size := World.block_lt_of_cell? w _ ht
  clear ht hd
  go_enter Tryz.func96, Tryz.ntmps96
  go_wp2_with fail
  have hB1 : Below w.heap.size w ((w.alloc (Obj.cells zero32 58)).alloc (Obj.cells zero32 58)) := ((Below.refl _ _).alloc (Nat.le_refl _) _).alloc (by simp) _
  have hT1 : ((w.alloc (Obj.cells zero32 58)).alloc (Obj.cells zero32 58)).heap[w.heap.size + 1]? = some (.cells zero32 58 (0, 0)) := by
    have h := heap_alloc_new (w.alloc (Obj.cells zero32 58)) (Obj.cells zero32 58)
    rwa [World.size_alloc] at h
  have hR1 : ((w.alloc (Obj.cells zero32 58)).alloc (Obj.cells zero32 58)).heap[w.heap.size]? = some (.cells zero32 58 (0, 0)) := by
    rw [heap_alloc_old _ _ (by simp)]
    exact heap_alloc_new _ _
  change Code.wp _ _ _ _ ((w.alloc (Obj.cells zero32 58)).alloc (Obj.cells zero32 58))
  generalize (w.alloc (Obj.cells zero32 58)).alloc (Obj.cells zero32 58) = w1 at hB1 hT1 hR1 ⊢
  have hB2 := hB1.drew
  have hT2 : w1.drew.heap[w.heap.size + 1]? = _ := hT1
  have hR2 : w1.drew.heap[w.heap.size]? = _ := hR1
  have j0 : w1.drew.cell? ⟨g, o, none⟩ = some (.int .u32 tm) := (hB2.cell (by exact hgw)).trans HT.out
  have HB2 := Lib.hid hB2
  have HT2 := Lib.hid hT2
  have HR2 := Lib.hid hR2
  clear hB1 hT1 hR1 hB2 hT2 hR2
  go_still_tail 6, (by kernel_rfl)
  change wpList _ _ _ _ _ w1.drew
  generalize w1.drew = w2 at HB2 HT2 HR2 j0 ⊢
  go_wp2_with fail
  refine (be32 (w.heap.size + 1) 0 32 32 tm 58 zero32 w2 (by omega) (by omega) (by decide) HT2.out).mono ?_
  rintro e w3 ⟨rfl, hT3, hc3⟩
  have hR3 := hc3.blk HR2.out (by omega)
  have hB3 : Below w.heap.size w w3 := HB2.out.trans (hc3.to_below HB2.out.size (fun i h => by omega))
  have HT3 := Lib.hid hT3
  have HR3 := Lib.hid hR3
  have HB3 := Lib.hid hB3
  clear hT3 hc3 hR3 hB3 j0
  dsimp only
  go_wp2_with fail
  go_still_tail 5, (by kernel_rfl)
  change wpList _ _ _ _ _ w3.drew
  have hB4 := HB3.out.drew
  have hT4 : w3.drew.heap[w.heap.size + 1]? = _ := HT3.out
  have hR4 : w3.drew.heap[w.heap.size]? = _ := HR3.out
  generalize w3.drew = w4 at hB4 hT4 hR4 ⊢
  have hl : (bytesAt d 0 28).length = 28 := bytesAt_length d 0 28
  have hsrc : ∀ j u, (bytesAt d 0 28)[j]? = some u → w4.cell? ((⟨g, o + 1, none⟩ : Addr).add j) = some u := fun j u hj => by
    obtain ⟨h1, rfl⟩ := bytesAt_get hj
    rw [addr_add, Nat.zero_add]
    exact (hB4.cell (by exact hgw)).trans (HD.out j h1)
  have hz : (put4 zero32 0 tm).size = 32 := by rw [put4_size]; rfl
  have hT5 := setRow_heap w4 (w.heap.size + 1) _ (spl (put4 zero32 0 tm) 4 (bytesAt d 0 28)) 58 _ hT4
  have hR5 : (w4.setRow (w.heap.size + 1) (spl (put4 zero32 0 tm) 4 (bytesAt d 0 28))).heap[w.heap.size]? = _ := (setRow_other w4 (w.heap.size + 1) w.heap.size (spl (put4 zero32 0 tm) 4 (bytesAt d 0 28)) (by omega)).trans hR4
  have hB5 : Below w.heap.size w (w4.setRow (w.heap.size + 1) (spl (put4 zero32 0 tm) 4 (bytesAt d 0 28))) := below_setRow hB4 (by omega) _
  have ho1 : ∀ u ∈ spl (put4 zero32 0 tm) 4 (bytesAt d 0 28), u.oneCell' = true := fixed_one tm d
  have ho2 : (spl (put4 zero32 0 tm) 4 (bytesAt d 0 28)).size = 32 := fixed_size tm d
  generalize hw5 : w4.setRow (w.heap.size + 1) (spl (put4 zero32 0 tm) 4 (bytesAt d 0 28)) = w5 at hT5 hR5 hB5
  generalize hO : spl (put4 zero32 0 tm) 4 (bytesAt d 0 28) = out at hT5 hw5 ho1 ho2
  have ho3 : (Tryz.prog.info? 58).map (·.size) = some out.size := by rw [ho2]; kernel_rfl
  have HT4 := Lib.hid hT4
  have HL := Lib.hid hl
  have HSRC := Lib.hid hsrc
  have HZ := Lib.hid hz
  have HT5 := Lib.hid hT5
  have HR5 := Lib.hid hR5
  have HB5 := Lib.hid hB5
  have HW5 := Lib.hid hw5
  have HO := Lib.hid hO
  have HO1 := Lib.hid ho1
  have HO2 := Lib.hid ho2
  have HO3 := Lib.hid ho3
  clear hB4 hT4 hR4 hl hsrc hz hT5 hR5 hB5 ho1 ho2 ho3 hw5 hO
  go_wp2_with (first
    | (refine wpList_copy_own rfl (.tmp 11) (.tmp 15) 24 24 rfl 5 underlying24 size5 (w.heap.size + 1) 4 28 28 ⟨g, o + 1, none⟩ 28 28 (by kernel_rfl) (by kernel_rfl) (put4 zero32 0 tm) 58 HT4.out (bytesAt d 0 28) (by rw [HL.out]; rfl) HSRC.out (by rw [HL.out, HZ.out]; decide) bytesAt_one ?_; change wpList _ _ _ _ _ (w4.setRow (w.heap.size + 1) (spl (put4 zero32 0 tm) 4 (bytesAt d 0 28))); rw [HO.out, HW5.out, HL.out])
    | (with_reducible refine wpList_load_row rfl 58 (.tmp 3) rfl (w.heap.size + 1) (by kernel_rfl) 58 out (0, 0) _ HT5.out hu58 rfl HO3.out ?_)
    | (with_reducible refine wpList_store_row rfl 58 (.tmp 2) (.tmp 17) rfl w.heap.size out (by kernel_rfl) (by kernel_rfl) 58 zero32 HR5.out HO3.out (HO2.out.symm ▸ rfl) (all_of_one HO1.out) ?_))
  exact bodyPost_ret (results_cell_row rfl _ _ w.heap.size 58 out (0, 0) _ (by kernel_rfl) (setRow_heap w5 w.heap.size zero32 _ 58 _ HR5.out) hu58 rfl HO3.out) rfl ⟨by rw [← HO.out]; rfl, below_setRow HB5.out (Nat.le_refl _) out⟩
end Go.Proofs.YtgnmgkpfgmpdfaaGreatDoor
end

/- extension.Marshal of no extensions. -/
section
namespace Go.Proofs.YtgnmgkpfgmpdfaaGreatDoor
open Go.RowKit

def two0 : List Value := [.int .u8 0, .int .u8 0]
theorem own_new {w : World} {base b n cap : Nat} {cur : Array Value} (hb : w.heap[b]? = some (.cells cur 5 (0, 0))) (hbase : base ≤ b) (hn : n ≤ cap) (hc : cap ≤ maxLen) (hs : cur.size = cap) : w.ownsRow base 5 1 (.slice (some ⟨b, 0, none⟩) n cap) n (cur.toList.take n) :=
  ⟨by simp; omega, .inr ⟨b, cap, cur, rfl, hbase, hb, hn, hc, by omega, by simp⟩⟩
set_option maxHeartbeats 2000000 in
set_option maxRecDepth 100000 in
theorem extnil (w : World) :
    Calls Tryz.prog 93 #[.slice none 0 0] w fun e w' => ∃ v, e = .returned (.tuple #[v, .nilIface]) ∧ w'.ownsRow w.heap.size 5 1 v 2 two0 ∧ Below w.heap.size w w' := by
  go_enter Tryz.func93, Tryz.ntmps93
  go_wp2_with fail
  refine wp_loop_once ?_
  go_wp2_with fail
  have hB1 : Below w.heap.size w ((w.alloc (Obj.cells #[] 5)).alloc (Obj.cells #[Value.int IntKind.u8 0, Value.int IntKind.u8 0] 5)) := ((Below.refl _ _).alloc (Nat.le_refl _) _).alloc (by simp) _
  have hT1 : ((w.alloc (Obj.cells #[] 5)).alloc (Obj.cells #[Value.int IntKind.u8 0, Value.int IntKind.u8 0] 5)).heap[w.heap.size + 1]? = some (.cells #[.int .u8 0, .int .u8 0] 5 (0, 0)) := by
    have h := heap_alloc_new (w.alloc (Obj.cells #[] 5)) (Obj.cells #[Value.int IntKind.u8 0, Value.int IntKind.u8 0] 5)
    rwa [World.size_alloc] at h
  generalize (w.alloc (Obj.cells #[] 5)).alloc (Obj.cells #[Value.int IntKind.u8 0, Value.int IntKind.u8 0] 5) = w1 at hB1 hT1 ⊢
  refine (be16 (w.heap.size + 1) 0 2 2 0 5 _ w1 (by omega) (by omega) (by decide) hT1).mono ?_
  rintro e w2 ⟨rfl, hT2, hc2⟩
  have hB2 : Below w.heap.size w w2 := hB1.trans (hc2.to_below hB1.size (fun i h => by omega))
  have hown : w2.ownsRow w.heap.size 5 1 (.slice (some ⟨w.heap.size + 1, 0, none⟩) 2 2) 2 two0 := own_new hT2 (by omega) (Nat.le_refl _) (by decide) rfl
  have HOW := Lib.hid hown
  have HB2 := Lib.hid hB2
  clear hB1 hT1 hT2 hc2 hB2 hown
  dsimp only
  go_wp2_with (refine app_bytes rfl (.tmp 36) (.tmp 37) rfl w.heap.size (.slice (some ⟨w.heap.size + 1, 0, none⟩) 2 2) 2 two0 (by kernel_rfl) HOW.out w.heap.size 0 0 0 [] (by kernel_rfl) rfl (fun j u h => by cases h) (fun u h => by cases h) (by omega) HB2.out.size ?_; intro v' w3 hv hgr _)
  have hb3 : Below w.heap.size w w3 := HB2.out.grown hgr HB2.out.size (fun k hk => by simp [Value.ownBlock] at hk; omega)
  simp only [List.append_nil, Nat.add_zero] at hv
  go_ret2
  exact ⟨v', rfl, hv, hb3⟩
end Go.Proofs.YtgnmgkpfgmpdfaaGreatDoor
end
