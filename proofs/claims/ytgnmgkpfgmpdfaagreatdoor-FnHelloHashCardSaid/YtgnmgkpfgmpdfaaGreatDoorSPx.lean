/- laws.plainExts: what it comes to. -/
import Derived.Test.YtgnmgkpfgmpdfaaGreatDoorSPlain
import Derived.Test.YtgnmgkpfgmpdfaaGreatDoorSEw
import Derived.Test.YtgnmgkpfgmpdfaaGreatDoorSSh2
set_option linter.unusedVariables false
set_option linter.unusedSimpArgs false
section
namespace Go.Proofs.YtgnmgkpfgmpdfaaGreatDoor
open Go.RowKit

def flatE (D : Nat → ED) (k : Nat) : List Value := (List.range k).flatMap fun j => (D j).es.toList
theorem flatE_succ (D : Nat → ED) (k : Nat) : flatE D (k + 1) = flatE D k ++ (D k).es.toList := by simp [flatE, List.range_succ]
theorem flatE_length (D : Nat → ED) (k : Nat) : (flatE D k).length = 13 * k := by
  induction k with
  | zero => rfl
  | succ k ih =>
    rw [flatE_succ, List.length_append, ih]
    show 13 * k + 13 = _
    omega
theorem flatE_get (D : Nat → ED) {j i : Nat} {u : Value} (hu : (D j).es[i]? = some u) : ∀ n, j < n → (flatE D n)[j * 13 + i]? = some u := by
  have hi : i < 13 := (Array.getElem?_eq_some_iff.1 hu).1
  intro n
  induction n with
  | zero => intro h; omega
  | succ n ih =>
    intro h
    rw [flatE_succ]
    by_cases hj : j < n
    · rw [List.getElem?_append_left (by rw [flatE_length]; omega)]
      exact ih hj
    · obtain rfl : j = n := by omega
      rw [List.getElem?_append_right (by rw [flatE_length]; omega), flatE_length]
      have e : j * 13 + i - 13 * j = i := by omega
      rw [e]
      simpa using hu
theorem flatE_congr {D D' : Nat → ED} {k : Nat} (h : ∀ j, j < k → D j = D' j) : flatE D k = flatE D' k := by
  induction k with
  | zero => rfl
  | succ k ih => rw [flatE_succ, flatE_succ, ih (fun j hj => h j (by omega)), h k (by omega)]
theorem own_slE {w : World} {base n : Nat} {v : Value} {D : Nat → ED} (h : w.ownsRow base 69 13 v n (flatE D n)) (hx : ∀ j, j < n → Ext w (D j)) : ∃ p c, v = .slice p n c ∧ SlE w p n D := by
  obtain ⟨hl, h2⟩ := h
  rcases h2 with ⟨rfl, rfl⟩ | ⟨g, cap, cur, rfl, _, hh, hc, hm, hs, ht⟩
  · exact ⟨none, 0, rfl, fun j hj => absurd hj (by omega)⟩
  · refine ⟨_, _, rfl, fun j hj => ⟨_, _, rfl, fun i u hu => ?_, hx j hj⟩⟩
    · have hi : i < 13 := (Array.getElem?_eq_some_iff.1 hu).1
      have hg := flatE_get D hu n hj
      rw [Nat.zero_add, bcell hh]
      rw [← ht, List.getElem?_take_of_lt (by omega)] at hg
      simpa using hg
section
variable {ops : Array Oper} {rest : List Oper} {o : Oper} {a : Act} {w : World} {Q : Exit → Act → World → Prop}
/-- One more extension behind a row of one's own. -/
theorem app_es (hgd : o.guard = none) (s x : Operand) (t e : TypeId) (z : Value) (by8 : Nat) (ho : o.op = .call { callee := .builtin .append, args := #[s, x], argTypes := #[t, t] })
    (ht : Tryz.prog.underlying t = some (.slice e)) (hinf : (Tryz.prog.info? e).map (fun i => (i.zero, i.size, i.bytes)) = some (some z, 13, by8)) (hz : z.cells.size = 13) (h16 : by8 ≤ 256)
    (base : Nat) (v : Value) (n : Nat) (xs : List Value) (hs : a.eval s = v) (hown : w.ownsRow base e 13 v n xs)
    (b : Nat) (c : Nat) (us : List Value) (hl : us.length = 13) (hx : a.eval x = .slice (some ⟨b, 0, none⟩) 1 c) (hn : ∀ j u, us[j]? = some u → w.cell? ⟨b, j, none⟩ = some u) (h1 : ∀ u ∈ us, u.oneCell' = true)
    (h63 : n + 1 ≤ 4294967296) (hbase : base ≤ w.heap.size)
    (h : ∀ v' w', w'.ownsRow base e 13 v' (n + 1) (xs ++ us) → w.grownBy w' v.ownBlock → wpList Tryz.prog ops Q rest (a.put o.dst v') w') : wpList Tryz.prog ops Q (o :: rest) a w := by
  obtain ⟨i, hi, hz0, hz1, hz2⟩ := info_parts hinf
  have hb : (n + 1) * by8 ≤ 140737488355328 := Nat.le_trans (Nat.mul_le_mul h63 h16) (by decide)
  exact wpList_append_own w hgd s x t ho base e i z 13 by8 ht hi hz0 hz1 hz2 hz (by decide) v n xs hs hown ⟨b, 0, none⟩ 1 c us hx (by omega) (fun j u' hj => by
      have := hn j u' hj
      simpa [addr_add] using this) h1
    (by unfold maxLen; omega) hb hbase (fun v' w' a1 a2 _ => h v' w' a1 a2)
end
theorem info69 : (Tryz.prog.info? 69).map (fun i => (i.zero, i.size, i.bytes)) = some (some (.agg zero69), 13, 232) := by kernel_rfl
theorem und25 : Tryz.prog.underlying 25 = some (.slice 69) := by kernel_rfl
/-- What the checked extensions come to. -/
def GoodE (w0 : World) (base : Nat) (w' : World) (v : Value) (l : Nat) : Prop := ∃ D : Nat → ED, l ≤ MX ∧ w'.ownsRow base 69 13 v l (flatE D l) ∧ (∀ j, j < l → Ext w0 (D j)) ∧ (∀ j, j < l → Fit (D j)) ∧ ∀ j, j < l → Kept (D j).x0
def Px (w0 w : World) (e : Ending) (w' : World) : Prop := ∃ (q : Option Addr) (l c : Nat) (b : Bool), e = .returned (.tuple #[.slice q l c, .bool b]) ∧ (b = true → GoodE w0 w.heap.size w' (.slice q l c) l) ∧ Below w.heap.size w w'
theorem own_of_heap {w w' : World} {base base' e sz n : Nat} {v : Value} {xs : List Value} (h : w.ownsRow base e sz v n xs) (hb : base' ≤ base) (hs : ∀ g, base ≤ g → w.heap[g]? ≠ none → w'.heap[g]? = w.heap[g]?) : w'.ownsRow base' e sz v n xs := by
  obtain ⟨hl, h2⟩ := h
  refine ⟨hl, ?_⟩
  rcases h2 with h2 | ⟨g, cap, cur, hv, hg, hh, r⟩
  · exact .inl h2
  · exact .inr ⟨g, cap, cur, hv, Nat.le_trans hb hg, (hs g hg (by rw [hh]; simp)).trans hh, r⟩
theorem Px.no {w0 w w' : World} (h : Below w.heap.size w w') : Px w0 w (.returned (.tuple #[.slice none 0 0, .bool false])) w' := ⟨none, 0, 0, false, rfl, fun h => Bool.noConfusion h, h⟩
theorem kept_of {x : Int} (h : Known x) (h2 : x ≠ 41 ∧ x ≠ 42 ∧ x ≠ 45 ∧ x ≠ 47 ∧ x ≠ 48 ∧ x ≠ 49) : Kept x := by
  simp only [Known, List.mem_cons, List.not_mem_nil, or_false] at h
  unfold Kept
  omega
theorem px_cells (w : World) (E : ED) (j : Nat) (u : Value) (h : E.es.toList[j]? = some u) : (w.alloc (Obj.cells E.es 69)).cell? ⟨w.heap.size, j, none⟩ = some u :=
  (bcell (heap_alloc_new w _) j).trans (by simpa using h)
theorem px_one (E : ED) (u : Value) (h : u ∈ E.es.toList) : u.oneCell' = true := by
  have := Array.all_eq_true_iff_forall_mem.1 (ED.one E) u (by simpa using h)
  exact this
/-- So many are made. -/
structure PxSt (w0 w : World) (D : Nat → ED) (v : Value) (k : Nat) (D' : Nat → ED) (wr : World) : Prop where
  ho : wr.ownsRow w.heap.size 69 13 v k (flatE D' k)
  hb : Below w.heap.size w wr
  hx : ∀ j, j < k → Ext w0 (D' j)
  hf : ∀ j, j < k → Fit (D' j)
  hk : ∀ j, j < k → Kept (D' j).x0
end Go.Proofs.YtgnmgkpfgmpdfaaGreatDoor
end

/- laws.plainExts. -/
section
namespace Go.Proofs.YtgnmgkpfgmpdfaaGreatDoor
open Go.RowKit

theorem own_form {w : World} {base e sz n : Nat} {v : Value} {xs : List Value} (h : w.ownsRow base e sz v n xs) : ∃ p c, v = .slice p n c := by
  obtain ⟨_, h2⟩ := h
  rcases h2 with ⟨rfl, rfl⟩ | ⟨g, cap, cur, rfl, _⟩
  · exact ⟨_, _, rfl⟩
  · exact ⟨_, _, rfl⟩
theorem wpList_run {P : Program} {ops : Array Oper} {rest : List Oper} {o : Oper} {a : Act} {w w' : World} {v : Value} {Q : Exit → Act → World → Prop} (hgd : o.guard = none) (hrun : (execOp a.eval o).run P w = .ok (.value v) w') (h : wpList P ops Q rest (a.put o.dst v) w') : wpList P ops Q (o :: rest) a w := by
  unfold wpList
  rw [if_pos (by simp [Region.wanted, hgd])]
  refine .inl ?_
  unfold Oper.wp
  rw [hrun]
  exact h
set_option maxHeartbeats 8000000 in
set_option maxRecDepth 100000 in
theorem plainexts_any (p : Option Addr) (n cap : Nat) (D : Nat → ED) (w0 w : World) (hw : Below w0.heap.size w0 w) (ho : NilOk p n cap) (hn : n ≤ MX) (hs : SlE w0 p n D) (hf : ∀ j, j < n → Fit (D j)) : Calls Tryz.prog 10 #[.slice p n cap, .bool true] w (Px w0 w) := by
  have HM := Lib.hid hs
  have HW := Lib.hid hw
  have HFF := Lib.hid hf
  have gn : (n : Int) ≤ 2147483647 := by have h : n ≤ 2147483647 := hn; omega
  have gc : (n : Int) ≤ cap := by have h : n ≤ cap := ho.2.1; omega
  clear hs ho hf hn hw
  go_enter Tryz.func10, Tryz.ntmps10
  go_wp2_with fail
  go_loopw [6, 7, 17] (fun v y i wr => ∃ (k : Nat) (D' : Nat → ED) (Y : Int), k ≤ n ∧ i = .int .i64 (k : Int) ∧ y = .int .i64 Y ∧ PxSt w0 w D v k D' wr) (fun _ _ i _ => n - (intOf i).toNat)
  case atStart => exact ⟨0, fun _ => zED 0, 0, by omega, rfl, rfl, World.ownsRow_nil _ _ _ _, Below.refl _ _, fun j hj => absurd hj (by omega), fun j hj => absurd hj (by omega), fun j hj => absurd hj (by omega)⟩
  case round =>
    obtain ⟨k, D', Y, hk, rfl, rfl, hS⟩ := hrel
    by_cases hlt : k < n
    · obtain ⟨b, o, rfl, hm1, hxk⟩ := HM.out k hlt
      have g1 : (k : Int) < n := by omega
      have HLD := Lib.hid (load_ext wr b (o + k * 13) (D k) (fun i u hu => bcellv hS.hb (bcellv HW.out (hm1 i u hu))))
      have HXK := Lib.hid hxk
      have HS := Lib.hid hS
      clear hm1 hS hxk
      go_upto_region 6 with (first | (with_reducible refine wpList_ld rfl 69 (.tmp 20) rfl ⟨b, o + k * 13, none⟩ (.agg (D k).es) (by kernel_rfl) HLD.out ?_) | (with_reducible refine wpList_store_row (o := ⟨none, .store 69 (.tmp 9) (.tmp 21), _, _, _, _⟩) (by kernel_rfl) 69 (.tmp 9) (.tmp 21) (by kernel_rfl) wr.heap.size (D k).es (by kernel_rfl) (by kernel_rfl) 69 #[.int .u16 0, .string ⟨#[]⟩, .slice none 0 0, .slice none 0 0, .slice none 0 0, .bool false, .int .u32 0, .bool false, .slice none 0 0, .slice none 0 0, .slice none 0 0, .slice none 0 0, .slice none 0 0] (heap_alloc_new wr _) (by kernel_rfl) (by kernel_rfl) (ED.one _) ?_; change wpList _ _ _ _ _ ((wr.alloc (Obj.cells #[.int .u16 0, .string ⟨#[]⟩, .slice none 0 0, .slice none 0 0, .slice none 0 0, .bool false, .int .u32 0, .bool false, .slice none 0 0, .slice none 0 0, .slice none 0 0, .slice none 0 0, .slice none 0 0] 69)).setRow wr.heap.size _); rw [setRow_alloc]))
      have hb2 := (Below.refl wr.heap.size wr).alloc (Nat.le_refl _) (Obj.cells (D k).es 69)
      have hT := heap_alloc_new wr (Obj.cells (D k).es 69)
      generalize wr.alloc (Obj.cells (D k).es 69) = w2 at hb2 hT ⊢
      generalize wr.heap.size = T at hT ⊢
      have HB2 := Lib.hid hb2
      have HT := Lib.hid hT
      clear hb2 hT
      go_wp2_with (with_reducible refine wpList_load_row rfl 69 (.tmp 9) rfl T (by kernel_rfl) 69 (D k).es (0, 0) _ HT.out Tryz.underlying69 rfl (hi69 _) ?_)
      have hbw2 := HW.out.trans ((HS.out.hb.trans (HB2.out.mono HS.out.hb.size)).mono HW.out.size)
      refine (shaped_any (D k) w2 (HXK.out.below hbw2)).mono ?_
      rintro e w3 ⟨E, rfl, hE0, hEx, hEf, hb3⟩
      have HB3 := Lib.hid (HB2.out.trans (hb3.mono HB2.out.size))
      have HE0 := Lib.hid hE0
      have HEX := Lib.hid (hEx w0 HXK.out)
      have HEF := Lib.hid (hEf (HFF.out k hlt))
      clear hb3 hE0 hEx hEf hbw2 HT HB2
      dsimp only
      go_upto_region 7 with (with_reducible refine wpList_store_row (o := ⟨none, .store 69 (.tmp 10) (.tmp 23), _, _, _, _⟩) (by kernel_rfl) 69 (.tmp 10) (.tmp 23) (by kernel_rfl) w3.heap.size E.es (by kernel_rfl) (by kernel_rfl) 69 #[.int .u16 0, .string ⟨#[]⟩, .slice none 0 0, .slice none 0 0, .slice none 0 0, .bool false, .int .u32 0, .bool false, .slice none 0 0, .slice none 0 0, .slice none 0 0, .slice none 0 0, .slice none 0 0] (heap_alloc_new w3 _) (by kernel_rfl) (by kernel_rfl) (ED.one _) ?_; change wpList _ _ _ _ _ ((w3.alloc (Obj.cells #[.int .u16 0, .string ⟨#[]⟩, .slice none 0 0, .slice none 0 0, .slice none 0 0, .bool false, .int .u32 0, .bool false, .slice none 0 0, .slice none 0 0, .slice none 0 0, .slice none 0 0, .slice none 0 0] 69)).setRow w3.heap.size _); rw [setRow_alloc])
      have hb4 := HB3.out.trans (((Below.refl w3.heap.size w3).alloc (Nat.le_refl _) (Obj.cells E.es 69)).mono HB3.out.size)
      have hU := heap_alloc_new w3 (Obj.cells E.es 69)
      generalize w3.alloc (Obj.cells E.es 69) = w4 at hb4 hU ⊢
      generalize w3.heap.size = U at hU ⊢
      have HB4 := Lib.hid hb4
      have HU := Lib.hid hU
      clear hb4 hU HB3
      have hbw4 := HS.out.hb.trans (HB4.out.mono HS.out.hb.size)
      have HBW4 := Lib.hid hbw4
      clear hbw4
      go_wp2_with (with_reducible refine wpList_load_row rfl 69 (.tmp 10) rfl U (by kernel_rfl) 69 E.es (0, 0) _ HU.out Tryz.underlying69 rfl (hi69 _) ?_)
      refine (extwrite_any E w4 (HEX.out.below (HW.out.trans (HBW4.out.mono HW.out.size))) HEF.out).mono ?_
      rintro e w5 ⟨t, ok, rfl, _, hb5⟩
      have HU5 := Lib.hid (bblk hb5 HU.out)
      have HBW5 := Lib.hid (HBW4.out.trans (hb5.mono HBW4.out.size))
      have HB5 := Lib.hid (HB4.out.trans (hb5.mono HB4.out.size))
      clear hb5 HU HBW4 HB4
      dsimp only
      go_upto_region 9 with fail
      generalize wrap64 (Y + (t.size : Int)) = Y2
      go_wp2_with (with_reducible refine wpList_load_row rfl 69 (.tmp 10) rfl U (by kernel_rfl) 69 E.es (0, 0) _ HU5.out Tryz.underlying69 rfl (hi69 _) ?_)
      refine (plain_any E w5 (HEX.out.below (HW.out.trans (HBW5.out.mono HW.out.size))) HEF.out).mono ?_
      rintro e w6 ⟨r, rfl, hr, hb6⟩
      have u0 := (bcell (bblk hb6 HU5.out) 0).trans (ED.g0 E)
      have HU6 := Lib.hid (bblk hb6 HU5.out)
      have HBW6 := Lib.hid (HBW5.out.trans (hb6.mono HBW5.out.size))
      have HB6 := Lib.hid (HB5.out.trans (hb6.mono HB5.out.size))
      have HR := Lib.hid hr
      clear hb6 hr HU5 HBW5 HB5
      dsimp only
      cases r
      · go_wp2_with fail
        go_ret2
        exact Px.no HBW6.out
      cases ok
      · go_wp2_with fail
        go_ret2
        exact Px.no HBW6.out
      by_cases hY : Y2 > 60000
      · go_wp2_with fail
        go_ret2
        exact Px.no HBW6.out
      go_wp2_with fail
      refine (listed_any E.x0 w6).mono ?_
      rintro e w7 ⟨r2, rfl, hr2, hb7⟩
      have u0 := bcellv hb7 u0
      have HU7 := Lib.hid (bblk hb7 HU6.out)
      have HBW7 := Lib.hid (HBW6.out.trans (hb7.mono HBW6.out.size))
      have HB7 := Lib.hid (HB6.out.trans (hb7.mono HB6.out.size))
      have HR2 := Lib.hid hr2
      clear hb7 hr2 HU6 HBW6 HB6
      dsimp only
      cases r2
      · go_wp2_with fail
        go_ret2
        exact Px.no HBW7.out
      have hkept : Kept E.x0 := kept_of (HR.out (by trivial)) (HR2.out (by trivial))
      have HKE := Lib.hid hkept
      have hO7 := own_low HS.out.ho HB7.out
      have HO7 := Lib.hid hO7
      have HSX := Lib.hid (And.intro HS.out.hx (And.intro HS.out.hf HS.out.hk))
      clear hkept hO7 HR HR2 HS HB7 HLD
      go_wp2_with fail
      go_loopw [57] (fun i wq => ∃ j : Nat, j ≤ k ∧ i = .int .i64 (j : Int) ∧ Below w7.heap.size w7 wq) (fun i _ => k - (intOf i).toNat)
      case atStart => exact ⟨0, by omega, rfl, Below.refl _ _⟩
      case round =>
        obtain ⟨j, hj, rfl, hBq⟩ := hrel
        by_cases hjk : j < k
        · obtain ⟨b', o', e', hm1, hxj⟩ := HM.out j (by omega)
          simp only [Option.some.injEq, Addr.mk.injEq, and_true] at e'
          obtain ⟨rfl, rfl⟩ := e'
          have HLJ := Lib.hid (load_ext wr b (o + j * 13) (D j) (fun i u hu => bcellv hBq (bcellv HBW7.out (bcellv HW.out (hm1 i u hu)))))
          have gj : (j : Int) < k := by omega
          have hbq2 := (Below.refl wr.heap.size wr).alloc (Nat.le_refl _) (Obj.cells (D j).es 69)
          have q0 := bcellv hbq2 (bcellv hBq u0)
          have q1 := (bcell (heap_alloc_new wr (Obj.cells (D j).es 69)) 0).trans (ED.g0 (D j))
          have HBQ := Lib.hid (hBq.alloc hBq.size (Obj.cells (D j).es 69))
          clear hm1 hBq hbq2 hxj
          go_upto_if 65 with (first | (with_reducible refine wpList_ld rfl 69 (.tmp 59) rfl ⟨b, o + j * 13, none⟩ (.agg (D j).es) (by kernel_rfl) HLJ.out ?_) | (with_reducible refine wpList_store_row (o := ⟨none, .store 69 (.tmp 14) (.tmp 60), _, _, _, _⟩) (by kernel_rfl) 69 (.tmp 14) (.tmp 60) (by kernel_rfl) wr.heap.size (D j).es (by kernel_rfl) (by kernel_rfl) 69 #[.int .u16 0, .string ⟨#[]⟩, .slice none 0 0, .slice none 0 0, .slice none 0 0, .bool false, .int .u32 0, .bool false, .slice none 0 0, .slice none 0 0, .slice none 0 0, .slice none 0 0, .slice none 0 0] (heap_alloc_new wr _) (by kernel_rfl) (by kernel_rfl) (ED.one _) ?_; change wpList _ _ _ _ _ ((wr.alloc (Obj.cells #[.int .u16 0, .string ⟨#[]⟩, .slice none 0 0, .slice none 0 0, .slice none 0 0, .bool false, .int .u32 0, .bool false, .slice none 0 0, .slice none 0 0, .slice none 0 0, .slice none 0 0, .slice none 0 0] 69)).setRow wr.heap.size _); rw [setRow_alloc]))
          have hbz := HBQ.out
          clear HBQ
          generalize wr.alloc (Obj.cells (D j).es 69) = wz at hbz q0 q1 ⊢
          have HBQ := Lib.hid hbz
          clear hbz q0 q1
          by_cases hq : (D j).x0 = E.x0
          · go_wp2_with fail
            go_ret2
            exact Px.no (HBW7.out.trans (HBQ.out.mono HBW7.out.size))
          · go_wp2_with fail
            go_roundw
            case rel => exact ⟨j + 1, by omega, by go_num, HBQ.out⟩
            case measure => simp [intOf]; omega
        · obtain rfl : j = k := by omega
          have HUQ := Lib.hid (bblk hBq HU7.out)
          have HOQ := Lib.hid (own_low HO7.out hBq)
          have HBQ := Lib.hid (HBW7.out.trans (hBq.mono HBW7.out.size))
          clear hBq
          go_upto_region 17 with fail
          refine wp_region_list ?_
          refine wpList_run (o := ⟨some 67, .move (.tmp 6), _, _, _, none⟩) (v := u6) (w' := wr) rfl (by kernel_rfl) ?_
          refine wpList_ld (o := ⟨some 68, .load 69 (.tmp 10), _, _, _, none⟩) rfl 69 (.tmp 10) rfl ⟨U, 0, none⟩ (.agg E.es) (by kernel_rfl) (loadRow wr HUQ.out Tryz.underlying69 rfl (hi69 E)) ?_
          refine wpList_run (o := ⟨some 69, .buildSlice 25 1 #[(0, .tmp 68)], _, _, _, none⟩) (v := .slice (some ⟨wr.heap.size, 0, none⟩) 1 1) (w' := wr.alloc (Obj.cells E.es 69)) rfl (by kernel_rfl) ?_
          refine app_es (o := ⟨some 70, .call { callee := .builtin .append, args := #[.tmp 67, .tmp 69], argTypes := #[25, 25] }, _, _, _, none⟩) rfl (.tmp 67) (.tmp 69) 25 69 (.agg zero69) 232 rfl und25 info69 rfl (by decide) w.heap.size u6 j (flatE D' j) (by kernel_rfl) (HOQ.out.alloc _) wr.heap.size 1 E.es.toList (by rfl) (by kernel_rfl) (px_cells wr E) (px_one E) (by omega) (by rw [World.size_alloc]; have := HBQ.out.size; omega) ?_
          intro v' w9 hv hgr
          have hbn : Below w.heap.size w w9 := (HBQ.out.alloc HBQ.out.size _).grown hgr (by rw [World.size_alloc]; have := HBQ.out.size; omega) (fun k' hk' => (HOQ.out.lt k' hk').1)
          have hst : PxSt w0 w D v' (j + 1) (fun i => if i < j then D' i else E) w9 := by
            refine ⟨?_, hbn, fun i hi => ?_, fun i hi => ?_, fun i hi => ?_⟩
            · rw [flatE_succ, flatE_congr (D' := D') (fun i hi => by simp [hi])]
              simpa using hv
            · by_cases h : i < j
              · simp only [h, if_true]
                exact HSX.out.1 i h
              · simp only [h, if_false]
                exact HEX.out
            · by_cases h : i < j
              · simp only [h, if_true]
                exact HSX.out.2.1 i h
              · simp only [h, if_false]
                exact HEF.out
            · by_cases h : i < j
              · simp only [h, if_true]
                exact HSX.out.2.2 i h
              · simp only [h, if_false]
                exact HKE.out
          have HST := Lib.hid hst
          clear hst hbn hv hgr
          refine wpList_run (o := ⟨some 6, .assign (.tmp 70), _, _, _, none⟩) (v := v') (w' := w9) rfl (by kernel_rfl) ?_
          refine wpList_nil ?_
          simp only [Act.put, List.setIfInBounds_toArray, List.set_cons_zero, List.set_cons_succ]
          go_wp2_with fail
          go_roundw
          case rel => exact ⟨j + 1, _, Y2, by omega, by go_num, rfl, HST.out⟩
          case measure => simp [intOf]; omega
    · obtain rfl : k = n := by omega
      obtain ⟨q, c, rfl⟩ := own_form hS.ho
      have HS := Lib.hid hS
      clear hS
      by_cases h0 : (k : Int) > 0
      · by_cases h1 : (k : Int) < 100
        · go_wp2_with fail
          go_ret2
          exact ⟨q, k, c, _, rfl, fun _ => ⟨D', by show k ≤ 2147483647; omega, HS.out.ho, HS.out.hx, HS.out.hf, HS.out.hk⟩, HS.out.hb⟩
        · go_wp2_with fail
          go_ret2
          exact ⟨q, k, c, _, rfl, fun _ => ⟨D', by show k ≤ 2147483647; omega, HS.out.ho, HS.out.hx, HS.out.hf, HS.out.hk⟩, HS.out.hb⟩
      · go_wp2_with fail
        go_ret2
        exact ⟨q, k, c, _, rfl, fun _ => ⟨D', by show k ≤ 2147483647; omega, HS.out.ho, HS.out.hx, HS.out.hf, HS.out.hk⟩, HS.out.hb⟩
end Go.Proofs.YtgnmgkpfgmpdfaaGreatDoor
end
