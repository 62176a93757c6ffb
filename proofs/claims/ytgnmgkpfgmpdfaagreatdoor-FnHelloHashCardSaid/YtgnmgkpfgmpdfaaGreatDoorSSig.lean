/- makeSupportedVersions. -/
import Derived.Test.YtgnmgkpfgmpdfaaGreatDoorSSrtp
import Derived.Deep.MidRow
set_option linter.unusedVariables false
set_option linter.unusedSimpArgs false
section
namespace Go.Proofs.YtgnmgkpfgmpdfaaGreatDoor
open Go.RowKit

section
variable {ops : Array Oper} {rest : List Oper} {o : Oper} {a : Act} {w : World} {Q : Exit → Act → World → Prop}
/-- One more element, of two cells, behind a row of one's own. -/
theorem app_two (hgd : o.guard = none) (s x : Operand) (t e : TypeId) (z : Value) (by8 : Nat) (ho : o.op = .call { callee := .builtin .append, args := #[s, x], argTypes := #[t, t] })
    (ht : Tryz.prog.underlying t = some (.slice e)) (hinf : (Tryz.prog.info? e).map (fun i => (i.zero, i.size, i.bytes)) = some (some z, 2, by8)) (hz : z.cells.size = 2) (h16 : by8 ≤ 64)
    (base : Nat) (v : Value) (n : Nat) (xs : List Value) (hs : a.eval s = v) (hown : w.ownsRow base e 2 v n xs)
    (b : Nat) (c : Nat) (u1 u2 : Value) (hx : a.eval x = .slice (some ⟨b, 0, none⟩) 1 c) (hn1 : w.cell? ⟨b, 0, none⟩ = some u1) (hn2 : w.cell? ⟨b, 1, none⟩ = some u2) (h1 : u1.oneCell' = true) (h2 : u2.oneCell' = true)
    (h63 : n + 1 ≤ 4294967296) (hbase : base ≤ w.heap.size)
    (h : ∀ v' w', w'.ownsRow base e 2 v' (n + 1) (xs ++ [u1, u2]) → w.grownBy w' v.ownBlock → wpList Tryz.prog ops Q rest (a.put o.dst v') w') : wpList Tryz.prog ops Q (o :: rest) a w := by
  obtain ⟨i, hi, hz0, hz1, hz2⟩ := info_parts hinf
  have hb : (n + 1) * by8 ≤ 140737488355328 := Nat.le_trans (Nat.mul_le_mul h63 h16) (by decide)
  exact wpList_append_own w hgd s x t ho base e i z 2 by8 ht hi hz0 hz1 hz2 hz (by decide) v n xs hs hown ⟨b, 0, none⟩ 1 c [u1, u2] hx rfl (fun j u' hj => by
      match j, hj with
      | 0, hj => simp at hj; subst hj; simpa [addr_add] using hn1
      | 1, hj => simp at hj; subst hj; simpa [addr_add] using hn2
      | j + 2, hj => simp at hj) (fun u' hu' => by
      simp only [List.mem_cons, List.not_mem_nil, or_false] at hu'
      rcases hu' with rfl | rfl
      · exact h1
      · exact h2)
    (by unfold maxLen; omega) hb hbase (fun v' w' a1 a2 _ => h v' w' a1 a2)
end
theorem info81 : (Tryz.prog.info? 81).map (fun i => (i.zero, i.size, i.bytes)) = some (some (.agg #[.int .u8 0, .int .u8 0]), 2, 2) := by kernel_rfl
theorem u262 : Tryz.prog.underlying 262 = some (.slice 81) := by kernel_rfl
theorem row_ne2 {w : World} {base e X n t sz : Nat} {v : Value} {xs : List Value} {cs : Array Value} {fr : Nat × Nat} (h : w.ownsRow base e sz v n xs) (hX : w.heap[X]? = some (.cells cs t fr)) (ht : t ≠ e) : some X ≠ v.ownBlock := by
  intro eq
  rcases h.2 with ⟨rfl, _⟩ | ⟨g, cap, cur, rfl, _, hh, _⟩
  · simp [Value.ownBlock] at eq
  · simp [Value.ownBlock] at eq
    subst eq
    rw [hh] at hX
    simp at hX
    exact ht hX.2.1.symm
theorem pf_step3 {w0 w w3 : World} {o : Obj} {n sz : Nat} {v v' : Value} {cs : Array Value} {xs ys : List Value} {e t X m : Nat} (ht : t ≠ e) (hown : w.ownsRow w0.heap.size e sz v n xs) (hX : w.heap[X]? = some (.cells cs t (0, 0))) (hB : Below w0.heap.size w0 w)
    (hv : w3.ownsRow w0.heap.size e sz v' m ys) (hgr : (w.alloc o).grownBy w3 v.ownBlock) : w3.heap[X]? = some (.cells cs t (0, 0)) ∧ some X ≠ v'.ownBlock ∧ Below w0.heap.size w0 w3 := by
  have h1 : w3.heap[X]? = some (.cells cs t (0, 0)) := by
    rw [← hX, ← heap_alloc_old w o (blt hX)]
    exact hgr.block X (by rw [World.size_alloc]; have := blt hX; omega) (row_ne2 hown hX ht)
  exact ⟨h1, row_ne2 hv h1 ht, (hB.alloc hB.size _).grown hgr (by rw [World.size_alloc]; have := hB.size; omega) (fun k hk => (hown.lt k hk).1)⟩
def PfRel3 (e t X : Nat) (n : Nat) (w : World) (i : Value) (wr : World) : Prop :=
  ∃ (k : Nat) (v : Value) (xs : List Value), k ≤ n ∧ i = .int .i64 (k : Int) ∧ wr.heap[X]? = some (.cells #[v] t (0, 0)) ∧ wr.ownsRow w.heap.size e 2 v k xs ∧ Below w.heap.size w wr
set_option maxHeartbeats 2000000 in
set_option maxRecDepth 100000 in
theorem mk110 (es : Array Value) (p : Option Addr) (n cap : Nat) (su : Nat → Int) (w : World) (h : es[3]? = some (.slice p n cap)) (hs : SlOf w p n fun j => .int .u16 (su j)) : MkOk 110 es w := by
  have H := Lib.hid h
  have HM := Lib.hid hs
  have gm : (n : Int) ≤ 2147483647 := by have := hs.1; omega
  unfold MkOk
  clear h hs
  go_enter Tryz.func110, Tryz.ntmps110
  go_upto_region 2 with fail
  change Code.wp _ _ _ _ ((w.alloc (Obj.cells es 69)).alloc (Obj.cells #[.slice none 0 0] 264))
  have hB1 : Below w.heap.size w ((w.alloc (Obj.cells es 69)).alloc (Obj.cells #[.slice none 0 0] 264)) := ((Below.refl _ _).alloc (Nat.le_refl _) _).alloc (by simp) _
  have hX1 : ((w.alloc (Obj.cells es 69)).alloc (Obj.cells #[.slice none 0 0] 264)).heap[w.heap.size + 1]? = some (.cells #[.slice none 0 0] 264 (0, 0)) := by
    have h := heap_alloc_new (w.alloc (Obj.cells es 69)) (Obj.cells #[.slice none 0 0] 264)
    rwa [World.size_alloc] at h
  have hM1 : ((w.alloc (Obj.cells es 69)).alloc (Obj.cells #[.slice none 0 0] 264)).heap[w.heap.size]? = some (.cells es 69 (0, 0)) := by
    rw [heap_alloc_old _ _ (by simp)]
    exact heap_alloc_new _ _
  generalize (w.alloc (Obj.cells es 69)).alloc (Obj.cells #[.slice none 0 0] 264) = w1 at hB1 hM1 hX1 ⊢
  have k1 := (bcell hM1 3).trans H.out
  have HB1 := Lib.hid hB1
  have HX1 := Lib.hid hX1
  clear hB1 hM1 hX1
  go_wp2_with fail
  go_loopw [11] (fun i wr => PfRel3 81 264 (w.heap.size + 1) n w i wr) (fun i _ => n - (intOf i).toNat)
  case atStart => exact ⟨0, _, [], by omega, rfl, HX1.out, World.ownsRow_nil _ _ _ _, HB1.out⟩
  case round =>
    obtain ⟨k, v, xs, hk, rfl, hX, hown, hB⟩ := hrel
    by_cases hlt : k < n
    · obtain ⟨b, o, rfl, hm1⟩ := HM.out.2 k hlt
      have c1 := (hB.cell (p := ⟨b, o + k, none⟩) (World.block_lt_of_cell? w _ hm1)).trans hm1
      obtain ⟨q, l, c, rfl⟩ := own_slice hown
      have c2 : wr.cell? ⟨w.heap.size + 1, 0, none⟩ = some (.slice q l c) := (bcell hX 0).trans rfl
      clear hm1
      have g1 : (k : Int) < n := by omega
      have HOWN := Lib.hid hown
      have HB := Lib.hid hB
      have HX := Lib.hid hX
      clear hown hB hX
      go_upto_region 5 with fail
      go_wp2_with (refine app_two rfl (.tmp 19) (.tmp 26) 262 81 (.agg #[.int .u8 0, .int .u8 0]) 2 rfl u262 info81 rfl (by decide) w.heap.size (.slice q l c) k xs (by kernel_rfl) (HOWN.out.alloc _) wr.heap.size 1 _ _ (by kernel_rfl) ((bcell (heap_alloc_new wr _) 0).trans rfl) ((bcell (heap_alloc_new wr _) 1).trans rfl) rfl rfl (by omega) (by rw [World.size_alloc]; have := HB.out.size; omega) ?_; intro v' w3 hv hgr; obtain ⟨q', l', c', rfl⟩ := own_slice hv; obtain ⟨hX3, hne3, hb3⟩ := pf_step3 (by decide) HOWN.out HX.out HB.out hv hgr; have c3 : w3.cell? ⟨w.heap.size + 1, 0, none⟩ = some (.slice q l c) := (bcell hX3 0).trans rfl; have f3 := bfrozen hX3 0; have HX3 := Lib.hid hX3; have HNE := Lib.hid hne3; have HB3 := Lib.hid hb3; have HV := Lib.hid hv; clear hX3 hne3 hb3 hv hgr)
      exact ⟨⟨k + 1, _, _, by omega, by simp, bset HX3.out 0 _, HV.out.kept (Lib.grownBy_setCell w3 (w.heap.size + 1) 0 _) (Or.inr (Ne.symm HNE.out)), HB3.out.setCell (p := ⟨w.heap.size + 1, 0, none⟩) (by simp) _⟩, by simp [intOf]; omega⟩
    · obtain rfl : k = n := by omega
      have HB := Lib.hid hB
      clear hown hB hX
      go_wp2_with fail
      go_ret
      exact ⟨_, rfl, HB.out⟩
end Go.Proofs.YtgnmgkpfgmpdfaaGreatDoor
end

/- impl.pairs. -/
section
namespace Go.Proofs.YtgnmgkpfgmpdfaaGreatDoor
open Go.RowKit

/-- A slice of two-cell elements, wherever it lies. -/
def SlOf2 (w : World) (p : Option Addr) (n : Nat) (f g : Nat → Value) : Prop := n ≤ 2147483647 ∧ ∀ j, j < n → ∃ b o, p = some ⟨b, o, none⟩ ∧ w.cell? ⟨b, o + j * 2, none⟩ = some (f j) ∧ w.cell? ⟨b, o + j * 2 + 1, none⟩ = some (g j)
theorem SlOf2.below {w w' : World} {p : Option Addr} {n : Nat} {f g : Nat → Value} (h : SlOf2 w p n f g) (hb : Below w.heap.size w w') : SlOf2 w' p n f g :=
  ⟨h.1, fun j hj => by obtain ⟨b, o, e, hc, hd⟩ := h.2 j hj; exact ⟨b, o, e, bcellv hb hc, bcellv hb hd⟩⟩
theorem info194 : (Tryz.prog.info? 194).map (fun i => (i.zero, i.size, i.bytes)) = some (some (.agg #[.int .u16 0, .int .u16 0]), 2, 4) := by kernel_rfl
theorem u145 : Tryz.prog.underlying 145 = some (.slice 194) := by kernel_rfl
def OwnRel2 (e : TypeId) (n : Nat) (w : World) (v i : Value) (wr : World) : Prop :=
  ∃ (k : Nat) (xs : List Value), k ≤ n ∧ i = .int .i64 (k : Int) ∧ wr.ownsRow w.heap.size e 2 v k xs ∧ Below w.heap.size w wr
set_option maxHeartbeats 2000000 in
set_option maxRecDepth 100000 in
theorem pairs_any (p : Option Addr) (n cap : Nat) (sa sb : Nat → Int) (w : World) (hs : SlOf2 w p n (fun j => .int .u16 (sa j)) (fun j => .int .u16 (sb j))) :
    Calls Tryz.prog 74 #[.slice p n cap] w fun e w' => ∃ v xs, e = .returned v ∧ w'.ownsRow w.heap.size 194 2 v n xs ∧ Below w.heap.size w w' := by
  have HM := Lib.hid hs
  have gm : (n : Int) ≤ 2147483647 := by have := hs.1; omega
  clear hs
  go_enter Tryz.func74, Tryz.ntmps74
  go_wp2_with fail
  go_loopw [3, 8] (fun v i wr => OwnRel2 194 n w v i wr) (fun _ i _ => n - (intOf i).toNat)
  case atStart => exact ⟨0, [], by omega, rfl, World.ownsRow_nil _ _ _ _, Below.refl _ _⟩
  case round =>
    obtain ⟨k, xs, hk, rfl, hown, hB⟩ := hrel
    by_cases hlt : k < n
    · obtain ⟨b, o, rfl, hm1, hm2⟩ := HM.out.2 k hlt
      have c1 := bcellv hB hm1
      have c2 := bcellv hB hm2
      clear hm1 hm2
      have g1 : (k : Int) < n := by omega
      have hld : (Instr.loadAt 51 (.pointer (some ⟨b, o + k * 2, none⟩))).run Tryz.prog wr = .ok (.agg #[.int .u16 (sa k), .int .u16 (sb k)]) wr :=
        run_loadAt_mid wr b (o + k * 2) 51 [.int .u16 (sa k), .int .u16 (sb k)] _ (fun j u hj => by
          match j, hj with
          | 0, hj => simp at hj; subst hj; exact c1
          | 1, hj => simp at hj; subst hj; exact c2
          | j + 2, hj => simp at hj) Tryz.underlying51 rfl (by kernel_rfl)
      have HOWN := Lib.hid hown
      have HB := Lib.hid hB
      clear hown hB
      go_wp2_with (first | (refine wpList_store_row (o := ⟨none, .store 51 (.tmp 5) (.tmp 11), _, _, _, _⟩) rfl 51 (.tmp 5) (.tmp 11) rfl wr.heap.size #[.int .u16 (sa k), .int .u16 (sb k)] (by kernel_rfl) (by kernel_rfl) 51 #[.int .u16 0, .int .u16 0] (heap_alloc_new wr _) (by kernel_rfl) rfl (by kernel_rfl) ?_; change wpList _ _ _ _ _ ((wr.alloc (Obj.cells #[.int .u16 0, .int .u16 0] 51)).setRow wr.heap.size _); rw [setRow_alloc]) | (refine app_two rfl (.tmp 12) (.tmp 18) 145 194 (.agg #[.int .u16 0, .int .u16 0]) 4 rfl u145 info194 rfl (by decide) w.heap.size u3 k xs (by kernel_rfl) ((HOWN.out.alloc _).alloc _) (wr.alloc (Obj.cells #[.int .u16 (sa k), .int .u16 (sb k)] 51)).heap.size 1 (.int .u16 (sa k)) (.int .u16 (sb k)) (by rw [World.size_alloc]; kernel_rfl) ((bcell (heap_alloc_new _ _) 0).trans rfl) ((bcell (heap_alloc_new _ _) 1).trans rfl) rfl rfl (by omega) (by rw [World.size_alloc, World.size_alloc]; have := HB.out.size; omega) ?_; intro v' w3 hv hgr))
      have hb2 : Below w.heap.size w ((wr.alloc (Obj.cells #[Value.int .u16 (sa k), .int .u16 (sb k)] 51)).alloc (Obj.cells #[Value.int .u16 (sa k), .int .u16 (sb k)] 194)) := (HB.out.alloc HB.out.size _).alloc (by rw [World.size_alloc]; have := HB.out.size; omega) _
      exact ⟨⟨k + 1, _, by omega, by simp, hv, hb2.grown hgr hb2.size (fun k' hk' => (HOWN.out.lt k' hk').1)⟩, by simp [intOf]; omega⟩
    · obtain rfl : k = n := by omega
      have HOWN := Lib.hid hown
      have HB := Lib.hid hB
      clear hown hB
      go_wp2_with fail
      go_ret
      exact ⟨u3, xs, rfl, HOWN.out, HB.out⟩
end Go.Proofs.YtgnmgkpfgmpdfaaGreatDoor
end

/- makeSignatureAlgorithms, makeSignatureAlgorithmsCert. -/
section
namespace Go.Proofs.YtgnmgkpfgmpdfaaGreatDoor
open Go.RowKit

set_option maxHeartbeats 1000000 in
set_option maxRecDepth 100000 in
theorem mk103 (es : Array Value) (p : Option Addr) (n cap : Nat) (sa sb : Nat → Int) (w : World) (h : es[4]? = some (.slice p n cap)) (hs : SlOf2 w p n (fun j => .int .u16 (sa j)) (fun j => .int .u16 (sb j))) : MkOk 103 es w := by
  have H := Lib.hid h
  have HS := Lib.hid hs
  unfold MkOk
  clear h hs
  go_enter Tryz.func103, Tryz.ntmps103
  go_upto_region 1 with fail
  change Code.wp _ _ _ _ (w.alloc (Obj.cells es 69))
  have hB1 : Below w.heap.size w (w.alloc (Obj.cells es 69)) := (Below.refl _ _).alloc (Nat.le_refl _) _
  have hM1 := heap_alloc_new w (Obj.cells es 69)
  generalize w.alloc (Obj.cells es 69) = w1 at hB1 hM1 ⊢
  have k1 := (bcell hM1 4).trans H.out
  have HB1 := Lib.hid hB1
  clear hB1 hM1
  go_wp2_with fail
  refine (pairs_any p n cap sa sb w1 (HS.out.below HB1.out)).mono ?_
  rintro e w2 ⟨v, xs, rfl, ho, hb2⟩
  have HB2 := Lib.hid (HB1.out.trans (hb2.mono HB1.out.size))
  obtain ⟨q, l, c, rfl⟩ := own_slice ho
  clear ho hb2
  dsimp only
  go_wp2_with fail
  go_ret
  exact ⟨_, rfl, HB2.out.alloc HB2.out.size _⟩
set_option maxHeartbeats 1000000 in
set_option maxRecDepth 100000 in
theorem mk104 (es : Array Value) (p : Option Addr) (n cap : Nat) (sa sb : Nat → Int) (w : World) (h : es[4]? = some (.slice p n cap)) (hs : SlOf2 w p n (fun j => .int .u16 (sa j)) (fun j => .int .u16 (sb j))) : MkOk 104 es w := by
  have H := Lib.hid h
  have HS := Lib.hid hs
  unfold MkOk
  clear h hs
  go_enter Tryz.func104, Tryz.ntmps104
  go_upto_region 1 with fail
  change Code.wp _ _ _ _ (w.alloc (Obj.cells es 69))
  have hB1 : Below w.heap.size w (w.alloc (Obj.cells es 69)) := (Below.refl _ _).alloc (Nat.le_refl _) _
  have hM1 := heap_alloc_new w (Obj.cells es 69)
  generalize w.alloc (Obj.cells es 69) = w1 at hB1 hM1 ⊢
  have k1 := (bcell hM1 4).trans H.out
  have HB1 := Lib.hid hB1
  clear hB1 hM1
  go_wp2_with fail
  refine (pairs_any p n cap sa sb w1 (HS.out.below HB1.out)).mono ?_
  rintro e w2 ⟨v, xs, rfl, ho, hb2⟩
  have HB2 := Lib.hid (HB1.out.trans (hb2.mono HB1.out.size))
  obtain ⟨q, l, c, rfl⟩ := own_slice ho
  clear ho hb2
  dsimp only
  go_wp2_with fail
  go_ret
  exact ⟨_, rfl, HB2.out.alloc HB2.out.size _⟩
end Go.Proofs.YtgnmgkpfgmpdfaaGreatDoor
end
