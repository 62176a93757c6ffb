/- makePointFormats. -/
import Derived.Test.YtgnmgkpfgmpdfaaGreatDoorSGrp
set_option linter.unusedVariables false
set_option linter.unusedSimpArgs false
section
namespace Go.Proofs.YtgnmgkpfgmpdfaaGreatDoor
open Go.RowKit

theorem info246 : (Tryz.prog.info? 246).map (fun i => (i.zero, i.size, i.bytes)) = some (some (.int .u8 0), 1, 1) := by kernel_rfl
theorem u243 : Tryz.prog.underlying 243 = some (.slice 246) := by kernel_rfl
theorem row_ne {w : World} {base e X n t : Nat} {v : Value} {xs : List Value} {cs : Array Value} {fr : Nat × Nat} (h : w.ownsRow base e 1 v n xs) (hX : w.heap[X]? = some (.cells cs t fr)) (ht : t ≠ e) : some X ≠ v.ownBlock := by
  intro eq
  rcases h.2 with ⟨rfl, _⟩ | ⟨g, cap, cur, rfl, _, hh, _⟩
  · simp [Value.ownBlock] at eq
  · simp [Value.ownBlock] at eq
    subst eq
    rw [hh] at hX
    simp at hX
    exact ht hX.2.1.symm
theorem pf_step {w0 w w3 : World} {o : Obj} {n : Nat} {v v' u : Value} {xs ys : List Value} {e t X m : Nat} (ht : t ≠ e) (hown : w.ownsRow w0.heap.size e 1 v n xs) (hX : w.heap[X]? = some (.cells #[u] t (0, 0))) (hB : Below w0.heap.size w0 w)
    (hv : w3.ownsRow w0.heap.size e 1 v' m ys) (hgr : (w.alloc o).grownBy w3 v.ownBlock) : w3.heap[X]? = some (.cells #[u] t (0, 0)) ∧ some X ≠ v'.ownBlock ∧ Below w0.heap.size w0 w3 := by
  have h1 : w3.heap[X]? = some (.cells #[u] t (0, 0)) := by
    rw [← hX, ← heap_alloc_old w o (blt hX)]
    exact hgr.block X (by rw [World.size_alloc]; have := blt hX; omega) (row_ne hown hX ht)
  exact ⟨h1, row_ne hv h1 ht, (hB.alloc hB.size _).grown hgr (by rw [World.size_alloc]; have := hB.size; omega) (fun k hk => (hown.lt k hk).1)⟩
def PfRel (e t X : Nat) (n : Nat) (w : World) (i : Value) (wr : World) : Prop :=
  ∃ (k : Nat) (v : Value) (xs : List Value), k ≤ n ∧ i = .int .i64 (k : Int) ∧ wr.heap[X]? = some (.cells #[v] t (0, 0)) ∧ wr.ownsRow w.heap.size e 1 v k xs ∧ Below w.heap.size w wr
set_option maxHeartbeats 2000000 in
set_option maxRecDepth 100000 in
theorem mk102 (es : Array Value) (p : Option Addr) (n cap : Nat) (su : Nat → Int) (w : World) (h : es[3]? = some (.slice p n cap)) (hs : SlOf w p n fun j => .int .u16 (su j)) : MkOk 102 es w := by
  have H := Lib.hid h
  have HM := Lib.hid hs
  have gm : (n : Int) ≤ 2147483647 := by have := hs.1; omega
  unfold MkOk
  clear h hs
  go_enter Tryz.func102, Tryz.ntmps102
  go_upto_region 2 with fail
  change Code.wp _ _ _ _ ((w.alloc (Obj.cells es 69)).alloc (Obj.cells #[.slice none 0 0] 245))
  have hB1 : Below w.heap.size w ((w.alloc (Obj.cells es 69)).alloc (Obj.cells #[.slice none 0 0] 245)) := ((Below.refl _ _).alloc (Nat.le_refl _) _).alloc (by simp) _
  have hX1 : ((w.alloc (Obj.cells es 69)).alloc (Obj.cells #[.slice none 0 0] 245)).heap[w.heap.size + 1]? = some (.cells #[.slice none 0 0] 245 (0, 0)) := by
    have h := heap_alloc_new (w.alloc (Obj.cells es 69)) (Obj.cells #[.slice none 0 0] 245)
    rwa [World.size_alloc] at h
  have hM1 : ((w.alloc (Obj.cells es 69)).alloc (Obj.cells #[.slice none 0 0] 245)).heap[w.heap.size]? = some (.cells es 69 (0, 0)) := by
    rw [heap_alloc_old _ _ (by simp)]
    exact heap_alloc_new _ _
  generalize (w.alloc (Obj.cells es 69)).alloc (Obj.cells #[.slice none 0 0] 245) = w1 at hB1 hM1 hX1 ⊢
  have k1 := (bcell hM1 3).trans H.out
  have HB1 := Lib.hid hB1
  have HX1 := Lib.hid hX1
  clear hB1 hM1 hX1
  go_wp2_with fail
  go_loopw [11] (fun i wr => PfRel 246 245 (w.heap.size + 1) n w i wr) (fun i _ => n - (intOf i).toNat)
  case atStart => exact ⟨0, _, [], by omega, rfl, HX1.out, World.ownsRow_nil _ _ _ _, HB1.out⟩
  case round =>
    obtain ⟨k, v, xs, hk, rfl, hX, hown, hB⟩ := hrel
    by_cases hlt : k < n
    · obtain ⟨b, o, rfl, hm1⟩ := HM.out.2 k hlt
      have c1 := (hB.cell (p := ⟨b, o + k, none⟩) (World.block_lt_of_cell? w _ hm1)).trans hm1
      obtain ⟨q, l, c, rfl⟩ := own_slice hown
      have c2 : wr.cell? ⟨w.heap.size + 1, 0, none⟩ = some (.slice q l c) := (bcell hX 0).trans rfl
      clear hm1
      have g1 : (k : Int) < n := by omega
      have HOWN := Lib.hid hown
      have HB := Lib.hid hB
      have HX := Lib.hid hX
      clear hown hB hX
      go_upto_region 5 with fail
      go_wp2_with (refine app_one rfl (.tmp 19) (.tmp 22) 243 246 (.int .u8 0) 1 rfl u243 info246 rfl (by decide) w.heap.size (.slice q l c) k xs (by kernel_rfl) (HOWN.out.alloc _) wr.heap.size 1 _ (by kernel_rfl) ((bcell (heap_alloc_new wr _) 0).trans rfl) rfl (by omega) (by rw [World.size_alloc]; have := HB.out.size; omega) ?_; intro v' w3 hv hgr; obtain ⟨q', l', c', rfl⟩ := own_slice hv; obtain ⟨hX3, hne3, hb3⟩ := pf_step (by decide) HOWN.out HX.out HB.out hv hgr; have c3 : w3.cell? ⟨w.heap.size + 1, 0, none⟩ = some (.slice q l c) := (bcell hX3 0).trans rfl; have f3 := bfrozen hX3 0; have HX3 := Lib.hid hX3; have HNE := Lib.hid hne3; have HB3 := Lib.hid hb3; have HV := Lib.hid hv; clear hX3 hne3 hb3 hv hgr)
      exact ⟨⟨k + 1, _, _, by omega, by simp, bset HX3.out 0 _, HV.out.kept (Lib.grownBy_setCell w3 (w.heap.size + 1) 0 _) (Or.inr (Ne.symm HNE.out)), HB3.out.setCell (p := ⟨w.heap.size + 1, 0, none⟩) (by simp) _⟩, by simp [intOf]; omega⟩
    · obtain rfl : k = n := by omega
      have HB := Lib.hid hB
      clear hown hB hX
      go_wp2_with fail
      go_ret
      exact ⟨_, rfl, HB.out⟩
end Go.Proofs.YtgnmgkpfgmpdfaaGreatDoor
end

/- makeSRTP. -/
section
namespace Go.Proofs.YtgnmgkpfgmpdfaaGreatDoor
open Go.RowKit

theorem infoE : (Tryz.prog.info? 253).map (fun i => (i.zero, i.size, i.bytes)) = some (some (.int .u16 0), 1, 2) := by kernel_rfl
theorem u250 : Tryz.prog.underlying 250 = some (.slice 253) := by kernel_rfl
theorem pf_step2 {w0 w w3 : World} {o : Obj} {n : Nat} {v v' : Value} {cs : Array Value} {xs ys : List Value} {e t X m : Nat} (ht : t ≠ e) (hown : w.ownsRow w0.heap.size e 1 v n xs) (hX : w.heap[X]? = some (.cells cs t (0, 0))) (hB : Below w0.heap.size w0 w)
    (hv : w3.ownsRow w0.heap.size e 1 v' m ys) (hgr : (w.alloc o).grownBy w3 v.ownBlock) : w3.heap[X]? = some (.cells cs t (0, 0)) ∧ some X ≠ v'.ownBlock ∧ Below w0.heap.size w0 w3 := by
  have h1 : w3.heap[X]? = some (.cells cs t (0, 0)) := by
    rw [← hX, ← heap_alloc_old w o (blt hX)]
    exact hgr.block X (by rw [World.size_alloc]; have := blt hX; omega) (row_ne hown hX ht)
  exact ⟨h1, row_ne hv h1 ht, (hB.alloc hB.size _).grown hgr (by rw [World.size_alloc]; have := hB.size; omega) (fun k hk => (hown.lt k hk).1)⟩
def PfRel2 (e t X : Nat) (u : Value) (n : Nat) (w : World) (i : Value) (wr : World) : Prop :=
  ∃ (k : Nat) (v : Value) (xs : List Value), k ≤ n ∧ i = .int .i64 (k : Int) ∧ wr.heap[X]? = some (.cells #[v, u] t (0, 0)) ∧ wr.ownsRow w.heap.size e 1 v k xs ∧ Below w.heap.size w wr
set_option maxHeartbeats 2000000 in
set_option maxRecDepth 100000 in
theorem mk105 (es : Array Value) (p : Option Addr) (n cap : Nat) (su : Nat → Int) (w : World) (s : ByteArray) (h1 : es[1]? = some (.string s)) (h : es[3]? = some (.slice p n cap)) (hs : SlOf w p n fun j => .int .u16 (su j)) : MkOk 105 es w := by
  have H := Lib.hid h
  have H1 := Lib.hid h1
  have HM := Lib.hid hs
  have gm : (n : Int) ≤ 2147483647 := by have := hs.1; omega
  unfold MkOk
  clear h h1 hs
  go_enter Tryz.func105, Tryz.ntmps105
  go_upto_region 1 with fail
  change Code.wp _ _ _ _ (w.alloc (Obj.cells es 69))
  have hB0 : Below w.heap.size w (w.alloc (Obj.cells es 69)) := (Below.refl _ _).alloc (Nat.le_refl _) _
  have hM0 := heap_alloc_new w (Obj.cells es 69)
  generalize w.alloc (Obj.cells es 69) = w0 at hB0 hM0 ⊢
  have k0 := (bcell hM0 1).trans H1.out
  have hrun := Lib.run_convert_string_bytes (P := Tryz.prog) w0 9 24 5 s (u := .string) (by kernel_rfl) (by kernel_rfl) (by kernel_rfl)
  have hbw := bytesWorld_below w0 5 s
  generalize Lib.bytesWorld w0 5 s = w01 at hrun hbw
  generalize hu : (Value.slice (some ⟨w0.heap.size, 0, none⟩) s.size (grownCap w0 s.size 0 5)) = u at hrun
  obtain ⟨qu, lu, cu, rfl⟩ : ∃ q l c, u = .slice q l c := ⟨_, _, _, hu.symm⟩
  have HB0 := Lib.hid hB0
  have HM0 := Lib.hid hM0
  have HBW := Lib.hid hbw
  clear hu hB0 hM0 hbw
  go_upto_region 2 with fail
  change Code.wp _ _ _ _ (w01.alloc (Obj.cells #[.slice none 0 0, .slice qu lu cu] 252))
  have hb01 := HB0.out.trans (HBW.out.mono HB0.out.size)
  have hB1 := hb01.alloc hb01.size (Obj.cells #[.slice none 0 0, .slice qu lu cu] 252)
  have hX1 := heap_alloc_new w01 (Obj.cells #[.slice none 0 0, .slice qu lu cu] 252)
  have hM1 := (heap_alloc_old w01 (Obj.cells #[.slice none 0 0, .slice qu lu cu] 252) (blt (bblk HBW.out HM0.out))).trans (bblk HBW.out HM0.out)
  have hge : w.heap.size ≤ w01.heap.size := hb01.size
  clear hb01 hrun k0
  generalize w01.alloc (Obj.cells #[.slice none 0 0, .slice qu lu cu] 252) = w1 at hB1 hM1 hX1 ⊢
  generalize w01.heap.size = X at hX1 hge ⊢
  have HGE := Lib.hid hge
  clear hge
  have k1 := (bcell hM1 3).trans H.out
  have HB1 := Lib.hid hB1
  have HX1 := Lib.hid hX1
  clear hB1 hM1 hX1
  go_wp2_with fail
  go_loopw [14] (fun i wr => PfRel2 253 252 X (.slice qu lu cu) n w i wr) (fun i _ => n - (intOf i).toNat)
  case atStart => exact ⟨0, _, [], by omega, rfl, HX1.out, World.ownsRow_nil _ _ _ _, HB1.out⟩
  case round =>
    obtain ⟨k, v, xs, hk, rfl, hX, hown, hB⟩ := hrel
    by_cases hlt : k < n
    · obtain ⟨b, o, rfl, hm1⟩ := HM.out.2 k hlt
      have c1 := (hB.cell (p := ⟨b, o + k, none⟩) (World.block_lt_of_cell? w _ hm1)).trans hm1
      obtain ⟨q, l, c, rfl⟩ := own_slice hown
      have c2 : wr.cell? ⟨X, 0, none⟩ = some (.slice q l c) := (bcell hX 0).trans rfl
      clear hm1
      have g1 : (k : Int) < n := by omega
      have HOWN := Lib.hid hown
      have HB := Lib.hid hB
      have HX := Lib.hid hX
      clear hown hB hX
      go_upto_region 5 with fail
      go_wp2_with (refine app_one rfl (.tmp 22) (.tmp 24) 250 253 (.int .u16 0) 2 rfl u250 infoE rfl (by decide) w.heap.size (.slice q l c) k xs (by kernel_rfl) (HOWN.out.alloc _) wr.heap.size 1 _ (by kernel_rfl) ((bcell (heap_alloc_new wr _) 0).trans rfl) rfl (by omega) (by rw [World.size_alloc]; have := HB.out.size; omega) ?_; intro v' w3 hv hgr; obtain ⟨q', l', c', rfl⟩ := own_slice hv; obtain ⟨hX3, hne3, hb3⟩ := pf_step2 (by decide) HOWN.out HX.out HB.out hv hgr; have c3 : w3.cell? ⟨X, 0, none⟩ = some (.slice q l c) := (bcell hX3 0).trans rfl; have f3 := bfrozen hX3 0; have HX3 := Lib.hid hX3; have HNE := Lib.hid hne3; have HB3 := Lib.hid hb3; have HV := Lib.hid hv; clear hX3 hne3 hb3 hv hgr)
      exact ⟨⟨k + 1, _, _, by omega, by simp, bset HX3.out 0 _, HV.out.kept (Lib.grownBy_setCell w3 X 0 _) (Or.inr (Ne.symm HNE.out)), HB3.out.setCell (p := ⟨X, 0, none⟩) HGE.out _⟩, by simp [intOf]; omega⟩
    · obtain rfl : k = n := by omega
      have HB := Lib.hid hB
      clear hown hB hX
      go_wp2_with fail
      go_ret
      exact ⟨_, rfl, HB.out⟩
end Go.Proofs.YtgnmgkpfgmpdfaaGreatDoor
end
