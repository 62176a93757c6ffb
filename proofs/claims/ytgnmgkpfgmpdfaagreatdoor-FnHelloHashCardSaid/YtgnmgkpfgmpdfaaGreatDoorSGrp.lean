/- The makers of extensions, the plain ones. -/
import Derived.Test.YtgnmgkpfgmpdfaaGreatDoorSByt
set_option linter.unusedVariables false
set_option linter.unusedSimpArgs false
section
namespace Go.Proofs.YtgnmgkpfgmpdfaaGreatDoor
open Go.RowKit

/-- A maker's answer: some value, and nothing that stood is touched. -/
def MkOk (f : Nat) (es : Array Value) (w : World) : Prop := Calls Tryz.prog f #[.agg es] w fun e w' => ∃ v, e = .returned v ∧ Below w.heap.size w w'
set_option maxHeartbeats 1000000 in
set_option maxRecDepth 100000 in
theorem mk100 (es : Array Value) (s : ByteArray) (w : World) (h : es[1]? = some (.string s)) : MkOk 100 es w := by
  have H := Lib.hid h
  unfold MkOk
  clear h
  go_enter Tryz.func100, Tryz.ntmps100
  go_upto_region 1 with fail
  change Code.wp _ _ _ _ (w.alloc (Obj.cells es 69))
  have hB1 : Below w.heap.size w (w.alloc (Obj.cells es 69)) := (Below.refl _ _).alloc (Nat.le_refl _) _
  have hM1 := heap_alloc_new w (Obj.cells es 69)
  generalize w.alloc (Obj.cells es 69) = w1 at hB1 hM1 ⊢
  have k1 := (bcell hM1 1).trans H.out
  have HB1 := Lib.hid hB1
  clear hB1 hM1
  go_wp2_with fail
  go_ret
  exact ⟨_, rfl, HB1.out.alloc HB1.out.size _⟩
set_option maxHeartbeats 1000000 in
set_option maxRecDepth 100000 in
theorem mk107 (es : Array Value) (b : Bool) (w : World) (h : es[5]? = some (.bool b)) : MkOk 107 es w := by
  have H := Lib.hid h
  unfold MkOk
  clear h
  go_enter Tryz.func107, Tryz.ntmps107
  go_upto_region 1 with fail
  change Code.wp _ _ _ _ (w.alloc (Obj.cells es 69))
  have hB1 : Below w.heap.size w (w.alloc (Obj.cells es 69)) := (Below.refl _ _).alloc (Nat.le_refl _) _
  have hM1 := heap_alloc_new w (Obj.cells es 69)
  generalize w.alloc (Obj.cells es 69) = w1 at hB1 hM1 ⊢
  have k1 := (bcell hM1 5).trans H.out
  have HB1 := Lib.hid hB1
  clear hB1 hM1
  go_wp2_with fail
  go_ret
  exact ⟨_, rfl, HB1.out.alloc HB1.out.size _⟩
set_option maxHeartbeats 1000000 in
set_option maxRecDepth 100000 in
theorem mk108 (es : Array Value) (x : Int) (w : World) (h : es[6]? = some (.int .u32 x)) : MkOk 108 es w := by
  have H := Lib.hid h
  unfold MkOk
  clear h
  go_enter Tryz.func108, Tryz.ntmps108
  go_upto_region 1 with fail
  change Code.wp _ _ _ _ (w.alloc (Obj.cells es 69))
  have hB1 : Below w.heap.size w (w.alloc (Obj.cells es 69)) := (Below.refl _ _).alloc (Nat.le_refl _) _
  have hM1 := heap_alloc_new w (Obj.cells es 69)
  generalize w.alloc (Obj.cells es 69) = w1 at hB1 hM1 ⊢
  have k1 := (bcell hM1 6).trans H.out
  have HB1 := Lib.hid hB1
  clear hB1 hM1
  go_wp2_with fail
  go_ret
  exact ⟨_, rfl, HB1.out.alloc HB1.out.size _⟩
set_option maxHeartbeats 1000000 in
set_option maxRecDepth 100000 in
theorem mk109 (es : Array Value) (s : ByteArray) (w : World) (h : es[1]? = some (.string s)) : MkOk 109 es w := by
  have H := Lib.hid h
  unfold MkOk
  clear h
  go_enter Tryz.func109, Tryz.ntmps109
  go_upto_region 1 with fail
  change Code.wp _ _ _ _ (w.alloc (Obj.cells es 69))
  have hB1 : Below w.heap.size w (w.alloc (Obj.cells es 69)) := (Below.refl _ _).alloc (Nat.le_refl _) _
  have hM1 := heap_alloc_new w (Obj.cells es 69)
  generalize w.alloc (Obj.cells es 69) = w1 at hB1 hM1 ⊢
  have k1 := (bcell hM1 1).trans H.out
  have HB1 := Lib.hid hB1
  clear hB1 hM1
  have hb2 : Below w.heap.size w (Lib.bytesWorld w1 5 s) := HB1.out.trans ((bytesWorld_below w1 5 s).mono HB1.out.size)
  have hrun := Lib.run_convert_string_bytes (P := Tryz.prog) w1 9 24 5 s (u := .string) (by kernel_rfl) (by kernel_rfl) (by kernel_rfl)
  generalize Lib.bytesWorld w1 5 s = w2 at hb2 hrun
  have HB2 := Lib.hid hb2
  clear hb2
  go_wp2_with fail
  go_ret
  exact ⟨_, rfl, HB2.out.alloc HB2.out.size _⟩
set_option maxHeartbeats 1000000 in
set_option maxRecDepth 100000 in
theorem mk119 (es : Array Value) (s : ByteArray) (w : World) (h : es[1]? = some (.string s)) : MkOk 119 es w := by
  have H := Lib.hid h
  unfold MkOk
  clear h
  go_enter Tryz.func119, Tryz.ntmps119
  go_upto_region 1 with fail
  change Code.wp _ _ _ _ (w.alloc (Obj.cells es 69))
  have hB1 : Below w.heap.size w (w.alloc (Obj.cells es 69)) := (Below.refl _ _).alloc (Nat.le_refl _) _
  have hM1 := heap_alloc_new w (Obj.cells es 69)
  generalize w.alloc (Obj.cells es 69) = w1 at hB1 hM1 ⊢
  have k1 := (bcell hM1 1).trans H.out
  have HB1 := Lib.hid hB1
  clear hB1 hM1
  have hb2 : Below w.heap.size w (Lib.bytesWorld w1 5 s) := HB1.out.trans ((bytesWorld_below w1 5 s).mono HB1.out.size)
  have hrun := Lib.run_convert_string_bytes (P := Tryz.prog) w1 9 24 5 s (u := .string) (by kernel_rfl) (by kernel_rfl) (by kernel_rfl)
  generalize Lib.bytesWorld w1 5 s = w2 at hb2 hrun
  have HB2 := Lib.hid hb2
  clear hb2
  go_wp2_with fail
  go_ret
  exact ⟨_, rfl, HB2.out.alloc HB2.out.size _⟩
end Go.Proofs.YtgnmgkpfgmpdfaaGreatDoor
end

/- impl.curves, makeGroups. -/
section
namespace Go.Proofs.YtgnmgkpfgmpdfaaGreatDoor
open Go.RowKit

/-- A slice of one-cell elements, wherever it lies. -/
def SlOf (w : World) (p : Option Addr) (n : Nat) (f : Nat → Value) : Prop := n ≤ 2147483647 ∧ ∀ j, j < n → ∃ b o, p = some ⟨b, o, none⟩ ∧ w.cell? ⟨b, o + j, none⟩ = some (f j)
theorem SlOf.below {w w' : World} {p : Option Addr} {n : Nat} {f : Nat → Value} (h : SlOf w p n f) (hb : Below w.heap.size w w') : SlOf w' p n f :=
  ⟨h.1, fun j hj => by obtain ⟨b, o, e, hc⟩ := h.2 j hj; exact ⟨b, o, e, bcellv hb hc⟩⟩
theorem info156 : (Tryz.prog.info? 156).map (fun i => (i.zero, i.size, i.bytes)) = some (some (.int .u16 0), 1, 2) := by kernel_rfl
def OwnRel (e : TypeId) (n : Nat) (w : World) (v i : Value) (wr : World) : Prop :=
  ∃ (k : Nat) (xs : List Value), k ≤ n ∧ i = .int .i64 (k : Int) ∧ wr.ownsRow w.heap.size e 1 v k xs ∧ Below w.heap.size w wr
set_option maxHeartbeats 2000000 in
set_option maxRecDepth 100000 in
theorem curves_any (p : Option Addr) (n cap : Nat) (su : Nat → Int) (w : World) (hs : SlOf w p n fun j => .int .u16 (su j)) :
    Calls Tryz.prog 117 #[.slice p n cap] w fun e w' => ∃ v xs, e = .returned v ∧ w'.ownsRow w.heap.size 156 1 v n xs ∧ Below w.heap.size w w' := by
  have HM := Lib.hid hs
  have gm : (n : Int) ≤ 2147483647 := by have := hs.1; omega
  clear hs
  go_enter Tryz.func117, Tryz.ntmps117
  go_wp2_with fail
  go_loopw [3, 8] (fun v i wr => OwnRel 156 n w v i wr) (fun _ i _ => n - (intOf i).toNat)
  case atStart => exact ⟨0, [], by omega, rfl, World.ownsRow_nil _ _ _ _, Below.refl _ _⟩
  case round =>
    obtain ⟨k, xs, hk, rfl, hown, hB⟩ := hrel
    by_cases hlt : k < n
    · obtain ⟨b, o, rfl, hm1⟩ := HM.out.2 k hlt
      have c1 := (hB.cell (p := ⟨b, o + k, none⟩) (World.block_lt_of_cell? w _ hm1)).trans hm1
      clear hm1
      have g1 : (k : Int) < n := by omega
      have HOWN := Lib.hid hown
      have HB := Lib.hid hB
      clear hown hB
      go_wp2_with (refine app_one rfl (.tmp 12) (.tmp 14) 239 156 (.int .u16 0) 2 rfl Tryz.underlying239 info156 rfl (by decide) w.heap.size u3 k xs (by kernel_rfl) (HOWN.out.alloc _) wr.heap.size 1 (.int .u16 (su k)) (by kernel_rfl) ((bcell (heap_alloc_new wr _) 0).trans rfl) rfl (by omega) (by rw [World.size_alloc]; have := HB.out.size; omega) ?_; intro v' w3 hv hgr)
      have hb3 : Below w.heap.size w w3 := (HB.out.alloc HB.out.size _).grown hgr (by rw [World.size_alloc]; have := HB.out.size; omega) (fun k' hk' => (HOWN.out.lt k' hk').1)
      have hrel : OwnRel 156 n w v' (.int .i64 ((k + 1 : Nat) : Int)) w3 := ⟨k + 1, _, by omega, rfl, hv, hb3⟩
      have HR := Lib.hid hrel
      clear hrel hb3 hv hgr
      go_wp2_with fail
      go_roundw
      case rel =>
        have h := HR.out
        simpa using h
      case measure => simp [intOf]; omega
    · obtain rfl : k = n := by omega
      have HOWN := Lib.hid hown
      have HB := Lib.hid hB
      clear hown hB
      go_wp2_with fail
      go_ret
      exact ⟨u3, xs, rfl, HOWN.out, HB.out⟩
end Go.Proofs.YtgnmgkpfgmpdfaaGreatDoor
end

/- makeGroups, makeALPN. -/
section
namespace Go.Proofs.YtgnmgkpfgmpdfaaGreatDoor
open Go.RowKit

set_option maxHeartbeats 1000000 in
set_option maxRecDepth 100000 in
theorem mk101 (es : Array Value) (p : Option Addr) (n cap : Nat) (su : Nat → Int) (w : World) (h : es[3]? = some (.slice p n cap)) (hs : SlOf w p n fun j => .int .u16 (su j)) : MkOk 101 es w := by
  have H := Lib.hid h
  have HS := Lib.hid hs
  unfold MkOk
  clear h hs
  go_enter Tryz.func101, Tryz.ntmps101
  go_upto_region 1 with fail
  change Code.wp _ _ _ _ (w.alloc (Obj.cells es 69))
  have hB1 : Below w.heap.size w (w.alloc (Obj.cells es 69)) := (Below.refl _ _).alloc (Nat.le_refl _) _
  have hM1 := heap_alloc_new w (Obj.cells es 69)
  generalize w.alloc (Obj.cells es 69) = w1 at hB1 hM1 ⊢
  have k1 := (bcell hM1 3).trans H.out
  have HB1 := Lib.hid hB1
  clear hB1 hM1
  go_wp2_with fail
  refine (curves_any p n cap su w1 (HS.out.below HB1.out)).mono ?_
  rintro e w2 ⟨v, xs, rfl, ho, hb2⟩
  have HB2 := Lib.hid (HB1.out.trans (hb2.mono HB1.out.size))
  obtain ⟨q, l, c, rfl⟩ : ∃ q l c, v = .slice q l c := by
    rcases ho.2 with ⟨rfl, _⟩ | ⟨g, cap, cur, rfl, _⟩
    · exact ⟨_, _, _, rfl⟩
    · exact ⟨_, _, _, rfl⟩
  clear ho hb2
  dsimp only
  go_wp2_with fail
  go_ret
  exact ⟨_, rfl, HB2.out.alloc HB2.out.size _⟩
theorem own_slice {w : World} {base e sz n : Nat} {v : Value} {xs : List Value} (h : w.ownsRow base e sz v n xs) : ∃ q l c, v = .slice q l c := by
  rcases h.2 with ⟨rfl, _⟩ | ⟨g, cap, cur, rfl, _⟩
  · exact ⟨_, _, _, rfl⟩
  · exact ⟨_, _, _, rfl⟩
theorem info9 : (Tryz.prog.info? 9).map (fun i => (i.zero, i.size, i.bytes)) = some (some (.string ⟨#[]⟩), 1, 16) := by kernel_rfl
theorem u26 : Tryz.prog.underlying 26 = some (.slice 9) := by kernel_rfl
set_option maxHeartbeats 1000000 in
set_option maxRecDepth 100000 in
theorem mk106 (es : Array Value) (p : Option Addr) (n cap : Nat) (st : Nat → ByteArray) (w : World) (h : es[2]? = some (.slice p n cap)) (hnil : p = none → n = 0 ∧ cap = 0) (hs : SlOf w p n fun j => .string (st j)) : MkOk 106 es w := by
  have H := Lib.hid h
  have HS := Lib.hid hs
  have HN := Lib.hid hnil
  unfold MkOk
  clear h hs hnil
  obtain ⟨i, hi, hz0, hz1, hz2⟩ := info_parts info9
  go_enter Tryz.func106, Tryz.ntmps106
  go_upto_region 1 with fail
  change Code.wp _ _ _ _ (w.alloc (Obj.cells es 69))
  have hB1 : Below w.heap.size w (w.alloc (Obj.cells es 69)) := (Below.refl _ _).alloc (Nat.le_refl _) _
  have hM1 := heap_alloc_new w (Obj.cells es 69)
  generalize w.alloc (Obj.cells es 69) = w1 at hB1 hM1 ⊢
  have k1 := (bcell hM1 2).trans H.out
  have HB1 := Lib.hid hB1
  clear hB1 hM1
  have HI := Lib.hid hi
  have HZ0 := Lib.hid hz0
  have HZ1 := Lib.hid hz1
  have HZ2 := Lib.hid hz2
  clear hi hz0 hz1 hz2
  cases p with
  | none =>
    obtain ⟨rfl, rfl⟩ := HN.out rfl
    go_wp2_with (refine wpList_append_own_none rfl (.const (.slice none 0 0)) (.tmp 4) 26 rfl w.heap.size 9 i 1 u26 HI.out (.slice none 0 0) 0 [] rfl (World.ownsRow_nil _ _ _ _) (by kernel_rfl) ?_)
    go_ret
    exact ⟨⟨_, rfl⟩, HB1.out.alloc HB1.out.size _⟩
  | some ad =>
    have hnews : ∀ j u, ((List.range n).map fun j => Value.string (st j))[j]? = some u → w1.cell? (ad.add j) = some u := fun j u hj => by
      rw [List.getElem?_map] at hj
      by_cases hjn : j < n
      · rw [List.getElem?_range hjn] at hj
        simp at hj
        subst hj
        obtain ⟨b, o, e, hc⟩ := HS.out.2 j hjn
        obtain rfl := Option.some.inj e
        rw [addr_add]
        exact bcellv HB1.out hc
      · rw [List.getElem?_eq_none (by simp; omega)] at hj
        cases hj
    have HNEWS := Lib.hid hnews
    have hn := HS.out.1
    clear hnews
    go_wp2_with (refine wpList_append_own w1 rfl (.const (.slice none 0 0)) (.tmp 4) 26 rfl w.heap.size 9 i (.string ⟨#[]⟩) 1 16 u26 HI.out HZ0.out HZ1.out HZ2.out rfl (by decide) (.slice none 0 0) 0 [] rfl (World.ownsRow_nil _ _ _ _) ad n cap ((List.range n).map fun j => .string (st j)) (by kernel_rfl) (by simp) HNEWS.out (fun u hu => by obtain ⟨j, _, rfl⟩ := List.mem_map.1 hu; rfl) (by unfold maxLen; omega) (by omega) HB1.out.size ?_; intro v w2 hv hgr _; obtain ⟨q, l, c, rfl⟩ := own_slice hv)
    have hb2 := HB1.out.grown hgr HB1.out.size (fun k hk => by cases hk)
    go_ret
    exact ⟨⟨_, rfl⟩, hb2.alloc hb2.size _⟩
end Go.Proofs.YtgnmgkpfgmpdfaaGreatDoor
end
