/- impl.HelloHash of a good hello, by its data. -/
import Derived.Test.YtgnmgkpfgmpdfaaGreatDoorSByt
import Derived.Test.YtgnmgkpfgmpdfaaGreatDoorSExts
import Derived.Test.YtgnmgkpfgmpdfaaGreatDoorSOwned
set_option linter.unusedVariables false
set_option linter.unusedSimpArgs false
section
namespace Go.Proofs.YtgnmgkpfgmpdfaaGreatDoor
open Go.RowKit

/-- The hash of a hello. -/
def hsh (M : MD) : ByteArray := strOf (hashOf 254 253 M.x4 (sby M.s5) M.s7.size (sby M.s7) M.n8 M.u8 M.n9 M.u9).toList
theorem hsh_size (M : MD) : (hsh M).size = 32 := by
  rw [hsh, str_size, Array.length_toList]
  exact hash_size _ _ _ _ _ _ _ _ _ _
theorem sl1_start {W : World} {p : Option Addr} {n : Nat} {f : Nat → Value} (h : Sl1 W p n f) (hn : 0 < n) : ∃ b o, p = some ⟨b, o, none⟩ ∧ ∀ j, j < n → W.cell? ⟨b, o + j, none⟩ = some (f j) := by
  obtain ⟨b, o, hp, _⟩ := h 0 hn
  refine ⟨b, o, hp, fun j hj => ?_⟩
  obtain ⟨b', o', hp', hc⟩ := h j hj
  rw [hp] at hp'
  simp only [Option.some.injEq, Addr.mk.injEq, and_true] at hp'
  obtain ⟨rfl, rfl⟩ := hp'
  exact hc
theorem hh_any (M : MD) (W : World) (h0 : M.x0 = 1) (h2 : M.x2 = 254) (h3 : M.x3 = 253) (r8 : Sl1 W M.p8 M.n8 fun j => .int .u16 (M.u8 j)) (r9 : Sl1 W M.p9 M.n9 fun j => .int .u8 (M.u9 j)) (hok : OkM M)
    (hG : ∃ D, M.n10 ≤ MX ∧ SlE W M.p10 M.n10 D ∧ (∀ j, j < M.n10 → Fit (D j)) ∧ ∀ j, j < M.n10 → Kept (D j).x0) (hK : ∀ j, j < 64 → W.cell? ⟨4, j, none⟩ = some (.int .u32 (Kc.getD j 0))) :
    Calls Tryz.prog 7 #[.agg M.es] W fun e w' => e = .returned (.tuple #[.string (hsh M), .bool true]) ∧ Below W.heap.size W w' := by
  obtain ⟨hrd, hse, ⟨⟨hm0, hm1⟩, hz⟩, hn0, hn1⟩ := hok
  obtain ⟨bs, os, e8, c8⟩ := sl1_start r8 hn0
  obtain ⟨bc, oc, e9, c9⟩ := sl1_start r9 hm0
  obtain ⟨D, hl, hE, hf, hk⟩ := hG
  have hM : Msg M.es 254 253 M.x4 M.s5 M.s6 M.s7 (.slice (some ⟨bs, os, none⟩) M.n8 M.c8) (.slice (some ⟨bc, oc, none⟩) M.n9 M.c9) (.slice M.p10 M.n10 M.c10) :=
    { sz := rfl, one := fun u hu => Array.all_eq_true_iff_forall_mem.1 (MD.one M) u hu, c0 := mes0 M h0, c2 := by rw [← h2]; rfl, c3 := by rw [← h3]; rfl, c4 := rfl, c5 := rfl, c6 := rfl, c7 := rfl, c8 := by rw [← e8]; rfl, c9 := by rw [← e9]; rfl, c10 := rfl, rd28 := hrd }
  exact hellohash_any M.es 254 253 M.x4 M.s5 M.s6 M.s7 bs os M.n8 M.c8 M.u8 bc oc M.n9 M.c9 M.u9 (.slice M.p10 M.n10 M.c10) W hM (exts_ok M.p10 M.n10 M.c10 D W hl hE hf hk) c8 c9 hn0 (by omega) hm0 (by omega) hse hK
    (raw_bytes _ _ _ _ _ _ _ _ hse hm1 hz)
theorem good_sl {w0 W : World} {base : Nat} {q : Option Addr} {l c : Nat} (h : GoodE w0 base W (.slice q l c) l) (hw : Below w0.heap.size w0 W) : ∃ D, l ≤ MX ∧ SlE W q l D ∧ (∀ j, j < l → Fit (D j)) ∧ ∀ j, j < l → Kept (D j).x0 := by
  obtain ⟨D, h1, h2, h3, h4, h5⟩ := h
  obtain ⟨p, c', hv, hs⟩ := own_slE h2 (fun j hj => (h3 j hj).below hw)
  simp only [Value.slice.injEq] at hv
  obtain ⟨rfl, _, rfl⟩ := hv
  exact ⟨D, h1, hs, h4, h5⟩
end Go.Proofs.YtgnmgkpfgmpdfaaGreatDoor
end

/- laws.FnHelloSame walked. -/
section
namespace Go.Proofs.YtgnmgkpfgmpdfaaGreatDoor
open Go.RowKit

def Tru (w : World) (e : Ending) (w' : World) : Prop := e = .returned (.bool true) ∧ Below w.heap.size w w'
theorem Tru.mk {w w' : World} (h : Below w.heap.size w w') : Tru w (.returned (.bool true)) w' := ⟨rfl, h⟩
theorem MsgR.one {w : World} {d : MD} (h : MsgR w d) : MsgR w { d with x0 := 1 } := { h with }
set_option maxHeartbeats 8000000 in
set_option maxRecDepth 100000 in
theorem same_any (d : MD) (ck : ByteArray) (p : Option Addr) (n cap : Nat) (D : Nat → ED) (w : World) (hx : MsgR w d) (ho : NilOk p n cap) (hs : SlE w p n D) (hK : ∀ j, j < 64 → w.cell? ⟨4, j, none⟩ = some (.int .u32 (Kc.getD j 0))) :
    Calls Tryz.prog 4 #[.agg d.es, .string ck, .slice p n cap] w (Tru w) := by
  have HX := Lib.hid hx
  have HO := Lib.hid ho
  have HSL := Lib.hid hs
  have HK := Lib.hid hK
  clear hx ho hs hK
  go_enter Tryz.func4, Tryz.ntmps4
  go_upto_region 1 with fail
  change Code.wp _ _ _ _ (w.alloc (Obj.cells d.es 31))
  have hB1 : Below w.heap.size w (w.alloc (Obj.cells d.es 31)) := (Below.refl _ _).alloc (Nat.le_refl _) _
  have hE1 := heap_alloc_new w (Obj.cells d.es 31)
  generalize w.alloc (Obj.cells d.es 31) = w1 at hB1 hE1 ⊢
  have HB1 := Lib.hid hB1
  have HE1 := Lib.hid hE1
  clear hB1 hE1
  go_wp2_with (with_reducible refine wpList_load_row rfl 31 (.tmp 3) rfl w.heap.size (by kernel_rfl) 31 d.es (0, 0) _ HE1.out Tryz.underlying31 rfl (hi31 d) ?_)
  refine (fits5 d w1 (HX.out.below HB1.out)).mono ?_
  rintro e w2 ⟨r, rfl, hr, hb2⟩
  have HE2 := Lib.hid (bblk hb2 HE1.out)
  have HB2 := Lib.hid (HB1.out.trans (hb2.mono HB1.out.size))
  have HR := Lib.hid hr
  clear hr hb2 HE1 HB1
  dsimp only
  cases r
  · go_wp2_with fail
    go_ret
    exact Tru.mk HB2.out
  by_cases hc : (ck.size : Int) > 2147483647
  · go_wp2_with fail
    go_ret
    exact Tru.mk HB2.out
  go_wp2_with fail
  refine (fits9 p n cap D w2 HO.out (HSL.out.below HB2.out)).mono ?_
  rintro e w3 ⟨r, rfl, hr, hb3⟩
  have HE3 := Lib.hid (bblk hb3 HE2.out)
  have HB3 := Lib.hid (HB2.out.trans (hb3.mono HB2.out.size))
  have HR2 := Lib.hid hr
  clear hr hb3 HE2 HB2
  dsimp only
  cases r
  · go_wp2_with fail
    go_ret
    exact Tru.mk HB3.out
  have k0 := (bcell HE3.out 0).trans (MD.g0 d)
  have f0 := bfrozen HE3.out 0
  have hE4 : (w3.setCell ⟨w.heap.size, 0, none⟩ (.int .u8 1)).heap[w.heap.size]? = some (.cells ({ d with x0 := 1 } : MD).es 31 (0, 0)) := bset HE3.out 0 (.int .u8 1)
  have hB4 : Below w.heap.size w (w3.setCell ⟨w.heap.size, 0, none⟩ (.int .u8 1)) := HB3.out.setCell (p := ⟨w.heap.size, 0, none⟩) (Nat.le_refl _) _
  go_upto_region 4 with fail
  generalize w3.setCell ⟨w.heap.size, 0, none⟩ (.int .u8 1) = w4 at hE4 hB4 ⊢
  obtain ⟨d1, hd1⟩ : ∃ d1 : MD, d1 = { d with x0 := 1 } := ⟨_, rfl⟩
  have hx1 : MsgR w d1 := by rw [hd1]; exact HX.out.one
  have h10 : d1.x0 = 1 := by rw [hd1]
  have hL1 : d1.n10 ≤ MX ∧ ∀ j, j < d1.n10 → Fit (d1.D10 j) := by rw [hd1]; exact HR.out (by trivial)
  rw [← hd1] at hE4
  have HX1 := Lib.hid hx1
  have HE4 := Lib.hid hE4
  have HB4 := Lib.hid hB4
  have H10 := Lib.hid h10
  have HL1 := Lib.hid hL1
  clear hE4 hB4 hx1 h10 hL1 hd1 k0 f0 HE3 HB3
  go_wp2_with (with_reducible refine wpList_load_row rfl 31 (.tmp 3) rfl w.heap.size (by kernel_rfl) 31 d1.es (0, 0) _ HE4.out Tryz.underlying31 rfl (hi31 d1) ?_)
  refine (owned_any d1 w w4 HB4.out HX1.out H10.out HL1.out).mono ?_
  rintro e w5 ⟨q, l, c, b, rfl, hg, hb5⟩
  have hE5 := bblk hb5 HE4.out
  have hEw : w.heap.size < w4.heap.size := blt HE4.out
  have HE5 := Lib.hid hE5
  have hE6 := setRow_heap w5 w.heap.size d1.es (ownE d1 q l c).es 31 (0, 0) hE5
  have hB6 := below_setRow (HB4.out.trans (hb5.mono HB4.out.size)) (Nat.le_refl _) (ownE d1 q l c).es
  have hg6 : b = true → OkM d1 ∧ GoodE w w4.heap.size (w5.setRow w.heap.size (ownE d1 q l c).es) (.slice q l c) l := fun h => by
    obtain ⟨h1, _, D', h2, h3, h4⟩ := hg h
    exact ⟨h1, D', h2, own_of_heap h3 (Nat.le_refl _) (fun g hg _ => setRow_other _ _ _ _ (by omega)), h4⟩
  clear hb5 hg hE5 hEw
  dsimp only
  go_upto_region 5 with (with_reducible refine wpList_store_row (o := ⟨none, .store 31 (.tmp 3) (.tmp 30), _, _, _, _⟩) (by kernel_rfl) 31 (.tmp 3) (.tmp 30) (by kernel_rfl) w.heap.size (ownE d1 q l c).es (by kernel_rfl) (by kernel_rfl) 31 d1.es HE5.out (hi31 _) (by kernel_rfl) (MD.one _) ?_)
  generalize w5.setRow w.heap.size (ownE d1 q l c).es = w6 at hE6 hB6 hg6 ⊢
  have HE6 := Lib.hid hE6
  have HB6 := Lib.hid hB6
  have HG6 := Lib.hid hg6
  clear hE6 hB6 hg6 HE5 HE4
  go_wp2_with fail
  refine (plainexts_any p n cap D w w6 HB6.out HO.out (HR2.out (by trivial)).1 HSL.out (HR2.out (by trivial)).2).mono ?_
  rintro e w7 ⟨q2, l2, c2, b2, rfl, hg2, hb7⟩
  have HE7 := Lib.hid (bblk hb7 HE6.out)
  have HB7 := Lib.hid (HB6.out.trans (hb7.mono HB6.out.size))
  have hEw : w.heap.size < w6.heap.size := blt HE6.out
  have hg7 : b = true → OkM d1 ∧ GoodE w w4.heap.size w7 (.slice q l c) l := fun h => by
    obtain ⟨h1, D', h2, h3, h4⟩ := HG6.out h
    exact ⟨h1, D', h2, own_low h3 hb7, h4⟩
  have HG7 := Lib.hid hg7
  have HG2 := Lib.hid hg2
  have HEW := Lib.hid hEw
  clear hb7 hg7 hg2 hEw HE6 HG6
  dsimp only
  cases b
  · go_wp2_with fail
    go_ret
    exact Tru.mk HB7.out
  cases b2
  · go_wp2_with fail
    go_ret
    exact Tru.mk HB7.out
  by_cases h255 : (ck.size : Int) > 255
  · go_wp2_with fail
    go_ret
    exact Tru.mk HB7.out
  obtain ⟨hok, hG7⟩ := HG7.out rfl
  have HOK := Lib.hid hok
  have hh1 := hh_any (ownE d1 q l c) w7 rfl rfl rfl (HX1.out.r8.below HB7.out) (HX1.out.r9.below HB7.out) hok (good_sl hG7 HB7.out) (fun j hj => bcellv HB7.out (HK.out j hj))
  have HH1 := Lib.hid hh1
  clear hh1 hok hG7 HG7
  go_wp2_with (with_reducible refine wpList_load_row rfl 31 (.tmp 3) rfl w.heap.size (by kernel_rfl) 31 (ownE d1 q l c).es (0, 0) _ HE7.out Tryz.underlying31 rfl (hi31 _) ?_)
  refine HH1.out.mono ?_
  rintro e w8 ⟨rfl, hb8⟩
  have hE8 := bblk hb8 HE7.out
  have hB8 := HB7.out.trans (hb8.mono HB7.out.size)
  have k6 := (bcell hE8 6).trans (MD.g6 _)
  have f6 := bfrozen hE8 6
  have hE8a := bset hE8 6 (.string ck)
  have k10 : (w8.setCell ⟨w.heap.size, 6, none⟩ (.string ck)).cell? ⟨w.heap.size, 10, none⟩ = some (.slice q l c) := (bcell hE8a 10).trans rfl
  have f10 := bfrozen hE8a 10
  have hE9 : ((w8.setCell ⟨w.heap.size, 6, none⟩ (.string ck)).setCell ⟨w.heap.size, 10, none⟩ (.slice q2 l2 c2)).heap[w.heap.size]? = some (.cells ({ ownE d1 q2 l2 c2 with s6 := ck } : MD).es 31 (0, 0)) := bset hE8a 10 (.slice q2 l2 c2)
  have hB9 : Below w.heap.size w ((w8.setCell ⟨w.heap.size, 6, none⟩ (.string ck)).setCell ⟨w.heap.size, 10, none⟩ (.slice q2 l2 c2)) := (hB8.setCell (p := ⟨w.heap.size, 6, none⟩) (Nat.le_refl _) _).setCell (p := ⟨w.heap.size, 10, none⟩) (Nat.le_refl _) _
  have hG9 : GoodE w w6.heap.size ((w8.setCell ⟨w.heap.size, 6, none⟩ (.string ck)).setCell ⟨w.heap.size, 10, none⟩ (.slice q2 l2 c2)) (.slice q2 l2 c2) l2 := by
    obtain ⟨D', h2, h3, h4⟩ := HG2.out (by trivial)
    exact ⟨D', h2, own_of_heap (own_low h3 hb8) (Nat.le_refl _) (fun g hg _ => (Below.heap_setCell _ ⟨w.heap.size, 10, none⟩ _ g (by have := HEW.out; show g ≠ w.heap.size; omega)).trans (Below.heap_setCell _ ⟨w.heap.size, 6, none⟩ _ g (by have := HEW.out; show g ≠ w.heap.size; omega))), h4⟩
  clear hE8 hB8 hE8a hb8 HG2
  dsimp only
  go_upto_region 10 with fail
  generalize (w8.setCell ⟨w.heap.size, 6, none⟩ (.string ck)).setCell ⟨w.heap.size, 10, none⟩ (.slice q2 l2 c2) = w9 at hE9 hB9 hG9 ⊢
  have hh2 := hh_any { ownE d1 q2 l2 c2 with s6 := ck } w9 rfl rfl rfl (HX1.out.r8.below hB9) (HX1.out.r9.below hB9) HOK.out (good_sl hG9 hB9) (fun j hj => bcellv hB9 (HK.out j hj))
  have hz := hsh_size (ownE d1 q l c)
  have hsame : hsh { ownE d1 q2 l2 c2 with s6 := ck } = hsh (ownE d1 q l c) := rfl
  rw [hsame] at hh2
  have HH2 := Lib.hid hh2
  have HE9 := Lib.hid hE9
  have HB9 := Lib.hid hB9
  clear hh2 hE9 hB9 hG9 hsame k6 f6 k10 f10
  generalize hsh (ownE d1 q l c) = S at hz HH2 HH1 ⊢
  go_wp2_with (with_reducible refine wpList_load_row rfl 31 (.tmp 3) rfl w.heap.size (by kernel_rfl) 31 ({ ownE d1 q2 l2 c2 with s6 := ck } : MD).es (0, 0) _ HE9.out Tryz.underlying31 rfl (hi31 _) ?_)
  refine HH2.out.mono ?_
  rintro e w10 ⟨rfl, hb10⟩
  have HBZ := Lib.hid (HB9.out.trans (hb10.mono HB9.out.size))
  have hz2 : (S.size : Int) = 32 := by omega
  clear hb10 HH1 HH2
  dsimp only
  go_wp2_with fail
  go_ret
  exact Tru.mk HBZ.out
end Go.Proofs.YtgnmgkpfgmpdfaaGreatDoor
end
