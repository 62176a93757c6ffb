/- What the spec writes of a bare hello: the bytes that the code hashes. No program in sight. -/
import Derived.Test.YtgnmgkpfgmpdfaaGreatDoorSSha
import Derived.Test.YtgnmgkpfgmpdfaaGreatDoorSSame
import Derived.Test.YtgnmgkpfgmpdfaaGreatDoorSSpG
import Derived.Test.YtgnmgkpfgmpdfaaGreatDoorSSpC
set_option linter.unusedVariables false
set_option linter.unusedSimpArgs false
section
namespace Go.Proofs.YtgnmgkpfgmpdfaaGreatDoor
open Go.RowKit

theorem strOf_bytes (s : ByteArray) : strOf (bytesAt (sby s) 0 s.size) = s := by
  have hs : s.data.toList.length = s.size := Array.length_toList
  apply ByteArray.ext
  apply Array.ext'
  unfold strOf bytesAt sby
  simp only [List.map_map]
  refine List.ext_getElem (by simp [hs]) fun j h1 h2 => ?_
  simp only [List.getElem_map, List.getElem_range, Function.comp_def, byteV, intOf, Nat.zero_add, Int.toNat_natCast]
  simp only [List.getD_eq_getElem?_getD]
  rw [List.getElem?_eq_getElem h2]
  apply UInt8.toNat_inj.1
  simp
theorem num4_wrap (x : Int) : numC (IntKind.u64.wrap x) 4 4 = [.int .u8 (x / 16777216 % 256), .int .u8 (x / 65536 % 256), .int .u8 (x / 256 % 256), .int .u8 (x % 256)] := by
  rw [num4, IntKind.wrap_u64]
  simp only [List.cons.injEq, Value.int.injEq, true_and, and_true]
  refine ⟨?_, ?_, ?_, ?_⟩ <;> omega
theorem fixed_list (tm : Int) (d : Nat → UInt8) : (fixedOf tm d).toList = numC (IntKind.u64.wrap tm) 4 4 ++ bytesAt d 0 28 := by
  have h1 : (put4 zero32 0 tm).toList.take 4 = [.int .u8 (tm / 16777216 % 256), .int .u8 (tm / 65536 % 256), .int .u8 (tm / 256 % 256), .int .u8 (tm % 256)] := rfl
  have h2 : (put4 zero32 0 tm).toList.drop 32 = [] := List.drop_eq_nil_of_le (by rw [Array.length_toList, put4_size]; exact Nat.le_refl 32)
  unfold fixedOf spl
  rw [bytesAt_length, num4_wrap, h1, h2, List.append_nil]
theorem num2 (x : Int) : numC x 2 2 = u16b x := by
  have e : (List.range 2) = [0, 1] := rfl
  unfold numC u16b
  rw [e]
  simp [digV]
theorem suC_enc (n : Nat) (su : Nat → Int) : encOf n su n = numC ((n : Int) * 2) 2 2 ++ suC su n := by
  unfold encOf suC
  rw [num2]
  congr 2
  funext j
  exact (num2 _).symm
theorem comp_same (n : Nat) (m : Nat → Int) (h : ∀ j, j < n → m j = 0) : coC n m = compOf n m n := by
  unfold coC compOf
  congr 1
  refine List.map_congr_left fun j hj => ?_
  have hj := List.mem_range.1 hj
  rw [h j hj, h (n - 1 - j) (by omega)]
theorem vec1 (s : ByteArray) (h : s.size < 256) : vecS s 1 = strOf ([.int .u8 (s.size : Int)] ++ bytesAt (sby s) 0 s.size) := by
  have e : numC (s.size : Int) 1 1 = [.int .u8 (s.size : Int)] := by
    have e : (List.range 1) = [0] := rfl
    unfold numC
    rw [e]
    simp [digV]
    omega
  rw [← strOf_append, strOf_bytes, vecS, numS, e]
theorem vec1nil : vecS ⟨#[]⟩ 1 = strOf [.int .u8 0] := rfl
theorem vec2nil : vecS ⟨#[]⟩ 2 = strOf two0 := rfl
theorem vec2su (n : Nat) (su : Nat → Int) : vecS (strOf (suC su n)) 2 = strOf (encOf n su n) := by
  rw [vecS, numS, strOf_size, suC_length, suC_enc, ← strOf_append]
  rw [show ((2 * n : Nat) : Int) = (n : Int) * 2 by omega]
theorem spec_raw (tm : Int) (rd se : ByteArray) (n : Nat) (su : Nat → Int) (m : Nat) (me : Nat → Int) (h28 : rd.size = 28) (h7 : se.size ≤ 32) (h9 : ∀ j, j < m → me j = 0) :
    strOf [.int .u8 254, .int .u8 253] ++ (numS (IntKind.u64.wrap tm) 4 ++ rd) ++ vecS se 1 ++ vecS ⟨#[]⟩ 1 ++ vecS (strOf (suC su n)) 2 ++ strOf (coC m me) ++ vecS ⟨#[]⟩ 2
      = strOf (rawOf 254 253 tm (sby rd) se.size (sby se) n su m me) := by
  have e1 : numS (IntKind.u64.wrap tm) 4 ++ rd = strOf (fixedOf tm (sby rd)).toList := by
    rw [fixed_list, ← strOf_append]
    have hb := strOf_bytes rd
    rw [h28] at hb
    rw [hb]
    rfl
  rw [e1, vec1 se (by omega), vec1nil, vec2nil, vec2su, comp_same m me h9]
  simp only [strOf_append]
  congr 1
theorem sby_raw (l : List Value) : sby (strOf l) = byteAt l := by
  funext i
  by_cases h : i < l.length
  · exact sby_strOf l i h
  · unfold sby strOf byteAt
    simp only [List.getD_eq_getElem?_getD]
    rw [List.getElem?_eq_none (by simpa using h), List.getElem?_eq_none (by omega)]
    rfl
/-- The spec's digest is the code's. -/
theorem spec_hash (tm : Int) (rd se : ByteArray) (n : Nat) (su : Nat → Int) (m : Nat) (me : Nat → Int) :
    strOf (shaOf (sby (strOf (rawOf 254 253 tm (sby rd) se.size (sby se) n su m me))) (strOf (rawOf 254 253 tm (sby rd) se.size (sby se) n su m me)).size).toList
      = strOf (hashOf 254 253 tm (sby rd) se.size (sby se) n su m me).toList := by
  rw [sby_raw, strOf_size]
  rfl
end Go.Proofs.YtgnmgkpfgmpdfaaGreatDoor
end

/- spec.HelloHash of a good hello: the hash that the code computes. -/
section
namespace Go.Proofs.YtgnmgkpfgmpdfaaGreatDoor
open Go.RowKit

theorem coC_length (n : Nat) (m : Nat → Int) : (coC n m).length = n + 1 := by simp [coC]
set_option maxRecDepth 100000 in
theorem spechash_good (M : MD) (w : World) (h0 : M.x0 = 1) (h2 : M.x2 = 254) (h3 : M.x3 = 253) (r8 : Sl1 w M.p8 M.n8 fun j => .int .u16 (M.u8 j)) (r9 : Sl1 w M.p9 M.n9 fun j => .int .u8 (M.u9 j)) (hok : OkM M) :
    Calls Tryz.prog 8 #[.agg M.es] w fun e w' => e = .returned (.tuple #[.string (hsh M), .bool true]) ∧ Below w.heap.size w w' := by
  obtain ⟨hrd, hse, ⟨⟨hm0, hm1⟩, hz⟩, hn0, hn1⟩ := hok
  obtain ⟨bs, os, e8, c8⟩ := sl1_start r8 hn0
  obtain ⟨bc, oc, e9, c9⟩ := sl1_start r9 hm0
  have hraw := spec_raw M.x4 M.s5 M.s7 M.n8 M.u8 M.n9 M.u9 hrd hse hz
  have zA : (strOf [.int .u8 254, .int .u8 253]).size = 2 := strOf_size _
  have zR : (numS (IntKind.u64.wrap M.x4) 4 ++ M.s5).size = 32 := by rw [ByteArray.size_append, numS_size, hrd]
  have zB : (vecS M.s7 1).size = 1 + M.s7.size := vecS_size _ _
  have zG : (vecS ⟨#[]⟩ 1).size = 1 := vecS_size _ _
  have zD : (vecS (strOf (suC M.u8 M.n8)) 2).size = 2 + 2 * M.n8 := by rw [vecS_size, strOf_size, suC_length]
  have zF : (strOf (coC M.n9 M.u9)).size = M.n9 + 1 := by rw [strOf_size, coC_length]
  have zX : (vecS ⟨#[]⟩ 2).size = 2 := vecS_size _ _
  have hsz : (strOf (rawOf 254 253 M.x4 (sby M.s5) M.s7.size (sby M.s7) M.n8 M.u8 M.n9 M.u9)).size ≤ 100000 := by
    rw [← hraw]
    simp only [ByteArray.size_append] at zR ⊢
    omega
  have hT : hsh M = strOf (shaOf (sby (strOf (rawOf 254 253 M.x4 (sby M.s5) M.s7.size (sby M.s7) M.n8 M.u8 M.n9 M.u9))) (strOf (rawOf 254 253 M.x4 (sby M.s5) M.s7.size (sby M.s7) M.n8 M.u8 M.n9 M.u9)).size).toList :=
    (spec_hash M.x4 M.s5 M.s7 M.n8 M.u8 M.n9 M.u9).symm
  rw [hT]
  refine spechash_any M (strOf (rawOf 254 253 M.x4 (sby M.s5) M.s7.size (sby M.s7) M.n8 M.u8 M.n9 M.u9)) _ w h0 (fun w1 hw1 => ?_) (fun w1 _ => sha256s_any _ w1 hsz)
  rw [← hraw]
  refine mesclient_of (bareM M) _ _ _ _ _ _ _ w1 ⟨by omega, by omega, by omega, by omega, by omega, by omega, by omega⟩ hn1 hm1 (fun w2 hw2 => mesrandom_any (bareM M) w2 hrd) (fun w2 hw2 => extswrite_nil none 0 w2)
    (fun w2 hw2 => mesversion_any (bareM M).es 254 253 w2 (by rw [← h2]; rfl) (by rw [← h3]; rfl)) (fun w2 hw2 => recVec_any M.s7 1 w2 (by omega) (by decide) (by decide)) (fun w2 hw2 => recVec_any ⟨#[]⟩ 1 w2 (by decide) (by decide) (by decide))
    (fun w2 hw2 => ?_) (fun w2 hw2 => ?_) (fun w2 hw2 => ?_) (fun w2 hw2 => ?_)
  · have hb := hw1.trans (hw2.mono hw1.size)
    show Calls Tryz.prog 81 #[.slice M.p8 M.n8 M.c8] w2 _
    rw [e8]
    exact suiteswrite_any bs os M.n8 M.c8 M.u8 w2 (by omega) (fun j hj => bcellv hb (c8 j hj))
  · have hb := hw1.trans (hw2.mono hw1.size)
    show Calls Tryz.prog 82 #[.slice M.p9 M.n9 M.c9] w2 _
    rw [e9]
    exact compwrite_any bc oc M.n9 M.c9 M.u9 w2 hm1 (fun j hj => bcellv hb (c9 j hj))
  · refine (recLong_1 M.s7 w2 (by omega)).mono ?_
    rintro e w3 ⟨rfl, rfl⟩
    refine ⟨?_, Below.refl _ _⟩
    rw [show longB M.s7 1 = false by simp [longB]; omega]
  · refine (recLong_1 ⟨#[]⟩ w2 (by decide)).mono ?_
    rintro e w3 ⟨rfl, rfl⟩
    exact ⟨rfl, Below.refl _ _⟩
end Go.Proofs.YtgnmgkpfgmpdfaaGreatDoor
end

/- laws.FnHelloHash walked. -/
section
namespace Go.Proofs.YtgnmgkpfgmpdfaaGreatDoor
open Go.RowKit

set_option maxHeartbeats 8000000 in
set_option maxRecDepth 100000 in
theorem hashlaw_any (d : MD) (w : World) (hx : MsgR w d) (hK : ∀ j, j < 64 → w.cell? ⟨4, j, none⟩ = some (.int .u32 (Kc.getD j 0))) :
    Calls Tryz.prog 3 #[.agg d.es] w (Tru w) := by
  have HX := Lib.hid hx
  have HK := Lib.hid hK
  clear hx hK
  go_enter Tryz.func3, Tryz.ntmps3
  go_upto_region 1 with fail
  change Code.wp _ _ _ _ (w.alloc (Obj.cells d.es 31))
  have hB1 : Below w.heap.size w (w.alloc (Obj.cells d.es 31)) := (Below.refl _ _).alloc (Nat.le_refl _) _
  have hE1 := heap_alloc_new w (Obj.cells d.es 31)
  generalize w.alloc (Obj.cells d.es 31) = w1 at hB1 hE1 ⊢
  have HB1 := Lib.hid hB1
  have HE1 := Lib.hid hE1
  clear hB1 hE1
  go_wp2_with (with_reducible refine wpList_load_row rfl 31 (.tmp 1) rfl w.heap.size (by kernel_rfl) 31 d.es (0, 0) _ HE1.out Tryz.underlying31 rfl (hi31 d) ?_)
  refine (fits5 d w1 (HX.out.below HB1.out)).mono ?_
  rintro e w2 ⟨r, rfl, hr, hb2⟩
  have HE2 := Lib.hid (bblk hb2 HE1.out)
  have HB2 := Lib.hid (HB1.out.trans (hb2.mono HB1.out.size))
  have HR := Lib.hid hr
  clear hr hb2 HE1 HB1
  dsimp only
  cases r
  · go_wp2_with fail
    go_ret
    exact Tru.mk HB2.out
  have k0 := (bcell HE2.out 0).trans (MD.g0 d)
  have f0 := bfrozen HE2.out 0
  have hE4 : (w2.setCell ⟨w.heap.size, 0, none⟩ (.int .u8 1)).heap[w.heap.size]? = some (.cells ({ d with x0 := 1 } : MD).es 31 (0, 0)) := bset HE2.out 0 (.int .u8 1)
  have hB4 : Below w.heap.size w (w2.setCell ⟨w.heap.size, 0, none⟩ (.int .u8 1)) := HB2.out.setCell (p := ⟨w.heap.size, 0, none⟩) (Nat.le_refl _) _
  go_upto_region 4 with fail
  generalize w2.setCell ⟨w.heap.size, 0, none⟩ (.int .u8 1) = w4 at hE4 hB4 ⊢
  obtain ⟨d1, hd1⟩ : ∃ d1 : MD, d1 = { d with x0 := 1 } := ⟨_, rfl⟩
  have hx1 : MsgR w d1 := by rw [hd1]; exact HX.out.one
  have h10 : d1.x0 = 1 := by rw [hd1]
  have hL1 : d1.n10 ≤ MX ∧ ∀ j, j < d1.n10 → Fit (d1.D10 j) := by rw [hd1]; exact HR.out (by trivial)
  rw [← hd1] at hE4
  have HX1 := Lib.hid hx1
  have HE4 := Lib.hid hE4
  have HB4 := Lib.hid hB4
  have H10 := Lib.hid h10
  have HL1 := Lib.hid hL1
  clear hE4 hB4 hx1 h10 hL1 hd1 k0 f0 HE2 HB2
  go_wp2_with (with_reducible refine wpList_load_row rfl 31 (.tmp 1) rfl w.heap.size (by kernel_rfl) 31 d1.es (0, 0) _ HE4.out Tryz.underlying31 rfl (hi31 d1) ?_)
  refine (owned_any d1 w w4 HB4.out HX1.out H10.out HL1.out).mono ?_
  rintro e w5 ⟨q, l, c, b, rfl, hg, hb5⟩
  have hE5 := bblk hb5 HE4.out
  have hEw : w.heap.size < w4.heap.size := blt HE4.out
  have HE5 := Lib.hid hE5
  have hE6 := setRow_heap w5 w.heap.size d1.es (ownE d1 q l c).es 31 (0, 0) hE5
  have hB6 := below_setRow (HB4.out.trans (hb5.mono HB4.out.size)) (Nat.le_refl _) (ownE d1 q l c).es
  have hg6 : b = true → OkM d1 ∧ GoodE w w4.heap.size (w5.setRow w.heap.size (ownE d1 q l c).es) (.slice q l c) l := fun h => by
    obtain ⟨h1, _, D', h2, h3, h4⟩ := hg h
    exact ⟨h1, D', h2, own_of_heap h3 (Nat.le_refl _) (fun g hg _ => setRow_other _ _ _ _ (by omega)), h4⟩
  clear hb5 hg hE5 hEw
  dsimp only
  go_upto_region 5 with (with_reducible refine wpList_store_row (o := ⟨none, .store 31 (.tmp 1) (.tmp 14), _, _, _, _⟩) (by kernel_rfl) 31 (.tmp 1) (.tmp 14) (by kernel_rfl) w.heap.size (ownE d1 q l c).es (by kernel_rfl) (by kernel_rfl) 31 d1.es HE5.out (hi31 _) (by kernel_rfl) (MD.one _) ?_)
  generalize w5.setRow w.heap.size (ownE d1 q l c).es = w6 at hE6 hB6 hg6 ⊢
  have HE6 := Lib.hid hE6
  have HB6 := Lib.hid hB6
  have HG6 := Lib.hid hg6
  clear hE6 hB6 hg6 HE5 HE4
  cases b
  · go_wp2_with fail
    go_ret
    exact Tru.mk HB6.out
  obtain ⟨hok, hG6⟩ := HG6.out rfl
  have HOK := Lib.hid hok
  have hh1 := hh_any (ownE d1 q l c) w6 rfl rfl rfl (HX1.out.r8.below HB6.out) (HX1.out.r9.below HB6.out) hok (good_sl hG6 HB6.out) (fun j hj => bcellv HB6.out (HK.out j hj))
  have HH1 := Lib.hid hh1
  clear hh1 hok hG6 HG6
  go_wp2_with (with_reducible refine wpList_load_row rfl 31 (.tmp 1) rfl w.heap.size (by kernel_rfl) 31 (ownE d1 q l c).es (0, 0) _ HE6.out Tryz.underlying31 rfl (hi31 _) ?_)
  refine HH1.out.mono ?_
  rintro e w8 ⟨rfl, hb8⟩
  have HE8 := Lib.hid (bblk hb8 HE6.out)
  have hB8 := HB6.out.trans (hb8.mono HB6.out.size)
  have hh2 := spechash_good (ownE d1 q l c) w8 rfl rfl rfl (HX1.out.r8.below hB8) (HX1.out.r9.below hB8) HOK.out
  have HH2 := Lib.hid hh2
  have HB8 := Lib.hid hB8
  clear hb8 hB8 hh2
  generalize hsh (ownE d1 q l c) = S at HH2 HH1 ⊢
  dsimp only
  go_wp2_with (with_reducible refine wpList_load_row rfl 31 (.tmp 1) rfl w.heap.size (by kernel_rfl) 31 (ownE d1 q l c).es (0, 0) _ HE8.out Tryz.underlying31 rfl (hi31 _) ?_)
  refine HH2.out.mono ?_
  rintro e w10 ⟨rfl, hb10⟩
  have HBZ := Lib.hid (HB8.out.trans (hb10.mono HB8.out.size))
  clear hb10 HH1 HH2
  dsimp only
  go_wp2_with fail
  go_ret
  exact Tru.mk HBZ.out
end Go.Proofs.YtgnmgkpfgmpdfaaGreatDoor
end
