/- laws.FnHandshakeKind, walked. -/
import Derived.Test.YtkagkopjhgnnlaaGreatDoorPure
import Derived.Test.YtkagkopjhgnnlaaGreatDoorRead2
import Derived.Test.YtkagkopjhgnnlaaGreatDoorHdrWrite
namespace Go.Proofs.YtkagkopjhgnnlaaGreatDoor
open Go.RowKit Go.Proofs.YtkagkopjhgnnlaaGreatDoorW.PrintWords Go.Proofs.YtkagkopjhgnnlaaGreatDoorW.PrintLast Go.Proofs.YtkagkopjhgnnlaaGreatDoorW.PrintMore Go.Proofs.YtkagkopjhgnnlaaGreatDoor.PFnHandshakeKind

theorem w64 (l : Int) (hl : 0 ≤ l) (hl1 : l < 16777216) : IntKind.u64.wrap l = l := by
  simp [IntKind.wrap, IntKind.signed, IntKind.bits]; omega
theorem hw (t l s : Int) (hl : 0 ≤ l) (hl1 : l < 16777216) (hs : 0 ≤ s) (hs1 : s < 65536) (w : World) :
  Calls Tryz.prog 6 #[.agg #[.int .u8 t, .int .u32 l, .int .u16 s, .int .u32 0, .int .u32 l]] w fun e w' => e = .returned (.tuple #[.string (strOfNums (hb t l s)), .bool true]) ∧ Below w.heap.size w w' := by
  refine spec_HandshakeHeaderWrite.calls 6 t l s 0 l (strOfNums (hb t l s)) true w ?_
  have n1 : ¬ l ≥ 16777216 := by omega
  have n2 : ¬ (0 : Int) ≥ 16777216 := by omega
  simp only [spec_HandshakeHeaderWrite.f, n1, n2, if_false, decide_false, spec_HandshakeHeaderWrite.j0, Bool.false_eq_true, Option.bind_some, w64 l hl hl1, w64 s hs (by omega), w64 0 (by omega) (by omega), rec3 1, rec2 1, strOfNums_app, strOfNums_size, List.cons_append, List.nil_append, List.length_cons, List.length_nil, Nat.reduceAdd, Nat.reduceLeDiff, if_true]
  rfl

abbrev kinds : List Int := [0, 1, 2, 3, 11, 12, 13, 14, 15, 16, 20]
theorem among_mem (t : Int) (h : t ∈ kinds) : laws_among.f 12 t kinds = some true := by
  simp only [kinds, List.mem_cons, List.not_mem_nil, or_false] at h
  rcases h with rfl | rfl | rfl | rfl | rfl | rfl | rfl | rfl | rfl | rfl | rfl <;> kernel_rfl
theorem among_not (t : Int) (h : t ∉ kinds) : laws_among.f 12 t kinds = some false := by
  simp only [kinds, List.mem_cons, List.not_mem_nil, or_false, not_or] at h
  obtain ⟨h0, h1, h2, h3, h4, h5, h6, h7, h8, h9, h10⟩ := h
  simp [laws_among.f, laws_among.l0, rd, wrap64, Ne.symm h0, Ne.symm h1, Ne.symm h2, Ne.symm h3, Ne.symm h4, Ne.symm h5, Ne.symm h6, Ne.symm h7, Ne.symm h8, Ne.symm h9, Ne.symm h10]
theorem row_of_block {W : World} {g : Nat} {ty : TypeId} (xs : List Int) (hx : xs.length ≤ 1000) (h : W.heap[g]? = some (.cells (xs.map (Value.int .u16 ·)).toArray ty (0, 0))) : Kd.C (Kd.int .u16) W (some ⟨g, 0, none⟩) xs.length xs := by
  refine ⟨rfl, by omega, fun _ => ⟨_, rfl, fun j p hj => ⟨[.int .u16 p], rfl, rfl, fun i u hu => ?_⟩⟩⟩
  cases i with
  | succ i => simp at hu
  | zero =>
    simp only [List.getElem?_cons_zero, Option.some.injEq] at hu
    subst hu
    have := bcell h j
    simp only [List.getElem?_toArray, List.getElem?_map, hj, Option.map_some] at this
    show W.cell? (Addr.add ⟨g, 0, none⟩ (j * 1 + 0)) = _
    rw [Nat.mul_one, Nat.add_zero, show Addr.add ⟨g, 0, none⟩ j = ⟨g, j, none⟩ by cases j <;> simp [Addr.add]]
    exact this
theorem among_walk (t : Int) (g : Nat) (W : World) (h : W.heap[g]? = some (.cells #[.int .u16 0, .int .u16 1, .int .u16 2, .int .u16 3, .int .u16 11, .int .u16 12, .int .u16 13, .int .u16 14, .int .u16 15, .int .u16 16, .int .u16 20] 22 (0, 0))) :
    Calls Tryz.prog 5 #[.int .u16 t, .slice (some ⟨g, 0, none⟩) 11 11] W fun e w' => e = .returned (.bool (decide (t ∈ kinds))) ∧ Below W.heap.size W w' := by
  have hr : Kd.C (Kd.int .u16) W (some ⟨g, 0, none⟩) kinds.length kinds := row_of_block kinds (by decide) h
  refine (laws_among.calls 12 t (some ⟨g, 0, none⟩) 11 kinds (decide (t ∈ kinds)) W hr (by decide) ?_).mono (fun e w' k => ⟨k.1, k.2.below⟩)
  by_cases hm : t ∈ kinds
  · rw [among_mem t hm, decide_eq_true hm]
  · rw [among_not t hm, decide_eq_false hm]

/-- The header of the law's second half is read as it was written. -/
theorem read_back (s kx : Int) (hs : 0 ≤ s) (hs1 : s < 65536) (w : World) :
    Calls Tryz.prog 7 #[.string (strOfNums (hb 14 0 s)), .int .i64 kx] w fun e w' => e = .returned (.tuple #[.agg #[.int .u8 14, .int .u32 0, .int .u16 s, .int .u32 0, .int .u32 0], .agg m14, .bool true]) ∧ Below w.heap.size w w' := by
  have e0 := sb_own (hb 14 0 s) 0 (by simp)
  have e1 := sb_own (hb 14 0 s) 1 (by simp)
  have e2 := sb_own (hb 14 0 s) 2 (by simp)
  have e3 := sb_own (hb 14 0 s) 3 (by simp)
  have e4 := sb_own (hb 14 0 s) 4 (by simp)
  have e5 := sb_own (hb 14 0 s) 5 (by simp)
  have e6 := sb_own (hb 14 0 s) 6 (by simp)
  have e7 := sb_own (hb 14 0 s) 7 (by simp)
  have e8 := sb_own (hb 14 0 s) 8 (by simp)
  have e9 := sb_own (hb 14 0 s) 9 (by simp)
  have e10 := sb_own (hb 14 0 s) 10 (by simp)
  have e11 := sb_own (hb 14 0 s) 11 (by simp)
  simp only [hb, List.getD_cons_zero, List.getD_cons_succ] at e0 e1 e2 e3 e4 e5 e6 e7 e8 e9 e10 e11
  have hL : Lib.beNat [sb (strOfNums (hb 14 0 s)) 1, sb (strOfNums (hb 14 0 s)) 2, sb (strOfNums (hb 14 0 s)) 3] = 0 := by rw [e1, e2, e3]; exact be3 0 (by decide) (by decide)
  have hF : Lib.beNat [sb (strOfNums (hb 14 0 s)) 9, sb (strOfNums (hb 14 0 s)) 10, sb (strOfNums (hb 14 0 s)) 11] = 0 := by rw [e9, e10, e11]; exact be3 0 (by decide) (by decide)
  have hO : Lib.beNat [sb (strOfNums (hb 14 0 s)) 6, sb (strOfNums (hb 14 0 s)) 7, sb (strOfNums (hb 14 0 s)) 8] = 0 := by rw [e6, e7, e8]; rfl
  have hS : Lib.beNat [sb (strOfNums (hb 14 0 s)) 4, sb (strOfNums (hb 14 0 s)) 5] = s.toNat := by rw [e4, e5]; exact be2 s hs hs1
  have hK : (sb (strOfNums (hb 14 0 s)) 0).toNat = 14 := by rw [e0]; rfl
  refine (read_done _ kx w (strOfNums_size _) hL hF hK).mono ?_
  rintro e w' ⟨rfl, h⟩
  refine ⟨?_, h⟩
  rw [show hd5 (sb (strOfNums (hb 14 0 s))) = #[.int .u8 14, .int .u32 0, .int .u16 s, .int .u32 0, .int .u32 0] from ?_]
  unfold hd5
  rw [hL, hF, hO, hS, hK, Int.toNat_of_nonneg hs]
  rfl

/-- What is of no type is refused. -/
theorem read_not (t s kx : Int) (b : ByteArray) (tp : TypeId) (ep : Option Addr) (w : World) (hb1 : b.size ≤ 60000) (hE : w.cell? ⟨1, 0, none⟩ = some (.iface tp (.pointer ep)))
    (ht : 0 ≤ t) (ht1 : t < 256) (hk : t ∉ [0, 1, 2, 3, 11, 12, 13, 14, 15, 16, 20]) :
    Calls Tryz.prog 7 #[.string (strOfNums (hb t b.size s) ++ b), .int .i64 kx] w fun e w' => e = .returned (.tuple #[.agg hz, .agg mz, .bool false]) ∧ Below w.heap.size w w' := by
  have e0 := sb_app (hb t b.size s) b 0 (by simp)
  have e1 := sb_app (hb t b.size s) b 1 (by simp)
  have e2 := sb_app (hb t b.size s) b 2 (by simp)
  have e3 := sb_app (hb t b.size s) b 3 (by simp)
  have e9 := sb_app (hb t b.size s) b 9 (by simp)
  have e10 := sb_app (hb t b.size s) b 10 (by simp)
  have e11 := sb_app (hb t b.size s) b 11 (by simp)
  simp only [hb, List.getD_cons_zero, List.getD_cons_succ] at e0 e1 e2 e3 e9 e10 e11
  have hz : (strOfNums (hb t b.size s) ++ b).size = b.size + 12 := by rw [ByteArray.size_append, strOfNums_size]; simp; omega
  refine read_unk _ kx tp ep w (by omega) (by omega) hE ?_ ?_ ?_
  · rw [e1, e2, e3, hz, be3 _ (by omega) (by omega)]; omega
  · rw [e9, e10, e11, hz, be3 _ (by omega) (by omega)]; omega
  · intro k hk1 he
    rw [e0, of_nat _ ht1 ht] at he
    apply hk
    have : t = (k : Int) := by omega
    subst this
    simp only [List.mem_cons, List.not_mem_nil, or_false] at hk1 ⊢
    omega

set_option maxHeartbeats 16000000 in
set_option maxRecDepth 100000 in
theorem kind_walk (t s : Int) (b : ByteArray) (tp : TypeId) (ep : Option Addr) (w : World) (hE : w.cell? ⟨1, 0, none⟩ = some (.iface tp (.pointer ep)))
    (ht : 0 ≤ t) (ht1 : t < 256) (hs : 0 ≤ s) (hs1 : s < 65536) :
    Calls Tryz.prog 3 #[.int .u8 t, .int .u16 s, .string b] w fun e w' => e = .returned (.bool true) ∧ Below w.heap.size w w' := by
  go_enter Tryz.func3, Tryz.ntmps3
  go_wp2_with fail
  · refine bodyPost_ret (v := .bool true) (by simp [results, Tryz.results3, go_sem]) rfl ⟨rfl, Below.refl _ _⟩
  refine (among_walk t _ _ (heap_alloc_new _ _)).mono ?_
  rintro e w1 ⟨rfl, hb⟩
  have hB : Below w.heap.size w w1 := ((Below.refl _ _).alloc (Nat.le_refl _) _).trans (hb.mono (by simp))
  have hE1 := bcellv hB hE
  clear hb hE
  have HB := Lib.hid hB
  have HE := Lib.hid hE1
  clear hB hE1
  by_cases hm : t ∈ kinds
  · rw [decide_eq_true hm]
    go_wp2_with fail
    refine bodyPost_ret (v := .bool true) (by simp [results, Tryz.results3, go_sem]) rfl ⟨rfl, HB.out⟩
  rw [decide_eq_false hm]
  go_wp2_with fail
  · refine bodyPost_ret (v := .bool true) (by simp [results, Tryz.results3, go_sem]) rfl ⟨rfl, HB.out⟩
  rename_i hsz
  have hsz' : b.size ≤ 60000 := by omega
  have HW := hw t b.size s (by omega) (by omega) hs hs1
  have HR := fun W hE => read_not t s 0 b tp ep W hsz' hE ht ht1 hm
  have hS : (strOfNums (hb t b.size s)).size + b.size ≤ 100000 := by rw [strOfNums_size]; simp; omega
  generalize strOfNums (hb t b.size s) = S at HW HR hS
  have hS1 : (9223372036854775807 < S.size + b.size) = False := by simp; omega
  refine (HW _).mono ?_
  rintro e w2 ⟨rfl, hb2⟩
  have hg2 := bblk hb2 (heap_alloc_new _ _)
  have hl2 : w1.heap.size < w2.heap.size := blt hg2
  have HB2 := Lib.hid (HB.out.trans ((((Below.refl _ _).alloc (Nat.le_refl _) _).trans (hb2.mono (by simp))).mono HB.out.size))
  have HE2 := Lib.hid (bcellv hb2 (bcellv ((Below.refl _ _).alloc (Nat.le_refl _) _) HE.out))
  have HG2 := Lib.hid hg2
  have HL1 := Lib.hid HB.out.size
  clear hb2 hg2 HE HB HW
  go_wp2_with fail
  refine (HR _ HE2.out).mono ?_
  rintro e w3 ⟨rfl, hb3⟩
  have hg3 := bblk hb3 HG2.out
  have HB3 := Lib.hid (HB2.out.trans (hb3.mono HB2.out.size))
  clear HE2 HG2 HB2
  have hl3 : w1.heap.size < w3.heap.size := blt hg3
  have hA : ((w3.alloc (.cells hz 26)).alloc (.cells mz 36)).heap[w3.heap.size]? = some (.cells hz 26 (0, 0)) := bblk ((Below.refl _ _).alloc (Nat.le_refl _) _) (heap_alloc_new _ _)
  have hM : ((w3.alloc (.cells hz 26)).alloc (.cells mz 36)).heap[w3.heap.size + 1]? = some (.cells mz 36 (0, 0)) := by
    have h := heap_alloc_new (w3.alloc (.cells hz 26)) (.cells mz 36)
    rw [World.size_alloc] at h
    exact h
  have hG : ((w3.alloc (.cells hz 26)).alloc (.cells mz 36)).heap[w1.heap.size]? = _ := bblk ((Below.refl _ _).alloc (Nat.le_refl _) _) (bblk ((Below.refl _ _).alloc (Nat.le_refl _) _) hg3)
  have one14 : (#[.int .u8 14, .int .u32 0, .int .u16 s, .int .u32 0, .int .u32 0] : Array Value).all (·.oneCell') = true := by kernel_rfl
  obtain ⟨W4, hW4⟩ : ∃ W4 : World, W4 = ((w3.alloc (.cells hz 26)).alloc (.cells mz 36)).setRow w1.heap.size #[.int .u8 14, .int .u32 0, .int .u16 s, .int .u32 0, .int .u32 0] := ⟨_, rfl⟩
  have h4 : W4.heap[w1.heap.size]? = some (.cells #[.int .u8 14, .int .u32 0, .int .u16 s, .int .u32 0, .int .u32 0] 26 (0, 0)) := by rw [hW4]; exact setRow_heap _ _ _ _ _ _ hG
  have HB4 : Below w.heap.size w W4 := by rw [hW4]; exact below_setRow ((HB3.out.alloc HB3.out.size _).alloc (by have := HB3.out.size; simp; omega) _) HL1.out _
  have HW4 := Lib.hid hW4
  clear hW4
  go_wp2_with (first
    | (refine wpList_store_row (o := ⟨none, .store 26 (.tmp 10) (.tmp 47), _, _, _, _⟩) rfl 26 (.tmp 10) (.tmp 47) rfl w3.heap.size hz rfl rfl 26 hz hA (by kernel_rfl) rfl hz_one ?_; rw [setRow_self _ _ _ _ _ hA])
    | (refine wpList_store_row (o := ⟨none, .store 36 (.tmp 11) (.tmp 48), _, _, _, _⟩) rfl 36 (.tmp 11) (.tmp 48) rfl (w3.heap.size + 1) mz rfl rfl 36 mz hM (by kernel_rfl) rfl mz_one ?_; rw [setRow_self _ _ _ _ _ hM])
    | (refine wpList_store_row (o := ⟨none, .store 26 (.tmp 7) (.tmp 51), _, _, _, _⟩) rfl 26 (.tmp 7) (.tmp 51) rfl w1.heap.size #[.int .u8 14, .int .u32 0, .int .u16 s, .int .u32 0, .int .u32 0] rfl rfl 26 _ hG (by kernel_rfl) rfl one14 ?_; rw [← HW4.out])
    | (refine wpList_load_row (o := ⟨_, .load 26 (.tmp 7), _, _, _, _⟩) rfl 26 (.tmp 7) rfl w1.heap.size rfl 26 _ (0, 0) _ h4 Tryz.underlying26 rfl (by kernel_rfl) ?_)
    | fail)
  clear hA hM hG HW4 hg3 hb3 HB3 hl3 hl2 HR hS hS1
  have S14 := hw 14 0 s (by decide) (by decide) hs hs1
  have R14 := read_back s 0 hs hs1
  generalize strOfNums (hb 14 0 s) = S2 at S14 R14
  refine (S14 _).mono ?_
  rintro e w5 ⟨rfl, hb5⟩
  have hg5 := bblk hb5 h4
  have HB5 := Lib.hid (HB4.trans (hb5.mono HB4.size))
  have HG5 := Lib.hid hg5
  clear hg5 hb5 h4 HB4
  go_wp2_with fail
  refine (R14 _).mono ?_
  rintro e w6 ⟨rfl, hb6⟩
  have hg6 := bblk hb6 HG5.out
  have HB6 := Lib.hid (HB5.out.trans (hb6.mono HB5.out.size))
  have hl6 : w1.heap.size < w6.heap.size := blt hg6
  have hA : ((w6.alloc (.cells hz 26)).alloc (.cells mz 36)).heap[w6.heap.size]? = some (.cells hz 26 (0, 0)) := bblk ((Below.refl _ _).alloc (Nat.le_refl _) _) (heap_alloc_new _ _)
  have hM : ((w6.alloc (.cells hz 26)).alloc (.cells mz 36)).heap[w6.heap.size + 1]? = some (.cells mz 36 (0, 0)) := by
    have h := heap_alloc_new (w6.alloc (.cells hz 26)) (.cells mz 36)
    rw [World.size_alloc] at h
    exact h
  have hG : ((w6.alloc (.cells hz 26)).alloc (.cells mz 36)).heap[w1.heap.size]? = _ := bblk ((Below.refl _ _).alloc (Nat.le_refl _) _) (bblk ((Below.refl _ _).alloc (Nat.le_refl _) _) hg6)
  obtain ⟨W7, hW7⟩ : ∃ W7 : World, W7 = ((w6.alloc (.cells hz 26)).alloc (.cells mz 36)).setRow w6.heap.size #[.int .u8 14, .int .u32 0, .int .u16 s, .int .u32 0, .int .u32 0] := ⟨_, rfl⟩
  have h7 : W7.heap[w6.heap.size]? = some (.cells #[.int .u8 14, .int .u32 0, .int .u16 s, .int .u32 0, .int .u32 0] 26 (0, 0)) := by rw [hW7]; exact setRow_heap _ _ _ _ _ _ hA
  have h7m : W7.heap[w6.heap.size + 1]? = some (.cells mz 36 (0, 0)) := by rw [hW7]; exact (setRow_other _ _ _ _ (by omega)).trans hM
  have h7g : W7.heap[w1.heap.size]? = some (.cells #[.int .u8 14, .int .u32 0, .int .u16 s, .int .u32 0, .int .u32 0] 26 (0, 0)) := by rw [hW7]; exact (setRow_other _ _ _ _ (by omega)).trans hG
  have HB7 : Below w.heap.size w W7 := by rw [hW7]; exact below_setRow ((HB6.out.alloc HB6.out.size _).alloc (by have := HB6.out.size; simp; omega) _) HB6.out.size _
  obtain ⟨W8, hW8⟩ : ∃ W8 : World, W8 = W7.setRow (w6.heap.size + 1) m14 := ⟨_, rfl⟩
  have h8 : W8.heap[w6.heap.size]? = some (.cells #[.int .u8 14, .int .u32 0, .int .u16 s, .int .u32 0, .int .u32 0] 26 (0, 0)) := by rw [hW8]; exact (setRow_other _ _ _ _ (by omega)).trans h7
  have h8g : W8.heap[w1.heap.size]? = some (.cells #[.int .u8 14, .int .u32 0, .int .u16 s, .int .u32 0, .int .u32 0] 26 (0, 0)) := by rw [hW8]; exact (setRow_other _ _ _ _ (by omega)).trans h7g
  have HB8 := Lib.hid (show Below w.heap.size w W8 by rw [hW8]; exact below_setRow HB7 (by have := HB6.out.size; omega) _)
  have k0 := (bcell h8 0).trans rfl
  have k1 := (bcell h8 1).trans rfl
  have k2 := (bcell h8 2).trans rfl
  have k3 := (bcell h8 3).trans rfl
  have k4 := (bcell h8 4).trans rfl
  have j0 := (bcell h8g 0).trans rfl
  have j1 := (bcell h8g 1).trans rfl
  have j2 := (bcell h8g 2).trans rfl
  have j3 := (bcell h8g 3).trans rfl
  have j4 := (bcell h8g 4).trans rfl
  have HW7 := Lib.hid hW7
  have HW8 := Lib.hid hW8
  clear hW7 hW8 h8 h8g h7 h7g hG hg6 HG5 HB5 hb6 HB6 HB7
  go_wp2_with (first
    | (refine wpList_store_row (o := ⟨none, .store 26 (.tmp 13) (.tmp 60), _, _, _, _⟩) rfl 26 (.tmp 13) (.tmp 60) rfl w6.heap.size #[.int .u8 14, .int .u32 0, .int .u16 s, .int .u32 0, .int .u32 0] rfl rfl 26 hz hA (by kernel_rfl) rfl one14 ?_; rw [← HW7.out])
    | (refine wpList_store_row (o := ⟨none, .store 36 (.tmp 14) (.tmp 61), _, _, _, _⟩) rfl 36 (.tmp 14) (.tmp 61) rfl (w6.heap.size + 1) m14 rfl rfl 36 mz h7m (by kernel_rfl) rfl m14_one ?_; rw [← HW8.out])
    | fail)
  refine bodyPost_ret (v := .bool true) (by simp [results, Tryz.results3, go_sem]) rfl ⟨rfl, HB8.out⟩
end Go.Proofs.YtkagkopjhgnnlaaGreatDoor
