/- laws.FnHandshakeLength of a header that tells another length, walked. -/
import Derived.Test.YtkagkopjhgnnlaaGreatDoorLenAux
namespace Go.Proofs.YtkagkopjhgnnlaaGreatDoor
open Go.RowKit Go.Proofs.YtkagkopjhgnnlaaGreatDoorW.PrintWords Go.Proofs.YtkagkopjhgnnlaaGreatDoorW.PrintLast Go.Proofs.YtkagkopjhgnnlaaGreatDoorW.PrintMore Go.Proofs.YtkagkopjhgnnlaaGreatDoor.PFnHandshakeKind

set_option maxHeartbeats 16000000 in
set_option maxRecDepth 100000 in
theorem len_other (t l s o f : Int) (c : ByteArray) (tp : TypeId) (ep : Option Addr) (w : World) (hE : w.cell? ⟨0, 0, none⟩ = some (.iface tp (.pointer ep))) (hc : c.size ≤ 255)
    (hl : 0 ≤ l) (hl1 : l < 4294967296) (hf : 0 ≤ f) (hf1 : f < 4294967296) (hs : 0 ≤ s) (hs1 : s < 65536)
    (hX : ¬ (l % 16777216 = (vb c).size ∧ f % 16777216 = (vb c).size)) :
    Calls Tryz.prog 4 #[.agg #[.int .u8 t, .int .u32 l, .int .u16 s, .int .u32 o, .int .u32 f], .string c] w fun e w' => e = .returned (.bool true) ∧ Below w.heap.size w w' := by
  have HB0 := Lib.hid (show Below w.heap.size w (w.alloc (.cells #[.int .u8 t, .int .u32 l, .int .u16 s, .int .u32 o, .int .u32 f] 26)) from (Below.refl _ _).alloc (Nat.le_refl _) _)
  have HE := Lib.hid hE
  clear hE
  have hc1 : ¬ ((c.size : Int) > 2147483647) := by omega
  have hc2 : ¬ ((c.size : Int) > 255) := by omega
  have hw8 : IntKind.u8.wrap (c.size : Int) = c.size := by simp [IntKind.wrap, IntKind.signed, IntKind.bits]; omega
  have hsum : (9223372036854775807 < 2 + (strOfNums [(c.size : Int)]).size + c.size) = False := by rw [strOfNums_size]; simp; omega
  have hcv := conv_one c.size (w.heap.size + 1) ((w.alloc (.cells #[.int .u8 t, .int .u32 l, .int .u16 s, .int .u32 o, .int .u32 f] 26)).alloc (.cells #[.int .u8 c.size] 5)) (by have h := heap_alloc_new (w.alloc (.cells #[.int .u8 t, .int .u32 l, .int .u16 s, .int .u32 o, .int .u32 f] 26)) (.cells #[.int .u8 c.size] 5); rwa [World.size_alloc] at h) (by omega) (by omega)
  have ml := mask24 l hl hl1
  have mf := mask24 f hf hf1
  have WL := hw4 3 (l % 16777216) s (f % 16777216) (by omega) (by omega) hs hs1 (by omega) (by omega)
  have RB := fun kx W hE hX => rd_bad (l % 16777216) (f % 16777216) s kx c tp ep W hc hE (by omega) (by omega) (by omega) (by omega) hX
  have RO := fun kx W => rd_ok s kx c W hc hs hs1
  have WN := hw4 3 (vb c).size s (vb c).size (by omega) (by rw [vb_size]; omega) hs hs1 (by omega) (by rw [vb_size]; omega)
  have hn := vb_size c
  have hS1 : (strOfNums (hb4 3 (l % 16777216) s (f % 16777216))).size = 12 := strOfNums_size _
  have hS2 : (strOfNums (hb4 3 (vb c).size s (vb c).size)).size = 12 := strOfNums_size _
  have bl : 0 ≤ l % 16777216 ∧ l % 16777216 < 16777216 := by omega
  have bf : 0 ≤ f % 16777216 ∧ f % 16777216 < 16777216 := by omega
  generalize l % 16777216 = lm at *
  generalize f % 16777216 = fm at *
  have HX := Lib.hid hX
  clear hX
  go_enter Tryz.func4, Tryz.ntmps4
  go_wp2_with fail
  clear hcv hw8 hsum ml mf
  have hX := HX.out
  clear HX
  simp only [vb] at RB RO WN hn hS2 hX
  generalize ({ data := #[254, 253] } : ByteArray) ++ strOfNums [(c.size : Int)] ++ c = B at *
  have hwB : IntKind.i64.wrap (B.size : Int) = B.size := by rw [IntKind.wrap_i64]; omega
  have hwU : IntKind.u32.wrap (B.size : Int) = B.size := by rw [IntKind.wrap_u32]; omega
  have hwl : IntKind.i64.wrap lm = lm := by rw [IntKind.wrap_i64]; omega
  have hwf : IntKind.i64.wrap fm = fm := by rw [IntKind.wrap_i64]; omega
  have HN := Lib.hid hn
  have HS1 := Lib.hid hS1
  have HS2 := Lib.hid hS2
  clear hn hS1 hS2
  refine (WL _).mono ?_
  rintro e w2 ⟨rfl, hb2⟩
  have hg2 := bblk hb2 (bblk ((Below.refl _ _).alloc (Nat.le_refl _) _) (heap_alloc_new w (.cells (hc5 lm s fm) 26)))
  have HB2 := Lib.hid ((((Below.refl w.heap.size w).alloc (Nat.le_refl _) (.cells (hc5 lm s fm) 26)).alloc (by simp) (.cells #[.int .u8 c.size] 5)).trans (hb2.mono (by simp; omega)))
  have HE2 := Lib.hid (bcellv HB2.out HE.out)
  have HG2 := Lib.hid hg2
  clear hb2 hg2 HE WL HB0
  have hS : (9223372036854775807 < (strOfNums (hb4 3 lm s fm)).size + B.size) = False := by rw [HS1.out, HN.out]; simp; omega
  have hT : (9223372036854775807 < (strOfNums (hb4 3 (B.size : Int) s (B.size : Int))).size + B.size) = False := by rw [HS2.out, HN.out]; simp; omega
  have RB0 := fun W hE => RB 0 W hE hX
  have RO0 := RO 0
  have hcond : (lm != (B.size : Int)) = true ∨ ((lm != (B.size : Int)) = false ∧ (fm != (B.size : Int)) = true) := by
    by_cases h : lm = B.size
    · exact .inr ⟨by rw [bne_eq_false_iff_eq]; exact h, by rw [bne_iff_ne]; exact fun h2 => hX ⟨h, h2⟩⟩
    · exact .inl (by rw [bne_iff_ne]; exact h)
  generalize strOfNums (hb4 3 (B.size : Int) s (B.size : Int)) = T at *
  generalize strOfNums (hb4 3 lm s fm) = S at *
  have HC := Lib.hid hcond
  clear RB RO HS1 HS2 HN hX hcond
  go_wp2_with fail
  refine (RB0 _ HE2.out).mono ?_
  rintro e w3 ⟨rfl, hb3⟩
  obtain ⟨W1, W2, HW1, HW2, A0, A1, AM, AR, AB, AC⟩ := laid2 hz mz (HB2.out.trans (hb3.mono HB2.out.size)) (bblk hb3 HG2.out)
  have k1 : W2.cell? ⟨w.heap.size, 1, none⟩ = some (.int .u32 lm) := (bcell AR.out 1).trans rfl
  have k4 : W2.cell? ⟨w.heap.size, 4, none⟩ = some (.int .u32 fm) := (bcell AR.out 4).trans rfl
  have f1 := bfrozen AR.out 1
  have f4 := bfrozen AR.out 4
  have hL : ((W2.setCell ⟨w.heap.size, 1, none⟩ (.int .u32 B.size)).setCell ⟨w.heap.size, 4, none⟩ (.int .u32 B.size)).heap[w.heap.size]? = some (.cells (hc5 B.size s B.size) 26 (0, 0)) :=
    (bset (bset AR.out 1 (.int .u32 B.size)) 4 (.int .u32 B.size)).trans rfl
  have HBX := Lib.hid ((AB.out.setCell (p := ⟨w.heap.size, 1, none⟩) (Nat.le_refl _) (.int .u32 B.size)).setCell (p := ⟨w.heap.size, 4, none⟩) (Nat.le_refl _) (.int .u32 B.size))
  have one := hz_one
  have one3 := mz_one
  clear RB0 hb3 HB2 HG2 HE2
  rcases HC.out with t1 | ⟨t1, t2⟩
  all_goals
    clear HC
    go_wp2_with (first
      | (with_reducible refine wpList_store_row (o := ⟨none, .store 26 (.tmp 8) (.tmp 48), _, _, _, _⟩) (by kernel_rfl) 26 (.tmp 8) (.tmp 48) (by kernel_rfl) w3.heap.size hz (by kernel_rfl) (by kernel_rfl) 26 hz A0.out (by kernel_rfl) (by kernel_rfl) one ?_; rw [← HW1.out])
      | (with_reducible refine wpList_store_row (o := ⟨none, .store 36 (.tmp 9) (.tmp 49), _, _, _, _⟩) (by kernel_rfl) 36 (.tmp 9) (.tmp 49) (by kernel_rfl) (w3.heap.size + 1) mz (by kernel_rfl) (by kernel_rfl) 36 mz A1.out (by kernel_rfl) (by kernel_rfl) one3 ?_; rw [← HW2.out])
      | (with_reducible refine wpList_load_row (o := ⟨_, .load 26 (.tmp 2), _, _, _, _⟩) (by kernel_rfl) 26 (.tmp 2) (by kernel_rfl) w.heap.size (by kernel_rfl) 26 _ (0, 0) _ hL Tryz.underlying26 (by kernel_rfl) (by kernel_rfl) ?_)
      | fail)
    refine (WN _).mono ?_
    rintro e w4 ⟨rfl, hb4⟩
    have HG4 := Lib.hid (bblk hb4 hL)
    have HB4 := Lib.hid (HBX.out.trans (hb4.mono HBX.out.size))
    clear k1 k4 f1 f4 hL hb4
    go_wp2_with fail
    refine (RO0 _).mono ?_
    rintro e w5 ⟨rfl, hb5⟩
    obtain ⟨X1, X2, HX1, HX2, B0, B1, BM, BR, BB, BC⟩ := laid2 (hc5 B.size s B.size) (m3 254 253 c) (HB4.out.trans (hb5.mono HB4.out.size)) (bblk hb5 HG4.out)
    have onf := hc5_one B.size s B.size
    have one4 := m3_one 254 253 c
    go_wp2_with (first
      | (with_reducible refine wpList_store_row (o := ⟨none, .store 26 (.tmp 11) (.tmp 83), _, _, _, _⟩) (by kernel_rfl) 26 (.tmp 11) (.tmp 83) (by kernel_rfl) w5.heap.size (hc5 B.size s B.size) (by kernel_rfl) (by kernel_rfl) 26 hz B0.out (by kernel_rfl) (by kernel_rfl) onf ?_; rw [← HX1.out])
      | (with_reducible refine wpList_store_row (o := ⟨none, .store 36 (.tmp 12) (.tmp 84), _, _, _, _⟩) (by kernel_rfl) 36 (.tmp 12) (.tmp 84) (by kernel_rfl) (w5.heap.size + 1) (m3 254 253 c) (by kernel_rfl) (by kernel_rfl) 36 mz B1.out (by kernel_rfl) (by kernel_rfl) one4 ?_; rw [← HX2.out])
      | fail)
    refine bodyPost_ret (v := .bool true) (by simp [results, Tryz.results4, go_sem]) rfl ⟨rfl, BB.out⟩
end Go.Proofs.YtkagkopjhgnnlaaGreatDoor
