/- laws.FnHandshakeLength of a header that tells the length of what follows, walked. -/
import Derived.Test.YtkagkopjhgnnlaaGreatDoorLenAux
namespace Go.Proofs.YtkagkopjhgnnlaaGreatDoor
open Go.RowKit Go.Proofs.YtkagkopjhgnnlaaGreatDoorW.PrintWords Go.Proofs.YtkagkopjhgnnlaaGreatDoorW.PrintLast Go.Proofs.YtkagkopjhgnnlaaGreatDoorW.PrintMore Go.Proofs.YtkagkopjhgnnlaaGreatDoor.PFnHandshakeKind

set_option maxHeartbeats 16000000 in
set_option maxRecDepth 100000 in
theorem len_same (t l s o f : Int) (c : ByteArray) (tp : TypeId) (ep : Option Addr) (w : World) (hE : w.cell? ⟨0, 0, none⟩ = some (.iface tp (.pointer ep))) (hc : c.size ≤ 255)
    (hl : 0 ≤ l) (hl1 : l < 4294967296) (hf : 0 ≤ f) (hf1 : f < 4294967296) (hs : 0 ≤ s) (hs1 : s < 65536)
    (hX : l % 16777216 = (vb c).size ∧ f % 16777216 = (vb c).size) :
    Calls Tryz.prog 4 #[.agg #[.int .u8 t, .int .u32 l, .int .u16 s, .int .u32 o, .int .u32 f], .string c] w fun e w' => e = .returned (.bool true) ∧ Below w.heap.size w w' := by
  have HB0 := Lib.hid (show Below w.heap.size w (w.alloc (.cells #[.int .u8 t, .int .u32 l, .int .u16 s, .int .u32 o, .int .u32 f] 26)) from (Below.refl _ _).alloc (Nat.le_refl _) _)
  have HE := Lib.hid hE
  clear hE
  have hc1 : ¬ ((c.size : Int) > 2147483647) := by omega
  have hc2 : ¬ ((c.size : Int) > 255) := by omega
  have hw8 : IntKind.u8.wrap (c.size : Int) = c.size := by simp [IntKind.wrap, IntKind.signed, IntKind.bits]; omega
  have hsum : (9223372036854775807 < 2 + (strOfNums [(c.size : Int)]).size + c.size) = False := by rw [strOfNums_size]; simp; omega
  have hcv := conv_one c.size (w.heap.size + 1) ((w.alloc (.cells #[.int .u8 t, .int .u32 l, .int .u16 s, .int .u32 o, .int .u32 f] 26)).alloc (.cells #[.int .u8 c.size] 5)) (by have h := heap_alloc_new (w.alloc (.cells #[.int .u8 t, .int .u32 l, .int .u16 s, .int .u32 o, .int .u32 f] 26)) (.cells #[.int .u8 c.size] 5); rwa [World.size_alloc] at h) (by omega) (by omega)
  have ml := mask24 l hl hl1
  have mf := mask24 f hf hf1
  have WL := hw4 3 (l % 16777216) s (f % 16777216) (by omega) (by omega) hs hs1 (by omega) (by omega)
  have RB := fun kx W hE hX => rd_bad (l % 16777216) (f % 16777216) s kx c tp ep W hc hE (by omega) (by omega) (by omega) (by omega) hX
  have RO := fun kx W => rd_ok s kx c W hc hs hs1
  have WN := hw4 3 (vb c).size s (vb c).size (by omega) (by rw [vb_size]; omega) hs hs1 (by omega) (by rw [vb_size]; omega)
  have hn := vb_size c
  have hS1 : (strOfNums (hb4 3 (l % 16777216) s (f % 16777216))).size = 12 := strOfNums_size _
  have hS2 : (strOfNums (hb4 3 (vb c).size s (vb c).size)).size = 12 := strOfNums_size _
  have bl : 0 ≤ l % 16777216 ∧ l % 16777216 < 16777216 := by omega
  have bf : 0 ≤ f % 16777216 ∧ f % 16777216 < 16777216 := by omega
  generalize l % 16777216 = lm at *
  generalize f % 16777216 = fm at *
  have HX := Lib.hid hX
  clear hX
  go_enter Tryz.func4, Tryz.ntmps4
  go_wp2_with fail
  clear hcv hw8 hsum ml mf
  have hX := HX.out
  clear HX
  simp only [vb] at RB RO WN hn hS2 hX
  generalize ({ data := #[254, 253] } : ByteArray) ++ strOfNums [(c.size : Int)] ++ c = B at *
  have hwB : IntKind.i64.wrap (B.size : Int) = B.size := by rw [IntKind.wrap_i64]; omega
  have hwU : IntKind.u32.wrap (B.size : Int) = B.size := by rw [IntKind.wrap_u32]; omega
  have hwl : IntKind.i64.wrap lm = lm := by rw [IntKind.wrap_i64]; omega
  have hwf : IntKind.i64.wrap fm = fm := by rw [IntKind.wrap_i64]; omega
  have HN := Lib.hid hn
  have HS1 := Lib.hid hS1
  have HS2 := Lib.hid hS2
  clear hn hS1 hS2
  refine (WL _).mono ?_
  rintro e w2 ⟨rfl, hb2⟩
  have hg2 := bblk hb2 (bblk ((Below.refl _ _).alloc (Nat.le_refl _) _) (heap_alloc_new w (.cells (hc5 lm s fm) 26)))
  have HB2 := Lib.hid ((((Below.refl w.heap.size w).alloc (Nat.le_refl _) (.cells (hc5 lm s fm) 26)).alloc (by simp) (.cells #[.int .u8 c.size] 5)).trans (hb2.mono (by simp; omega)))
  have HE2 := Lib.hid (bcellv HB2.out HE.out)
  have HG2 := Lib.hid hg2
  clear hb2 hg2 HE WL HB0
  obtain ⟨rfl, rfl⟩ := hX
  have hS : (9223372036854775807 < (strOfNums (hb4 3 (B.size : Int) s (B.size : Int))).size + B.size) = False := by rw [HS2.out, HN.out]; simp; omega
  have RO0 := RO 0
  generalize strOfNums (hb4 3 (B.size : Int) s (B.size : Int)) = S at *
  clear RB RO WN HS1 HS2 HN
  go_wp2_with fail
  refine (RO0 _).mono ?_
  rintro e w3 ⟨rfl, hb3⟩
  obtain ⟨W1, W2, HW1, HW2, A0, A1, AM, AR, AB, AC⟩ := laid2 (hc5 B.size s B.size) (m3 254 253 c) (HB2.out.trans (hb3.mono HB2.out.size)) (bblk hb3 HG2.out)
  have k1 : W2.cell? ⟨w.heap.size, 1, none⟩ = some (.int .u32 B.size) := (bcell AR.out 1).trans rfl
  have k4 : W2.cell? ⟨w.heap.size, 4, none⟩ = some (.int .u32 B.size) := (bcell AR.out 4).trans rfl
  have k6 : W2.cell? ⟨w3.heap.size + 1, 6, none⟩ = some (.string c) := (bcell AM.out 6).trans rfl
  have one := hc5_one B.size s B.size
  have one3 := m3_one 254 253 c
  clear RO0 hb3 HB2 HG2 HE2
  go_wp2_with (first
    | (with_reducible refine wpList_store_row (o := ⟨none, .store 26 (.tmp 8) (.tmp 48), _, _, _, _⟩) (by kernel_rfl) 26 (.tmp 8) (.tmp 48) (by kernel_rfl) w3.heap.size (hc5 B.size s B.size) (by kernel_rfl) (by kernel_rfl) 26 hz A0.out (by kernel_rfl) (by kernel_rfl) one ?_; rw [← HW1.out])
    | (with_reducible refine wpList_store_row (o := ⟨none, .store 36 (.tmp 9) (.tmp 49), _, _, _, _⟩) (by kernel_rfl) 36 (.tmp 9) (.tmp 49) (by kernel_rfl) (w3.heap.size + 1) (m3 254 253 c) (by kernel_rfl) (by kernel_rfl) 36 mz A1.out (by kernel_rfl) (by kernel_rfl) one3 ?_; rw [← HW2.out])
    | fail)
  refine bodyPost_ret (v := .bool true) (by simp [results, Tryz.results4, go_sem]) rfl ⟨rfl, AB.out⟩
end Go.Proofs.YtkagkopjhgnnlaaGreatDoor
