/- What impl.HandshakeRead answers of the law's two texts. -/
import Derived.Test.YtkagkopjhgnnlaaGreatDoorLenPure
import Derived.Test.YtkagkopjhgnnlaaGreatDoorBad
import Derived.Test.YtkagkopjhgnnlaaGreatDoorReadHvr
import Derived.Laws.BitsLemmas
namespace Go.Proofs.YtkagkopjhgnnlaaGreatDoor
open Go.RowKit Go.Proofs.YtkagkopjhgnnlaaGreatDoorW.PrintWords Go.Proofs.YtkagkopjhgnnlaaGreatDoorW.PrintLast Go.Proofs.YtkagkopjhgnnlaaGreatDoorW.PrintMore Go.Proofs.YtkagkopjhgnnlaaGreatDoor.PFnHandshakeKind

theorem conv_one (k : Int) (g : Nat) (W : World) (h : W.heap[g]? = some (.cells #[.int .u8 k] 5 (0, 0))) (h0 : 0 ≤ k) (h1 : k < 256) : (convert 30 9 (.slice (some ⟨g, 0, none⟩) 1 1)).run Tryz.prog W = .ok (.string (strOfNums [k])) W :=
  conv_row W g [UInt8.ofNat k.toNat] (strOfNums [k]) (by simp [strOfNums]) (by simp only [rowb, List.map_cons, List.map_nil]; rw [of_nat k h1 h0, Int.toNat_of_nonneg h0]; exact h)
theorem mask24 (l : Int) (h0 : 0 ≤ l) (h1 : l < 4294967296) : bits .and .u32 l 16777215 = l % 16777216 := by
  have h := bits_mask .u32 32 (by decide) (fun n h0 h1 => by rw [IntKind.wrap_u32]; omega) 24 (by decide) l h0 (by omega)
  have e : ((2 : Int) ^ 24 - 1) = 16777215 := by decide
  have e2 : ((2 : Int) ^ 24) = 16777216 := by decide
  rw [e, e2] at h
  exact h

/-- A HelloVerifyRequest's body. -/
abbrev vb (c : ByteArray) : ByteArray := ({ data := #[254, 253] } : ByteArray) ++ strOfNums [(c.size : Int)] ++ c
theorem vb_size (c : ByteArray) : (vb c).size = 3 + c.size := by
  rw [ByteArray.size_append, ByteArray.size_append, strOfNums_size]
  show 2 + 1 + c.size = 3 + c.size
  omega
theorem vb_whole (l s f : Int) (c : ByteArray) : strOfNums (hb4 3 l s f) ++ vb c = strOfNums (hb5 3 l s f c.size) ++ c :=
  (show _ = strOfNums (hb4 3 l s f) ++ (strOfNums [254, 253] ++ strOfNums [(c.size : Int)] ++ c) from rfl).trans (whole 3 l s f c.size c)

theorem rd_bad (l f s kx : Int) (c : ByteArray) (tp : TypeId) (ep : Option Addr) (W : World) (hc : c.size ≤ 255) (hE : W.cell? ⟨0, 0, none⟩ = some (.iface tp (.pointer ep)))
    (hl : 0 ≤ l) (hl1 : l < 16777216) (hf : 0 ≤ f) (hf1 : f < 16777216) (hX : ¬ (l = (vb c).size ∧ f = (vb c).size)) :
    Calls Tryz.prog 7 #[.string (strOfNums (hb4 3 l s f) ++ vb c), .int .i64 kx] W fun e w' => e = .returned (.tuple #[.agg hz, .agg mz, .bool false]) ∧ Below W.heap.size W w' := by
  rw [vb_size] at hX
  rw [vb_whole]
  have hsz : (strOfNums (hb5 3 l s f c.size) ++ c).size = 15 + c.size := by rw [ByteArray.size_append, strOfNums_size]; rfl
  have e1 := sb_app (hb5 3 l s f c.size) c 1 (by simp)
  have e2 := sb_app (hb5 3 l s f c.size) c 2 (by simp)
  have e3 := sb_app (hb5 3 l s f c.size) c 3 (by simp)
  have e9 := sb_app (hb5 3 l s f c.size) c 9 (by simp)
  have e10 := sb_app (hb5 3 l s f c.size) c 10 (by simp)
  have e11 := sb_app (hb5 3 l s f c.size) c 11 (by simp)
  simp only [hb5, List.getD_cons_zero, List.getD_cons_succ] at e1 e2 e3 e9 e10 e11
  refine read_bad _ kx tp ep W (by omega) (by omega) hE ?_
  rw [e1, e2, e3, e9, e10, e11, hsz, be3 l hl hl1, be3 f hf hf1]
  omega

theorem rd_ok (s kx : Int) (c : ByteArray) (W : World) (hc : c.size ≤ 255) (hs : 0 ≤ s) (hs1 : s < 65536) :
    Calls Tryz.prog 7 #[.string (strOfNums (hb4 3 (vb c).size s (vb c).size) ++ vb c), .int .i64 kx] W fun e w' => e = .returned (.tuple #[.agg #[.int .u8 3, .int .u32 (vb c).size, .int .u16 s, .int .u32 0, .int .u32 (vb c).size], .agg (m3 254 253 c), .bool true]) ∧ Below W.heap.size W w' := by
  have hn := vb_size c
  rw [vb_whole]
  generalize (vb c).size = n at hn
  have hsz : (strOfNums (hb5 3 n s n c.size) ++ c).size = 15 + c.size := by rw [ByteArray.size_append, strOfNums_size]; rfl
  have e0 := sb_app (hb5 3 n s n c.size) c 0 (by simp)
  have e1 := sb_app (hb5 3 n s n c.size) c 1 (by simp)
  have e2 := sb_app (hb5 3 n s n c.size) c 2 (by simp)
  have e3 := sb_app (hb5 3 n s n c.size) c 3 (by simp)
  have e4 := sb_app (hb5 3 n s n c.size) c 4 (by simp)
  have e5 := sb_app (hb5 3 n s n c.size) c 5 (by simp)
  have e6 := sb_app (hb5 3 n s n c.size) c 6 (by simp)
  have e7 := sb_app (hb5 3 n s n c.size) c 7 (by simp)
  have e8 := sb_app (hb5 3 n s n c.size) c 8 (by simp)
  have e9 := sb_app (hb5 3 n s n c.size) c 9 (by simp)
  have e10 := sb_app (hb5 3 n s n c.size) c 10 (by simp)
  have e11 := sb_app (hb5 3 n s n c.size) c 11 (by simp)
  have e12 := sb_app (hb5 3 n s n c.size) c 12 (by simp)
  have e13 := sb_app (hb5 3 n s n c.size) c 13 (by simp)
  have e14 := sb_app (hb5 3 n s n c.size) c 14 (by simp)
  have hck := cookie_of 3 n s n c.size c
  simp only [hb5, List.getD_cons_zero, List.getD_cons_succ] at e0 e1 e2 e3 e4 e5 e6 e7 e8 e9 e10 e11 e12 e13 e14 hck hsz ⊢
  generalize strOfNums _ ++ c = S at *
  have hL : Lib.beNat [sb S 1, sb S 2, sb S 3] = n := by rw [e1, e2, e3, be3 n (by omega) (by omega)]; omega
  have hF : Lib.beNat [sb S 9, sb S 10, sb S 11] = n := by rw [e9, e10, e11, be3 n (by omega) (by omega)]; omega
  have hO : Lib.beNat [sb S 6, sb S 7, sb S 8] = 0 := by rw [e6, e7, e8]; rfl
  have hS : Lib.beNat [sb S 4, sb S 5] = s.toNat := by rw [e4, e5]; exact be2 s hs hs1
  have hK : (sb S 0).toNat = 3 := by rw [e0]; rfl
  have h12 : (sb S 12).toNat = 254 := by rw [e12]; rfl
  have h13 : (sb S 13).toNat = 253 := by rw [e13]; rfl
  have h14 : (sb S 14).toNat = c.size := by rw [e14, of_nat _ (by omega) (by omega)]; omega
  refine (read_hvr S c kx c.size W hsz (by omega) (by omega) hK h14 hc hck).mono ?_
  rintro e w' ⟨rfl, h⟩
  refine ⟨?_, h⟩
  rw [show hd5 (sb S) = #[.int .u8 3, .int .u32 n, .int .u16 s, .int .u32 0, .int .u32 n] from ?_, show mh S c = m3 254 253 c from ?_]
  · unfold mh
    rw [h12, h13]
    rfl
  · unfold hd5
    rw [hL, hF, hO, hS, hK, Int.toNat_of_nonneg hs]
    rfl
end Go.Proofs.YtkagkopjhgnnlaaGreatDoor
