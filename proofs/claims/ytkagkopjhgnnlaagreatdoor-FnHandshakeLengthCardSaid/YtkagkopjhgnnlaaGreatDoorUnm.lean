/- handshake.Handshake.Unmarshal. -/
import Derived.Test.YtkagkopjhgnnlaaGreatDoorHdr
namespace Go.Proofs.YtkagkopjhgnnlaaGreatDoor
open Go.RowKit

/-- The header's five cells as they are read. -/
abbrev hcells (d : Nat → UInt8) (x5 x6 : Value) : Array Value := #[.int .u8 (d 0).toNat, .int .u32 (Lib.beNat [d 1, d 2, d 3]), .int .u16 (Lib.beNat [d 4, d 5]), .int .u32 (Lib.beNat [d 6, d 7, d 8]), .int .u32 (Lib.beNat [d 9, d 10, d 11]), x5, x6]

set_option maxHeartbeats 1000000 in
set_option maxRecDepth 100000 in
/-- A message of a type that is none. -/
theorem unm_unk (g b n c : Nat) (d : Nat → UInt8) (x0 x1 x2 x3 x4 x5 x6 : Value) (tp : TypeId) (ep : Option Addr) (w0 w : World) (hn : 12 ≤ n) (hc : n ≤ c) (hm : n ≤ 1000000) (H : Hs 50 g b n d w0 w #[x0, x1, x2, x3, x4, x5, x6])
    (hE : w0.cell? ⟨1, 0, none⟩ = some (.iface tp (.pointer ep))) (hg1 : g ≠ 1) (hL : Lib.beNat [d 1, d 2, d 3] = n - 12) (hF : Lib.beNat [d 9, d 10, d 11] = n - 12)
    (hk : ∀ k, k ∈ [0, 1, 2, 3, 11, 12, 13, 14, 15, 16, 20] → (d 0).toNat ≠ k) :
    Calls Tryz.prog 9 #[.pointer (some ⟨g, 0, none⟩), .slice (some ⟨b, 0, none⟩) n c] w fun e w' => e = .returned (.iface tp (.pointer ep)) ∧ Hs 50 g b n d w0 w' (hcells d x5 x6) := by
  have hm' : (n : Int) ≤ 1000000 := by omega
  have hc1 : ¬ c = 1 := by omega
  have hi0 : (0 : Int) < (n : Int) := by omega
  go_enter Tryz.func9, Tryz.ntmps9
  go_wp2_with fail
  refine (hdr g b n c d x0 x1 x2 x3 x4 x5 x6 w0 w hn hc (by unfold maxLen; omega) H).mono ?_
  rintro e w1 ⟨rfl, H1⟩
  clear H
  go_wp2_with fail
  refine (u24 b 1 (n - 1) (c - 1) (d 1) (d 2) (d 3) _ (by omega) (by unfold maxLen; omega) (H1.dat 1 (by omega)) (H1.dat 2 (by omega)) (H1.dat 3 (by omega))).mono ?_
  rintro e w2 ⟨rfl, hb2⟩
  have H2 := H1.below hb2
  clear H1 hb2
  have c0 := H2.dat 0 (by omega)
  have k4 := (bcell H2.blk 4).trans rfl
  have q0 : (((d 0).toNat : Int) == 0) = false := beq_eq_false_iff_ne.2 (by have := hk 0 (by simp); omega)
  have q1 : (((d 0).toNat : Int) == 1) = false := beq_eq_false_iff_ne.2 (by have := hk 1 (by simp); omega)
  have q3 : (((d 0).toNat : Int) == 3) = false := beq_eq_false_iff_ne.2 (by have := hk 3 (by simp); omega)
  have q2 : (((d 0).toNat : Int) == 2) = false := beq_eq_false_iff_ne.2 (by have := hk 2 (by simp); omega)
  have q11 : (((d 0).toNat : Int) == 11) = false := beq_eq_false_iff_ne.2 (by have := hk 11 (by simp); omega)
  have q12 : (((d 0).toNat : Int) == 12) = false := beq_eq_false_iff_ne.2 (by have := hk 12 (by simp); omega)
  have q13 : (((d 0).toNat : Int) == 13) = false := beq_eq_false_iff_ne.2 (by have := hk 13 (by simp); omega)
  have q14 : (((d 0).toNat : Int) == 14) = false := beq_eq_false_iff_ne.2 (by have := hk 14 (by simp); omega)
  have q16 : (((d 0).toNat : Int) == 16) = false := beq_eq_false_iff_ne.2 (by have := hk 16 (by simp); omega)
  have q20 : (((d 0).toNat : Int) == 20) = false := beq_eq_false_iff_ne.2 (by have := hk 20 (by simp); omega)
  have q15 : (((d 0).toNat : Int) == 15) = false := beq_eq_false_iff_ne.2 (by have := hk 15 (by simp); omega)
  have t1 : ((n : Int) - 12 != ((n - 12 : Nat) : Int)) = false := by rw [bne_eq_false_iff_eq]; omega
  have e1 := H2.chg.cell hE (fun h => hg1 h.symm)
  clear hk hE
  go_wp2_with fail
  go_ret
  exact ⟨rfl, H2⟩
end Go.Proofs.YtkagkopjhgnnlaaGreatDoor
