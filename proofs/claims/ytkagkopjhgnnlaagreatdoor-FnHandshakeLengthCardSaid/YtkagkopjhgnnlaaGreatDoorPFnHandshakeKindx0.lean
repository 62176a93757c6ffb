-- PRINTED BY print.sh 35421559b90ae4d0a3588c463048766b98c2df88dd9212a6774a882060cdf62d: not written by this session
import Derived.Test.YtkagkopjhgnnlaaGreatDoorProg
import Derived.Below
import Derived.Deep.Draws
import Derived.Deep.AppendLies
import Derived.Maps.AppendAt
import Derived.OwnWalk
import Derived.Laws.BytesArg
import Derived.Laws.MakeOwn
import Derived.Laws.OwnMore
import Derived.Deep.OwnRows
import Derived.Tactics
import Derived.Lib.ConvBytes
import Derived.Laws.Slices
import Derived.WalkKit
import Derived.KernelRfl
import Derived.RowKit3
import Derived.Deep.LoopGhost
import Derived.Deep.QuietTactic
import Derived.BigQuiet
import Derived.WideLaws
import Derived.Deep.DeepCutAuto
import Derived.Deep.CutBlock
import Derived.Deep.RegionHeld3
import Derived.Laws.Rows
import Derived.Lib.AppendStr
import Derived.ArgAppend
import Derived.Laws.IdiomCopy
import Derived.OrdersHeld
import Derived.Laws.BitsLemmas
import Derived.RowKit
import Derived.Test.YtkagkopjhgnnlaaGreatDoorWWords
import Derived.Test.YtkagkopjhgnnlaaGreatDoorWLast
import Derived.Test.YtkagkopjhgnnlaaGreatDoorWTab
import Derived.Test.YtkagkopjhgnnlaaGreatDoorWFour
import Derived.Test.YtkagkopjhgnnlaaGreatDoorWQPut
import Derived.Test.YtkagkopjhgnnlaaGreatDoorWApart
import Derived.Test.YtkagkopjhgnnlaaGreatDoorWArr
import Derived.Test.YtkagkopjhgnnlaaGreatDoorWZeros
import Derived.Test.YtkagkopjhgnnlaaGreatDoorWFoot
import Derived.Test.YtkagkopjhgnnlaaGreatDoorWKept
import Derived.Test.YtkagkopjhgnnlaaGreatDoorWShare
import Derived.Test.YtkagkopjhgnnlaaGreatDoorWN
import Derived.Test.YtkagkopjhgnnlaaGreatDoorWFootNe
import Derived.Test.YtkagkopjhgnnlaaGreatDoorWAt
import Derived.Test.YtkagkopjhgnnlaaGreatDoorWEqStruct
import Derived.Test.YtkagkopjhgnnlaaGreatDoorWRepsOne
import Derived.Test.YtkagkopjhgnnlaaGreatDoorWInv
import Derived.Test.YtkagkopjhgnnlaaGreatDoorWInvWords
import Derived.Test.YtkagkopjhgnnlaaGreatDoorWGuard
import Derived.Test.YtkagkopjhgnnlaaGreatDoorWNEv
import Derived.Test.YtkagkopjhgnnlaaGreatDoorWMore
namespace Go.Proofs.YtkagkopjhgnnlaaGreatDoor.PFnHandshakeKind
open Go.RowKit Go.Proofs.YtkagkopjhgnnlaaGreatDoorW.PrintWords Go.Proofs.YtkagkopjhgnnlaaGreatDoorW.PrintLast Go.Proofs.YtkagkopjhgnnlaaGreatDoorW.PrintMore
attribute [local go_sem] max2_int min2_int max_two min_two max_three min_three max_four min_four   -- for this text's walks alone
set_option linter.unusedVariables false
set_option linter.unusedSimpArgs false



def errW : Option Int → Value
  | none => .nilIface
  | some c => .iface 0 (.int .i64 c)
theorem errW_none : errW none = .nilIface := rfl
theorem errW_some (c : Int) : errW (some c) = .iface 0 (.int .i64 c) := rfl

theorem info5 : (Tryz.prog.info? 5).map (fun i => (i.zero, i.size, i.bytes)) = some (some (.int .u8 0), 1, 1) := by kernel_rfl
theorem info9 : (Tryz.prog.info? 9).map (fun i => (i.zero, i.size, i.bytes)) = some (some (.string ⟨#[]⟩), 1, 16) := by kernel_rfl
theorem info171 : (Tryz.prog.info? 171).map (fun i => (i.zero, i.size, i.bytes)) = some (some (.agg #[(.int .u16 0), (.int .u16 0)]), 2, 4) := by kernel_rfl
theorem info233 : (Tryz.prog.info? 233).map (fun i => (i.zero, i.size, i.bytes)) = some (some (.agg #[(.string ⟨#[]⟩), (.int .u32 0)]), 2, 24) := by kernel_rfl
-- the values' own types
/-! #### struct type 171 -/
structure S171 where
  f0 : Int
  f1 : Int
def z171 : S171 := ⟨(0 : Int), (0 : Int)⟩
def k171 : Kd S171 := Kd.iso (Kd.pair (Kd.int .u16) (Kd.int .u16)) (fun x : S171 => (x.f0, x.f1))
theorem k171_open {w : World} {x : S171} {cs : List Value} (h : k171.K w x cs) : cs = [.int .u16 x.f0, .int .u16 x.f1] := by
  obtain ⟨_, _, rfl, rfl, rfl⟩ := h
  exact rfl
theorem k171_openM {w : World} {base : Nat} {ok : Nat → Prop} {x : S171} {cs : List Value} (h : k171.M w base ok x cs) : cs = [.int .u16 x.f0, .int .u16 x.f1] := by
  obtain ⟨_, _, rfl, rfl, rfl⟩ := h
  exact rfl
theorem k171_mk (w : World) (x : S171)  : k171.K w x [.int .u16 x.f0, .int .u16 x.f1] := ⟨[.int .u16 x.f0], [.int .u16 x.f1], rfl, rfl, rfl⟩
theorem k171_mkM (w : World) (base : Nat) (ok : Nat → Prop) (x : S171)  : k171.M w base ok x [.int .u16 x.f0, .int .u16 x.f1] := ⟨[.int .u16 x.f0], [.int .u16 x.f1], rfl, rfl, rfl⟩
def rd_T171 (xs : List S171) (i : Int) : S171 := xs.getD i.toNat z171
theorem at_T171 {w : World} {A : Option Addr} {n : Nat} {xs : List S171} (h : Kd.C k171 w A n xs) (i : Int) (h0 : 0 ≤ i) (h1 : i < n) : ∃ ad , A = some ad ∧ w.cell? (ad.add (i.toNat * 2)) = some (.int .u16 (rd_T171 xs i).f0) ∧ w.cell? ⟨(ad.add (i.toNat * 2)).block, (ad.add (i.toNat * 2)).off + 1, none⟩ = some (.int .u16 (rd_T171 xs i).f1) := by
  obtain ⟨ad, c, e, _, hK, hc0⟩ := Kd.C_get h z171 i h0 h1
  have hc : ∀ j u, c[j]? = some u → w.cell? (ad.add (i.toNat * 2 + j)) = some u := hc0
  obtain rfl := k171_open hK
  exact ⟨ad, e, hc 0 _ rfl, by rw [← add_field _ _ 1 (by omega)]; exact hc 1 _ rfl⟩

/-! #### struct type 223 -/
structure S223 where
  f0 : Int
  f1 : ByteArray
def z223 : S223 := ⟨(0 : Int), (⟨#[]⟩ : ByteArray)⟩
def k223 : Kd S223 := Kd.iso (Kd.pair (Kd.int .u16) Kd.string) (fun x : S223 => (x.f0, x.f1))
theorem k223_open {w : World} {x : S223} {cs : List Value} (h : k223.K w x cs) : cs = [.int .u16 x.f0, .string x.f1] := by
  obtain ⟨_, _, rfl, rfl, rfl⟩ := h
  exact rfl
theorem k223_openM {w : World} {base : Nat} {ok : Nat → Prop} {x : S223} {cs : List Value} (h : k223.M w base ok x cs) : cs = [.int .u16 x.f0, .string x.f1] := by
  obtain ⟨_, _, rfl, rfl, rfl⟩ := h
  exact rfl
theorem k223_mk (w : World) (x : S223)  : k223.K w x [.int .u16 x.f0, .string x.f1] := ⟨[.int .u16 x.f0], [.string x.f1], rfl, rfl, rfl⟩
theorem k223_mkM (w : World) (base : Nat) (ok : Nat → Prop) (x : S223)  : k223.M w base ok x [.int .u16 x.f0, .string x.f1] := ⟨[.int .u16 x.f0], [.string x.f1], rfl, rfl, rfl⟩
def rd_T223 (xs : List S223) (i : Int) : S223 := xs.getD i.toNat z223
theorem at_T223 {w : World} {A : Option Addr} {n : Nat} {xs : List S223} (h : Kd.C k223 w A n xs) (i : Int) (h0 : 0 ≤ i) (h1 : i < n) : ∃ ad , A = some ad ∧ w.cell? (ad.add (i.toNat * 2)) = some (.int .u16 (rd_T223 xs i).f0) ∧ w.cell? ⟨(ad.add (i.toNat * 2)).block, (ad.add (i.toNat * 2)).off + 1, none⟩ = some (.string (rd_T223 xs i).f1) := by
  obtain ⟨ad, c, e, _, hK, hc0⟩ := Kd.C_get h z223 i h0 h1
  have hc : ∀ j u, c[j]? = some u → w.cell? (ad.add (i.toNat * 2 + j)) = some u := hc0
  obtain rfl := k223_open hK
  exact ⟨ad, e, hc 0 _ rfl, by rw [← add_field _ _ 1 (by omega)]; exact hc 1 _ rfl⟩

/-! #### struct type 233 -/
structure S233 where
  f0 : ByteArray
  f1 : Int
def z233 : S233 := ⟨(⟨#[]⟩ : ByteArray), (0 : Int)⟩
def k233 : Kd S233 := Kd.iso (Kd.pair Kd.string (Kd.int .u32)) (fun x : S233 => (x.f0, x.f1))
theorem k233_open {w : World} {x : S233} {cs : List Value} (h : k233.K w x cs) : cs = [.string x.f0, .int .u32 x.f1] := by
  obtain ⟨_, _, rfl, rfl, rfl⟩ := h
  exact rfl
theorem k233_openM {w : World} {base : Nat} {ok : Nat → Prop} {x : S233} {cs : List Value} (h : k233.M w base ok x cs) : cs = [.string x.f0, .int .u32 x.f1] := by
  obtain ⟨_, _, rfl, rfl, rfl⟩ := h
  exact rfl
theorem k233_mk (w : World) (x : S233)  : k233.K w x [.string x.f0, .int .u32 x.f1] := ⟨[.string x.f0], [.int .u32 x.f1], rfl, rfl, rfl⟩
theorem k233_mkM (w : World) (base : Nat) (ok : Nat → Prop) (x : S233)  : k233.M w base ok x [.string x.f0, .int .u32 x.f1] := ⟨[.string x.f0], [.int .u32 x.f1], rfl, rfl, rfl⟩
def rd_T233 (xs : List S233) (i : Int) : S233 := xs.getD i.toNat z233
theorem at_T233 {w : World} {A : Option Addr} {n : Nat} {xs : List S233} (h : Kd.C k233 w A n xs) (i : Int) (h0 : 0 ≤ i) (h1 : i < n) : ∃ ad , A = some ad ∧ w.cell? (ad.add (i.toNat * 2)) = some (.string (rd_T233 xs i).f0) ∧ w.cell? ⟨(ad.add (i.toNat * 2)).block, (ad.add (i.toNat * 2)).off + 1, none⟩ = some (.int .u32 (rd_T233 xs i).f1) := by
  obtain ⟨ad, c, e, _, hK, hc0⟩ := Kd.C_get h z233 i h0 h1
  have hc : ∀ j u, c[j]? = some u → w.cell? (ad.add (i.toNat * 2 + j)) = some u := hc0
  obtain rfl := k233_open hK
  exact ⟨ad, e, hc 0 _ rfl, by rw [← add_field _ _ 1 (by omega)]; exact hc 1 _ rfl⟩

/-! #### struct type 250 -/
structure S250 where
  f0 : ByteArray
  f1 : ByteArray
def z250 : S250 := ⟨(⟨#[]⟩ : ByteArray), (⟨#[]⟩ : ByteArray)⟩
def k250 : Kd S250 := Kd.iso (Kd.pair Kd.string Kd.string) (fun x : S250 => (x.f0, x.f1))
theorem k250_open {w : World} {x : S250} {cs : List Value} (h : k250.K w x cs) : cs = [.string x.f0, .string x.f1] := by
  obtain ⟨_, _, rfl, rfl, rfl⟩ := h
  exact rfl
theorem k250_openM {w : World} {base : Nat} {ok : Nat → Prop} {x : S250} {cs : List Value} (h : k250.M w base ok x cs) : cs = [.string x.f0, .string x.f1] := by
  obtain ⟨_, _, rfl, rfl, rfl⟩ := h
  exact rfl
theorem k250_mk (w : World) (x : S250)  : k250.K w x [.string x.f0, .string x.f1] := ⟨[.string x.f0], [.string x.f1], rfl, rfl, rfl⟩
theorem k250_mkM (w : World) (base : Nat) (ok : Nat → Prop) (x : S250)  : k250.M w base ok x [.string x.f0, .string x.f1] := ⟨[.string x.f0], [.string x.f1], rfl, rfl, rfl⟩
def rd_T250 (xs : List S250) (i : Int) : S250 := xs.getD i.toNat z250
theorem at_T250 {w : World} {A : Option Addr} {n : Nat} {xs : List S250} (h : Kd.C k250 w A n xs) (i : Int) (h0 : 0 ≤ i) (h1 : i < n) : ∃ ad , A = some ad ∧ w.cell? (ad.add (i.toNat * 2)) = some (.string (rd_T250 xs i).f0) ∧ w.cell? ⟨(ad.add (i.toNat * 2)).block, (ad.add (i.toNat * 2)).off + 1, none⟩ = some (.string (rd_T250 xs i).f1) := by
  obtain ⟨ad, c, e, _, hK, hc0⟩ := Kd.C_get h z250 i h0 h1
  have hc : ∀ j u, c[j]? = some u → w.cell? (ad.add (i.toNat * 2 + j)) = some u := hc0
  obtain rfl := k250_open hK
  exact ⟨ad, e, hc 0 _ rfl, by rw [← add_field _ _ 1 (by omega)]; exact hc 1 _ rfl⟩

/-! #### struct type 169 -/
structure S169 where
  f0 : Int
  f1 : Int
def z169 : S169 := ⟨(0 : Int), (0 : Int)⟩
def k169 : Kd S169 := Kd.iso (Kd.pair (Kd.int .u16) (Kd.int .u16)) (fun x : S169 => (x.f0, x.f1))
theorem k169_open {w : World} {x : S169} {cs : List Value} (h : k169.K w x cs) : cs = [.int .u16 x.f0, .int .u16 x.f1] := by
  obtain ⟨_, _, rfl, rfl, rfl⟩ := h
  exact rfl
theorem k169_openM {w : World} {base : Nat} {ok : Nat → Prop} {x : S169} {cs : List Value} (h : k169.M w base ok x cs) : cs = [.int .u16 x.f0, .int .u16 x.f1] := by
  obtain ⟨_, _, rfl, rfl, rfl⟩ := h
  exact rfl
theorem k169_mk (w : World) (x : S169)  : k169.K w x [.int .u16 x.f0, .int .u16 x.f1] := ⟨[.int .u16 x.f0], [.int .u16 x.f1], rfl, rfl, rfl⟩
theorem k169_mkM (w : World) (base : Nat) (ok : Nat → Prop) (x : S169)  : k169.M w base ok x [.int .u16 x.f0, .int .u16 x.f1] := ⟨[.int .u16 x.f0], [.int .u16 x.f1], rfl, rfl, rfl⟩
def rd_T169 (xs : List S169) (i : Int) : S169 := xs.getD i.toNat z169
theorem at_T169 {w : World} {A : Option Addr} {n : Nat} {xs : List S169} (h : Kd.C k169 w A n xs) (i : Int) (h0 : 0 ≤ i) (h1 : i < n) : ∃ ad , A = some ad ∧ w.cell? (ad.add (i.toNat * 2)) = some (.int .u16 (rd_T169 xs i).f0) ∧ w.cell? ⟨(ad.add (i.toNat * 2)).block, (ad.add (i.toNat * 2)).off + 1, none⟩ = some (.int .u16 (rd_T169 xs i).f1) := by
  obtain ⟨ad, c, e, _, hK, hc0⟩ := Kd.C_get h z169 i h0 h1
  have hc : ∀ j u, c[j]? = some u → w.cell? (ad.add (i.toNat * 2 + j)) = some u := hc0
  obtain rfl := k169_open hK
  exact ⟨ad, e, hc 0 _ rfl, by rw [← add_field _ _ 1 (by omega)]; exact hc 1 _ rfl⟩

/-! #### struct type 60 -/
structure S60 where
  f0 : Int
  f1 : Int
def z60 : S60 := ⟨(0 : Int), (0 : Int)⟩
def k60 : Kd S60 := Kd.iso (Kd.pair (Kd.int .u8) (Kd.int .u8)) (fun x : S60 => (x.f0, x.f1))
theorem k60_open {w : World} {x : S60} {cs : List Value} (h : k60.K w x cs) : cs = [.int .u8 x.f0, .int .u8 x.f1] := by
  obtain ⟨_, _, rfl, rfl, rfl⟩ := h
  exact rfl
theorem k60_openM {w : World} {base : Nat} {ok : Nat → Prop} {x : S60} {cs : List Value} (h : k60.M w base ok x cs) : cs = [.int .u8 x.f0, .int .u8 x.f1] := by
  obtain ⟨_, _, rfl, rfl, rfl⟩ := h
  exact rfl
theorem k60_mk (w : World) (x : S60)  : k60.K w x [.int .u8 x.f0, .int .u8 x.f1] := ⟨[.int .u8 x.f0], [.int .u8 x.f1], rfl, rfl, rfl⟩
theorem k60_mkM (w : World) (base : Nat) (ok : Nat → Prop) (x : S60)  : k60.M w base ok x [.int .u8 x.f0, .int .u8 x.f1] := ⟨[.int .u8 x.f0], [.int .u8 x.f1], rfl, rfl, rfl⟩
def rd_T60 (xs : List S60) (i : Int) : S60 := xs.getD i.toNat z60
theorem at_T60 {w : World} {A : Option Addr} {n : Nat} {xs : List S60} (h : Kd.C k60 w A n xs) (i : Int) (h0 : 0 ≤ i) (h1 : i < n) : ∃ ad , A = some ad ∧ w.cell? (ad.add (i.toNat * 2)) = some (.int .u8 (rd_T60 xs i).f0) ∧ w.cell? ⟨(ad.add (i.toNat * 2)).block, (ad.add (i.toNat * 2)).off + 1, none⟩ = some (.int .u8 (rd_T60 xs i).f1) := by
  obtain ⟨ad, c, e, _, hK, hc0⟩ := Kd.C_get h z60 i h0 h1
  have hc : ∀ j u, c[j]? = some u → w.cell? (ad.add (i.toNat * 2 + j)) = some u := hc0
  obtain rfl := k60_open hK
  exact ⟨ad, e, hc 0 _ rfl, by rw [← add_field _ _ 1 (by omega)]; exact hc 1 _ rfl⟩

def rd_L10 (xs : List (List Int)) (i : Int) : (List Int) := xs.getD i.toNat ([] : List Int)
theorem at_L10 {w : World} {A : Option Addr} {n : Nat} {xs : List (List Int)} (h : Kd.C (Kd.slice 5 (Kd.int .u8)) w A n xs) (i : Int) (h0 : 0 ≤ i) (h1 : i < n) : ∃ ad A0 c0, A = some ad ∧ w.cell? (ad.add i.toNat) = some (.slice A0 (rd_L10 xs i).length c0) ∧ (rd_L10 xs i).length ≤ c0 ∧ (Kd.int .u8).C w A0 (rd_L10 xs i).length (rd_L10 xs i) := by
  obtain ⟨ad, c, e, _, hK, hc0⟩ := Kd.C_get h ([] : List Int) i h0 h1
  have hc : ∀ j u, c[j]? = some u → w.cell? (ad.add (i.toNat * 1 + j)) = some u := hc0
  obtain ⟨A0, c0, rfl, l0, g0⟩ := hK
  exact ⟨ad, A0, c0, e, by have hq := hc 0 _ rfl; rwa [Nat.mul_one, Nat.add_zero] at hq, l0, g0⟩

/-! #### struct type 231 -/
structure S231 where
  f0 : (List Int)
  f1 : Int
def z231 : S231 := ⟨([] : List Int), (0 : Int)⟩
def k231 : Kd S231 := Kd.iso (Kd.pair (Kd.slice 5 (Kd.int .u8)) (Kd.int .u32)) (fun x : S231 => (x.f0, x.f1))
theorem k231_open {w : World} {x : S231} {cs : List Value} (h : k231.K w x cs) : ∃ A0 c0, cs = [.slice A0 x.f0.length c0, .int .u32 x.f1] ∧ x.f0.length ≤ c0 ∧ (Kd.int .u8).C w A0 x.f0.length x.f0 := by
  obtain ⟨_, _, rfl, ⟨A0, c0, rfl, l0, g0⟩, rfl⟩ := h
  exact ⟨A0, c0, rfl, l0, g0⟩
theorem k231_openM {w : World} {base : Nat} {ok : Nat → Prop} {x : S231} {cs : List Value} (h : k231.M w base ok x cs) : ∃ v0, cs = [v0, .int .u32 x.f1] ∧ (Kd.int .u8).R 5 w base ok v0 x.f0 := by
  obtain ⟨_, _, rfl, ⟨v0, rfl, g0⟩, rfl⟩ := h
  exact ⟨v0, rfl, g0⟩
theorem k231_mk (w : World) (x : S231) {A0 : Option Addr} {c0 : Nat} (l0 : x.f0.length ≤ c0) (g0 : (Kd.int .u8).C w A0 x.f0.length x.f0) : k231.K w x [.slice A0 x.f0.length c0, .int .u32 x.f1] := ⟨[.slice A0 x.f0.length c0], [.int .u32 x.f1], rfl, ⟨A0, c0, rfl, l0, g0⟩, rfl⟩
theorem k231_mkM (w : World) (base : Nat) (ok : Nat → Prop) (x : S231) {v0 : Value} (g0 : (Kd.int .u8).R 5 w base ok v0 x.f0) : k231.M w base ok x [v0, .int .u32 x.f1] := ⟨[v0], [.int .u32 x.f1], rfl, ⟨v0, rfl, g0⟩, rfl⟩
def rd_T231 (xs : List S231) (i : Int) : S231 := xs.getD i.toNat z231
theorem at_T231 {w : World} {A : Option Addr} {n : Nat} {xs : List S231} (h : Kd.C k231 w A n xs) (i : Int) (h0 : 0 ≤ i) (h1 : i < n) : ∃ ad A0 c0, A = some ad ∧ w.cell? (ad.add (i.toNat * 2)) = some (.slice A0 (rd_T231 xs i).f0.length c0) ∧ w.cell? ⟨(ad.add (i.toNat * 2)).block, (ad.add (i.toNat * 2)).off + 1, none⟩ = some (.int .u32 (rd_T231 xs i).f1) ∧ (rd_T231 xs i).f0.length ≤ c0 ∧ (Kd.int .u8).C w A0 (rd_T231 xs i).f0.length (rd_T231 xs i).f0 := by
  obtain ⟨ad, c, e, _, hK, hc0⟩ := Kd.C_get h z231 i h0 h1
  have hc : ∀ j u, c[j]? = some u → w.cell? (ad.add (i.toNat * 2 + j)) = some u := hc0
  obtain ⟨A0, c0, rfl, l0, g0⟩ := k231_open hK
  exact ⟨ad, A0, c0, e, hc 0 _ rfl, by rw [← add_field _ _ 1 (by omega)]; exact hc 1 _ rfl, l0, g0⟩

/-! #### struct type 248 -/
structure S248 where
  f0 : (List Int)
  f1 : (List Int)
def z248 : S248 := ⟨([] : List Int), ([] : List Int)⟩
def k248 : Kd S248 := Kd.iso (Kd.pair (Kd.slice 5 (Kd.int .u8)) (Kd.slice 5 (Kd.int .u8))) (fun x : S248 => (x.f0, x.f1))
theorem k248_open {w : World} {x : S248} {cs : List Value} (h : k248.K w x cs) : ∃ A0 c0 A1 c1, cs = [.slice A0 x.f0.length c0, .slice A1 x.f1.length c1] ∧ x.f0.length ≤ c0 ∧ (Kd.int .u8).C w A0 x.f0.length x.f0 ∧ x.f1.length ≤ c1 ∧ (Kd.int .u8).C w A1 x.f1.length x.f1 := by
  obtain ⟨_, _, rfl, ⟨A0, c0, rfl, l0, g0⟩, ⟨A1, c1, rfl, l1, g1⟩⟩ := h
  exact ⟨A0, c0, A1, c1, rfl, l0, g0, l1, g1⟩
theorem k248_openM {w : World} {base : Nat} {ok : Nat → Prop} {x : S248} {cs : List Value} (h : k248.M w base ok x cs) : ∃ v0 v1, cs = [v0, v1] ∧ (Kd.int .u8).R 5 w base ok v0 x.f0 ∧ (Kd.int .u8).R 5 w base ok v1 x.f1 := by
  obtain ⟨_, _, rfl, ⟨v0, rfl, g0⟩, ⟨v1, rfl, g1⟩⟩ := h
  exact ⟨v0, v1, rfl, g0, g1⟩
theorem k248_mk (w : World) (x : S248) {A0 : Option Addr} {c0 : Nat} (l0 : x.f0.length ≤ c0) (g0 : (Kd.int .u8).C w A0 x.f0.length x.f0) {A1 : Option Addr} {c1 : Nat} (l1 : x.f1.length ≤ c1) (g1 : (Kd.int .u8).C w A1 x.f1.length x.f1) : k248.K w x [.slice A0 x.f0.length c0, .slice A1 x.f1.length c1] := ⟨[.slice A0 x.f0.length c0], [.slice A1 x.f1.length c1], rfl, ⟨A0, c0, rfl, l0, g0⟩, ⟨A1, c1, rfl, l1, g1⟩⟩
theorem k248_mkM (w : World) (base : Nat) (ok : Nat → Prop) (x : S248) {v0 : Value} (g0 : (Kd.int .u8).R 5 w base ok v0 x.f0) {v1 : Value} (g1 : (Kd.int .u8).R 5 w base ok v1 x.f1) : k248.M w base ok x [v0, v1] := ⟨[v0], [v1], rfl, ⟨v0, rfl, g0⟩, ⟨v1, rfl, g1⟩⟩
def rd_T248 (xs : List S248) (i : Int) : S248 := xs.getD i.toNat z248
theorem at_T248 {w : World} {A : Option Addr} {n : Nat} {xs : List S248} (h : Kd.C k248 w A n xs) (i : Int) (h0 : 0 ≤ i) (h1 : i < n) : ∃ ad A0 c0 A1 c1, A = some ad ∧ w.cell? (ad.add (i.toNat * 2)) = some (.slice A0 (rd_T248 xs i).f0.length c0) ∧ w.cell? ⟨(ad.add (i.toNat * 2)).block, (ad.add (i.toNat * 2)).off + 1, none⟩ = some (.slice A1 (rd_T248 xs i).f1.length c1) ∧ (rd_T248 xs i).f0.length ≤ c0 ∧ (Kd.int .u8).C w A0 (rd_T248 xs i).f0.length (rd_T248 xs i).f0 ∧ (rd_T248 xs i).f1.length ≤ c1 ∧ (Kd.int .u8).C w A1 (rd_T248 xs i).f1.length (rd_T248 xs i).f1 := by
  obtain ⟨ad, c, e, _, hK, hc0⟩ := Kd.C_get h z248 i h0 h1
  have hc : ∀ j u, c[j]? = some u → w.cell? (ad.add (i.toNat * 2 + j)) = some u := hc0
  obtain ⟨A0, c0, A1, c1, rfl, l0, g0, l1, g1⟩ := k248_open hK
  exact ⟨ad, A0, c0, A1, c1, e, hc 0 _ rfl, by rw [← add_field _ _ 1 (by omega)]; exact hc 1 _ rfl, l0, g0, l1, g1⟩

def rd_L13 (xs : List (List ByteArray)) (i : Int) : (List ByteArray) := xs.getD i.toNat ([] : List ByteArray)
theorem at_L13 {w : World} {A : Option Addr} {n : Nat} {xs : List (List ByteArray)} (h : Kd.C (Kd.slice 9 Kd.string) w A n xs) (i : Int) (h0 : 0 ≤ i) (h1 : i < n) : ∃ ad A0 c0, A = some ad ∧ w.cell? (ad.add i.toNat) = some (.slice A0 (rd_L13 xs i).length c0) ∧ (rd_L13 xs i).length ≤ c0 ∧ Kd.string.C w A0 (rd_L13 xs i).length (rd_L13 xs i) := by
  obtain ⟨ad, c, e, _, hK, hc0⟩ := Kd.C_get h ([] : List ByteArray) i h0 h1
  have hc : ∀ j u, c[j]? = some u → w.cell? (ad.add (i.toNat * 1 + j)) = some u := hc0
  obtain ⟨A0, c0, rfl, l0, g0⟩ := hK
  exact ⟨ad, A0, c0, e, by have hq := hc 0 _ rfl; rwa [Nat.mul_one, Nat.add_zero] at hq, l0, g0⟩

def rd_L14 (xs : List (List Int)) (i : Int) : (List Int) := xs.getD i.toNat ([] : List Int)
theorem at_L14 {w : World} {A : Option Addr} {n : Nat} {xs : List (List Int)} (h : Kd.C (Kd.slice 22 (Kd.int .u16)) w A n xs) (i : Int) (h0 : 0 ≤ i) (h1 : i < n) : ∃ ad A0 c0, A = some ad ∧ w.cell? (ad.add i.toNat) = some (.slice A0 (rd_L14 xs i).length c0) ∧ (rd_L14 xs i).length ≤ c0 ∧ (Kd.int .u16).C w A0 (rd_L14 xs i).length (rd_L14 xs i) := by
  obtain ⟨ad, c, e, _, hK, hc0⟩ := Kd.C_get h ([] : List Int) i h0 h1
  have hc : ∀ j u, c[j]? = some u → w.cell? (ad.add (i.toNat * 1 + j)) = some u := hc0
  obtain ⟨A0, c0, rfl, l0, g0⟩ := hK
  exact ⟨ad, A0, c0, e, by have hq := hc 0 _ rfl; rwa [Nat.mul_one, Nat.add_zero] at hq, l0, g0⟩

def rd_L15 (xs : List (List S171)) (i : Int) : (List S171) := xs.getD i.toNat ([] : List S171)
theorem at_L15 {w : World} {A : Option Addr} {n : Nat} {xs : List (List S171)} (h : Kd.C (Kd.slice 171 k171) w A n xs) (i : Int) (h0 : 0 ≤ i) (h1 : i < n) : ∃ ad A0 c0, A = some ad ∧ w.cell? (ad.add i.toNat) = some (.slice A0 (rd_L15 xs i).length c0) ∧ (rd_L15 xs i).length ≤ c0 ∧ k171.C w A0 (rd_L15 xs i).length (rd_L15 xs i) := by
  obtain ⟨ad, c, e, _, hK, hc0⟩ := Kd.C_get h ([] : List S171) i h0 h1
  have hc : ∀ j u, c[j]? = some u → w.cell? (ad.add (i.toNat * 1 + j)) = some u := hc0
  obtain ⟨A0, c0, rfl, l0, g0⟩ := hK
  exact ⟨ad, A0, c0, e, by have hq := hc 0 _ rfl; rwa [Nat.mul_one, Nat.add_zero] at hq, l0, g0⟩

def rd_L17 (xs : List (List S223)) (i : Int) : (List S223) := xs.getD i.toNat ([] : List S223)
theorem at_L17 {w : World} {A : Option Addr} {n : Nat} {xs : List (List S223)} (h : Kd.C (Kd.slice 223 k223) w A n xs) (i : Int) (h0 : 0 ≤ i) (h1 : i < n) : ∃ ad A0 c0, A = some ad ∧ w.cell? (ad.add i.toNat) = some (.slice A0 (rd_L17 xs i).length c0) ∧ (rd_L17 xs i).length ≤ c0 ∧ k223.C w A0 (rd_L17 xs i).length (rd_L17 xs i) := by
  obtain ⟨ad, c, e, _, hK, hc0⟩ := Kd.C_get h ([] : List S223) i h0 h1
  have hc : ∀ j u, c[j]? = some u → w.cell? (ad.add (i.toNat * 1 + j)) = some u := hc0
  obtain ⟨A0, c0, rfl, l0, g0⟩ := hK
  exact ⟨ad, A0, c0, e, by have hq := hc 0 _ rfl; rwa [Nat.mul_one, Nat.add_zero] at hq, l0, g0⟩

def rd_L18 (xs : List (List S233)) (i : Int) : (List S233) := xs.getD i.toNat ([] : List S233)
theorem at_L18 {w : World} {A : Option Addr} {n : Nat} {xs : List (List S233)} (h : Kd.C (Kd.slice 233 k233) w A n xs) (i : Int) (h0 : 0 ≤ i) (h1 : i < n) : ∃ ad A0 c0, A = some ad ∧ w.cell? (ad.add i.toNat) = some (.slice A0 (rd_L18 xs i).length c0) ∧ (rd_L18 xs i).length ≤ c0 ∧ k233.C w A0 (rd_L18 xs i).length (rd_L18 xs i) := by
  obtain ⟨ad, c, e, _, hK, hc0⟩ := Kd.C_get h ([] : List S233) i h0 h1
  have hc : ∀ j u, c[j]? = some u → w.cell? (ad.add (i.toNat * 1 + j)) = some u := hc0
  obtain ⟨A0, c0, rfl, l0, g0⟩ := hK
  exact ⟨ad, A0, c0, e, by have hq := hc 0 _ rfl; rwa [Nat.mul_one, Nat.add_zero] at hq, l0, g0⟩

def rd_L19 (xs : List (List S250)) (i : Int) : (List S250) := xs.getD i.toNat ([] : List S250)
theorem at_L19 {w : World} {A : Option Addr} {n : Nat} {xs : List (List S250)} (h : Kd.C (Kd.slice 250 k250) w A n xs) (i : Int) (h0 : 0 ≤ i) (h1 : i < n) : ∃ ad A0 c0, A = some ad ∧ w.cell? (ad.add i.toNat) = some (.slice A0 (rd_L19 xs i).length c0) ∧ (rd_L19 xs i).length ≤ c0 ∧ k250.C w A0 (rd_L19 xs i).length (rd_L19 xs i) := by
  obtain ⟨ad, c, e, _, hK, hc0⟩ := Kd.C_get h ([] : List S250) i h0 h1
  have hc : ∀ j u, c[j]? = some u → w.cell? (ad.add (i.toNat * 1 + j)) = some u := hc0
  obtain ⟨A0, c0, rfl, l0, g0⟩ := hK
  exact ⟨ad, A0, c0, e, by have hq := hc 0 _ rfl; rwa [Nat.mul_one, Nat.add_zero] at hq, l0, g0⟩

/-! #### struct type 140 -/
structure S140 where
  f0 : Int
  f1 : ByteArray
  f2 : (List ByteArray)
  f3 : (List Int)
  f4 : (List S171)
  f5 : Bool
  f6 : Int
  f7 : Bool
  f8 : (List S223)
  f9 : (List S223)
  f10 : (List Int)
  f11 : (List S233)
  f12 : (List S250)
def z140 : S140 := ⟨(0 : Int), (⟨#[]⟩ : ByteArray), ([] : List ByteArray), ([] : List Int), ([] : List S171), false, (0 : Int), false, ([] : List S223), ([] : List S223), ([] : List Int), ([] : List S233), ([] : List S250)⟩
def k140 : Kd S140 := Kd.iso (Kd.pair (Kd.int .u16) (Kd.pair Kd.string (Kd.pair (Kd.slice 9 Kd.string) (Kd.pair (Kd.slice 22 (Kd.int .u16)) (Kd.pair (Kd.slice 171 k171) (Kd.pair Kd.bool (Kd.pair (Kd.int .u32) (Kd.pair Kd.bool (Kd.pair (Kd.slice 223 k223) (Kd.pair (Kd.slice 223 k223) (Kd.pair (Kd.slice 22 (Kd.int .u16)) (Kd.pair (Kd.slice 233 k233) (Kd.slice 250 k250))))))))))))) (fun x : S140 => (x.f0, x.f1, x.f2, x.f3, x.f4, x.f5, x.f6, x.f7, x.f8, x.f9, x.f10, x.f11, x.f12))
theorem k140_open {w : World} {x : S140} {cs : List Value} (h : k140.K w x cs) : ∃ A2 c2 A3 c3 A4 c4 A8 c8 A9 c9 A10 c10 A11 c11 A12 c12, cs = [.int .u16 x.f0, .string x.f1, .slice A2 x.f2.length c2, .slice A3 x.f3.length c3, .slice A4 x.f4.length c4, .bool x.f5, .int .u32 x.f6, .bool x.f7, .slice A8 x.f8.length c8, .slice A9 x.f9.length c9, .slice A10 x.f10.length c10, .slice A11 x.f11.length c11, .slice A12 x.f12.length c12] ∧ x.f2.length ≤ c2 ∧ Kd.string.C w A2 x.f2.length x.f2 ∧ x.f3.length ≤ c3 ∧ (Kd.int .u16).C w A3 x.f3.length x.f3 ∧ x.f4.length ≤ c4 ∧ k171.C w A4 x.f4.length x.f4 ∧ x.f8.length ≤ c8 ∧ k223.C w A8 x.f8.length x.f8 ∧ x.f9.length ≤ c9 ∧ k223.C w A9 x.f9.length x.f9 ∧ x.f10.length ≤ c10 ∧ (Kd.int .u16).C w A10 x.f10.length x.f10 ∧ x.f11.length ≤ c11 ∧ k233.C w A11 x.f11.length x.f11 ∧ x.f12.length ≤ c12 ∧ k250.C w A12 x.f12.length x.f12 := by
  obtain ⟨_, _, rfl, rfl, ⟨_, _, rfl, rfl, ⟨_, _, rfl, ⟨A2, c2, rfl, l2, g2⟩, ⟨_, _, rfl, ⟨A3, c3, rfl, l3, g3⟩, ⟨_, _, rfl, ⟨A4, c4, rfl, l4, g4⟩, ⟨_, _, rfl, rfl, ⟨_, _, rfl, rfl, ⟨_, _, rfl, rfl, ⟨_, _, rfl, ⟨A8, c8, rfl, l8, g8⟩, ⟨_, _, rfl, ⟨A9, c9, rfl, l9, g9⟩, ⟨_, _, rfl, ⟨A10, c10, rfl, l10, g10⟩, ⟨_, _, rfl, ⟨A11, c11, rfl, l11, g11⟩, ⟨A12, c12, rfl, l12, g12⟩⟩⟩⟩⟩⟩⟩⟩⟩⟩⟩⟩⟩ := h
  exact ⟨A2, c2, A3, c3, A4, c4, A8, c8, A9, c9, A10, c10, A11, c11, A12, c12, rfl, l2, g2, l3, g3, l4, g4, l8, g8, l9, g9, l10, g10, l11, g11, l12, g12⟩
theorem k140_openM {w : World} {base : Nat} {ok : Nat → Prop} {x : S140} {cs : List Value} (h : k140.M w base ok x cs) : ∃ v2 v3 v4 v8 v9 v10 v11 v12, cs = [.int .u16 x.f0, .string x.f1, v2, v3, v4, .bool x.f5, .int .u32 x.f6, .bool x.f7, v8, v9, v10, v11, v12] ∧ Kd.string.R 9 w base ok v2 x.f2 ∧ (Kd.int .u16).R 22 w base ok v3 x.f3 ∧ k171.R 171 w base ok v4 x.f4 ∧ k223.R 223 w base ok v8 x.f8 ∧ k223.R 223 w base ok v9 x.f9 ∧ (Kd.int .u16).R 22 w base ok v10 x.f10 ∧ k233.R 233 w base ok v11 x.f11 ∧ k250.R 250 w base ok v12 x.f12 := by
  obtain ⟨_, _, rfl, rfl, ⟨_, _, rfl, rfl, ⟨_, _, rfl, ⟨v2, rfl, g2⟩, ⟨_, _, rfl, ⟨v3, rfl, g3⟩, ⟨_, _, rfl, ⟨v4, rfl, g4⟩, ⟨_, _, rfl, rfl, ⟨_, _, rfl, rfl, ⟨_, _, rfl, rfl, ⟨_, _, rfl, ⟨v8, rfl, g8⟩, ⟨_, _, rfl, ⟨v9, rfl, g9⟩, ⟨_, _, rfl, ⟨v10, rfl, g10⟩, ⟨_, _, rfl, ⟨v11, rfl, g11⟩, ⟨v12, rfl, g12⟩⟩⟩⟩⟩⟩⟩⟩⟩⟩⟩⟩⟩ := h
  exact ⟨v2, v3, v4, v8, v9, v10, v11, v12, rfl, g2, g3, g4, g8, g9, g10, g11, g12⟩
theorem k140_mk (w : World) (x : S140) {A2 : Option Addr} {c2 : Nat} (l2 : x.f2.length ≤ c2) (g2 : Kd.string.C w A2 x.f2.length x.f2) {A3 : Option Addr} {c3 : Nat} (l3 : x.f3.length ≤ c3) (g3 : (Kd.int .u16).C w A3 x.f3.length x.f3) {A4 : Option Addr} {c4 : Nat} (l4 : x.f4.length ≤ c4) (g4 : k171.C w A4 x.f4.length x.f4) {A8 : Option Addr} {c8 : Nat} (l8 : x.f8.length ≤ c8) (g8 : k223.C w A8 x.f8.length x.f8) {A9 : Option Addr} {c9 : Nat} (l9 : x.f9.length ≤ c9) (g9 : k223.C w A9 x.f9.length x.f9) {A10 : Option Addr} {c10 : Nat} (l10 : x.f10.length ≤ c10) (g10 : (Kd.int .u16).C w A10 x.f10.length x.f10) {A11 : Option Addr} {c11 : Nat} (l11 : x.f11.length ≤ c11) (g11 : k233.C w A11 x.f11.length x.f11) {A12 : Option Addr} {c12 : Nat} (l12 : x.f12.length ≤ c12) (g12 : k250.C w A12 x.f12.length x.f12) : k140.K w x [.int .u16 x.f0, .string x.f1, .slice A2 x.f2.length c2, .slice A3 x.f3.length c3, .slice A4 x.f4.length c4, .bool x.f5, .int .u32 x.f6, .bool x.f7, .slice A8 x.f8.length c8, .slice A9 x.f9.length c9, .slice A10 x.f10.length c10, .slice A11 x.f11.length c11, .slice A12 x.f12.length c12] := ⟨[.int .u16 x.f0], [.string x.f1, .slice A2 x.f2.length c2, .slice A3 x.f3.length c3, .slice A4 x.f4.length c4, .bool x.f5, .int .u32 x.f6, .bool x.f7, .slice A8 x.f8.length c8, .slice A9 x.f9.length c9, .slice A10 x.f10.length c10, .slice A11 x.f11.length c11, .slice A12 x.f12.length c12], rfl, rfl, ⟨[.string x.f1], [.slice A2 x.f2.length c2, .slice A3 x.f3.length c3, .slice A4 x.f4.length c4, .bool x.f5, .int .u32 x.f6, .bool x.f7, .slice A8 x.f8.length c8, .slice A9 x.f9.length c9, .slice A10 x.f10.length c10, .slice A11 x.f11.length c11, .slice A12 x.f12.length c12], rfl, rfl, ⟨[.slice A2 x.f2.length c2], [.slice A3 x.f3.length c3, .slice A4 x.f4.length c4, .bool x.f5, .int .u32 x.f6, .bool x.f7, .slice A8 x.f8.length c8, .slice A9 x.f9.length c9, .slice A10 x.f10.length c10, .slice A11 x.f11.length c11, .slice A12 x.f12.length c12], rfl, ⟨A2, c2, rfl, l2, g2⟩, ⟨[.slice A3 x.f3.length c3], [.slice A4 x.f4.length c4, .bool x.f5, .int .u32 x.f6, .bool x.f7, .slice A8 x.f8.length c8, .slice A9 x.f9.length c9, .slice A10 x.f10.length c10, .slice A11 x.f11.length c11, .slice A12 x.f12.length c12], rfl, ⟨A3, c3, rfl, l3, g3⟩, ⟨[.slice A4 x.f4.length c4], [.bool x.f5, .int .u32 x.f6, .bool x.f7, .slice A8 x.f8.length c8, .slice A9 x.f9.length c9, .slice A10 x.f10.length c10, .slice A11 x.f11.length c11, .slice A12 x.f12.length c12], rfl, ⟨A4, c4, rfl, l4, g4⟩, ⟨[.bool x.f5], [.int .u32 x.f6, .bool x.f7, .slice A8 x.f8.length c8, .slice A9 x.f9.length c9, .slice A10 x.f10.length c10, .slice A11 x.f11.length c11, .slice A12 x.f12.length c12], rfl, rfl, ⟨[.int .u32 x.f6], [.bool x.f7, .slice A8 x.f8.length c8, .slice A9 x.f9.length c9, .slice A10 x.f10.length c10, .slice A11 x.f11.length c11, .slice A12 x.f12.length c12], rfl, rfl, ⟨[.bool x.f7], [.slice A8 x.f8.length c8, .slice A9 x.f9.length c9, .slice A10 x.f10.length c10, .slice A11 x.f11.length c11, .slice A12 x.f12.length c12], rfl, rfl, ⟨[.slice A8 x.f8.length c8], [.slice A9 x.f9.length c9, .slice A10 x.f10.length c10, .slice A11 x.f11.length c11, .slice A12 x.f12.length c12], rfl, ⟨A8, c8, rfl, l8, g8⟩, ⟨[.slice A9 x.f9.length c9], [.slice A10 x.f10.length c10, .slice A11 x.f11.length c11, .slice A12 x.f12.length c12], rfl, ⟨A9, c9, rfl, l9, g9⟩, ⟨[.slice A10 x.f10.length c10], [.slice A11 x.f11.length c11, .slice A12 x.f12.length c12], rfl, ⟨A10, c10, rfl, l10, g10⟩, ⟨[.slice A11 x.f11.length c11], [.slice A12 x.f12.length c12], rfl, ⟨A11, c11, rfl, l11, g11⟩, ⟨A12, c12, rfl, l12, g12⟩⟩⟩⟩⟩⟩⟩⟩⟩⟩⟩⟩⟩
theorem k140_mkM (w : World) (base : Nat) (ok : Nat → Prop) (x : S140) {v2 : Value} (g2 : Kd.string.R 9 w base ok v2 x.f2) {v3 : Value} (g3 : (Kd.int .u16).R 22 w base ok v3 x.f3) {v4 : Value} (g4 : k171.R 171 w base ok v4 x.f4) {v8 : Value} (g8 : k223.R 223 w base ok v8 x.f8) {v9 : Value} (g9 : k223.R 223 w base ok v9 x.f9) {v10 : Value} (g10 : (Kd.int .u16).R 22 w base ok v10 x.f10) {v11 : Value} (g11 : k233.R 233 w base ok v11 x.f11) {v12 : Value} (g12 : k250.R 250 w base ok v12 x.f12) : k140.M w base ok x [.int .u16 x.f0, .string x.f1, v2, v3, v4, .bool x.f5, .int .u32 x.f6, .bool x.f7, v8, v9, v10, v11, v12] := ⟨[.int .u16 x.f0], [.string x.f1, v2, v3, v4, .bool x.f5, .int .u32 x.f6, .bool x.f7, v8, v9, v10, v11, v12], rfl, rfl, ⟨[.string x.f1], [v2, v3, v4, .bool x.f5, .int .u32 x.f6, .bool x.f7, v8, v9, v10, v11, v12], rfl, rfl, ⟨[v2], [v3, v4, .bool x.f5, .int .u32 x.f6, .bool x.f7, v8, v9, v10, v11, v12], rfl, ⟨v2, rfl, g2⟩, ⟨[v3], [v4, .bool x.f5, .int .u32 x.f6, .bool x.f7, v8, v9, v10, v11, v12], rfl, ⟨v3, rfl, g3⟩, ⟨[v4], [.bool x.f5, .int .u32 x.f6, .bool x.f7, v8, v9, v10, v11, v12], rfl, ⟨v4, rfl, g4⟩, ⟨[.bool x.f5], [.int .u32 x.f6, .bool x.f7, v8, v9, v10, v11, v12], rfl, rfl, ⟨[.int .u32 x.f6], [.bool x.f7, v8, v9, v10, v11, v12], rfl, rfl, ⟨[.bool x.f7], [v8, v9, v10, v11, v12], rfl, rfl, ⟨[v8], [v9, v10, v11, v12], rfl, ⟨v8, rfl, g8⟩, ⟨[v9], [v10, v11, v12], rfl, ⟨v9, rfl, g9⟩, ⟨[v10], [v11, v12], rfl, ⟨v10, rfl, g10⟩, ⟨[v11], [v12], rfl, ⟨v11, rfl, g11⟩, ⟨v12, rfl, g12⟩⟩⟩⟩⟩⟩⟩⟩⟩⟩⟩⟩⟩
def rd_T140 (xs : List S140) (i : Int) : S140 := xs.getD i.toNat z140
theorem at_T140 {w : World} {A : Option Addr} {n : Nat} {xs : List S140} (h : Kd.C k140 w A n xs) (i : Int) (h0 : 0 ≤ i) (h1 : i < n) : ∃ ad A2 c2 A3 c3 A4 c4 A8 c8 A9 c9 A10 c10 A11 c11 A12 c12, A = some ad ∧ w.cell? (ad.add (i.toNat * 13)) = some (.int .u16 (rd_T140 xs i).f0) ∧ w.cell? ⟨(ad.add (i.toNat * 13)).block, (ad.add (i.toNat * 13)).off + 1, none⟩ = some (.string (rd_T140 xs i).f1) ∧ w.cell? ⟨(ad.add (i.toNat * 13)).block, (ad.add (i.toNat * 13)).off + 2, none⟩ = some (.slice A2 (rd_T140 xs i).f2.length c2) ∧ w.cell? ⟨(ad.add (i.toNat * 13)).block, (ad.add (i.toNat * 13)).off + 3, none⟩ = some (.slice A3 (rd_T140 xs i).f3.length c3) ∧ w.cell? ⟨(ad.add (i.toNat * 13)).block, (ad.add (i.toNat * 13)).off + 4, none⟩ = some (.slice A4 (rd_T140 xs i).f4.length c4) ∧ w.cell? ⟨(ad.add (i.toNat * 13)).block, (ad.add (i.toNat * 13)).off + 5, none⟩ = some (.bool (rd_T140 xs i).f5) ∧ w.cell? ⟨(ad.add (i.toNat * 13)).block, (ad.add (i.toNat * 13)).off + 6, none⟩ = some (.int .u32 (rd_T140 xs i).f6) ∧ w.cell? ⟨(ad.add (i.toNat * 13)).block, (ad.add (i.toNat * 13)).off + 7, none⟩ = some (.bool (rd_T140 xs i).f7) ∧ w.cell? ⟨(ad.add (i.toNat * 13)).block, (ad.add (i.toNat * 13)).off + 8, none⟩ = some (.slice A8 (rd_T140 xs i).f8.length c8) ∧ w.cell? ⟨(ad.add (i.toNat * 13)).block, (ad.add (i.toNat * 13)).off + 9, none⟩ = some (.slice A9 (rd_T140 xs i).f9.length c9) ∧ w.cell? ⟨(ad.add (i.toNat * 13)).block, (ad.add (i.toNat * 13)).off + 10, none⟩ = some (.slice A10 (rd_T140 xs i).f10.length c10) ∧ w.cell? ⟨(ad.add (i.toNat * 13)).block, (ad.add (i.toNat * 13)).off + 11, none⟩ = some (.slice A11 (rd_T140 xs i).f11.length c11) ∧ w.cell? ⟨(ad.add (i.toNat * 13)).block, (ad.add (i.toNat * 13)).off + 12, none⟩ = some (.slice A12 (rd_T140 xs i).f12.length c12) ∧ (rd_T140 xs i).f2.length ≤ c2 ∧ Kd.string.C w A2 (rd_T140 xs i).f2.length (rd_T140 xs i).f2 ∧ (rd_T140 xs i).f3.length ≤ c3 ∧ (Kd.int .u16).C w A3 (rd_T140 xs i).f3.length (rd_T140 xs i).f3 ∧ (rd_T140 xs i).f4.length ≤ c4 ∧ k171.C w A4 (rd_T140 xs i).f4.length (rd_T140 xs i).f4 ∧ (rd_T140 xs i).f8.length ≤ c8 ∧ k223.C w A8 (rd_T140 xs i).f8.length (rd_T140 xs i).f8 ∧ (rd_T140 xs i).f9.length ≤ c9 ∧ k223.C w A9 (rd_T140 xs i).f9.length (rd_T140 xs i).f9 ∧ (rd_T140 xs i).f10.length ≤ c10 ∧ (Kd.int .u16).C w A10 (rd_T140 xs i).f10.length (rd_T140 xs i).f10 ∧ (rd_T140 xs i).f11.length ≤ c11 ∧ k233.C w A11 (rd_T140 xs i).f11.length (rd_T140 xs i).f11 ∧ (rd_T140 xs i).f12.length ≤ c12 ∧ k250.C w A12 (rd_T140 xs i).f12.length (rd_T140 xs i).f12 := by
  obtain ⟨ad, c, e, _, hK, hc0⟩ := Kd.C_get h z140 i h0 h1
  have hc : ∀ j u, c[j]? = some u → w.cell? (ad.add (i.toNat * 13 + j)) = some u := hc0
  obtain ⟨A2, c2, A3, c3, A4, c4, A8, c8, A9, c9, A10, c10, A11, c11, A12, c12, rfl, l2, g2, l3, g3, l4, g4, l8, g8, l9, g9, l10, g10, l11, g11, l12, g12⟩ := k140_open hK
  exact ⟨ad, A2, c2, A3, c3, A4, c4, A8, c8, A9, c9, A10, c10, A11, c11, A12, c12, e, hc 0 _ rfl, by rw [← add_field _ _ 1 (by omega)]; exact hc 1 _ rfl, by rw [← add_field _ _ 2 (by omega)]; exact hc 2 _ rfl, by rw [← add_field _ _ 3 (by omega)]; exact hc 3 _ rfl, by rw [← add_field _ _ 4 (by omega)]; exact hc 4 _ rfl, by rw [← add_field _ _ 5 (by omega)]; exact hc 5 _ rfl, by rw [← add_field _ _ 6 (by omega)]; exact hc 6 _ rfl, by rw [← add_field _ _ 7 (by omega)]; exact hc 7 _ rfl, by rw [← add_field _ _ 8 (by omega)]; exact hc 8 _ rfl, by rw [← add_field _ _ 9 (by omega)]; exact hc 9 _ rfl, by rw [← add_field _ _ 10 (by omega)]; exact hc 10 _ rfl, by rw [← add_field _ _ 11 (by omega)]; exact hc 11 _ rfl, by rw [← add_field _ _ 12 (by omega)]; exact hc 12 _ rfl, l2, g2, l3, g3, l4, g4, l8, g8, l9, g9, l10, g10, l11, g11, l12, g12⟩

def rd_L21 (xs : List (List S140)) (i : Int) : (List S140) := xs.getD i.toNat ([] : List S140)
theorem at_L21 {w : World} {A : Option Addr} {n : Nat} {xs : List (List S140)} (h : Kd.C (Kd.slice 140 k140) w A n xs) (i : Int) (h0 : 0 ≤ i) (h1 : i < n) : ∃ ad A0 c0, A = some ad ∧ w.cell? (ad.add i.toNat) = some (.slice A0 (rd_L21 xs i).length c0) ∧ (rd_L21 xs i).length ≤ c0 ∧ k140.C w A0 (rd_L21 xs i).length (rd_L21 xs i) := by
  obtain ⟨ad, c, e, _, hK, hc0⟩ := Kd.C_get h ([] : List S140) i h0 h1
  have hc : ∀ j u, c[j]? = some u → w.cell? (ad.add (i.toNat * 1 + j)) = some u := hc0
  obtain ⟨A0, c0, rfl, l0, g0⟩ := hK
  exact ⟨ad, A0, c0, e, by have hq := hc 0 _ rfl; rwa [Nat.mul_one, Nat.add_zero] at hq, l0, g0⟩

/-! #### struct type 117 -/
structure S117 where
  f0 : ByteArray
  f1 : (List S140)
def z117 : S117 := ⟨(⟨#[]⟩ : ByteArray), ([] : List S140)⟩
def k117 : Kd S117 := Kd.iso (Kd.pair Kd.string (Kd.slice 140 k140)) (fun x : S117 => (x.f0, x.f1))
theorem k117_open {w : World} {x : S117} {cs : List Value} (h : k117.K w x cs) : ∃ A1 c1, cs = [.string x.f0, .slice A1 x.f1.length c1] ∧ x.f1.length ≤ c1 ∧ k140.C w A1 x.f1.length x.f1 := by
  obtain ⟨_, _, rfl, rfl, ⟨A1, c1, rfl, l1, g1⟩⟩ := h
  exact ⟨A1, c1, rfl, l1, g1⟩
theorem k117_openM {w : World} {base : Nat} {ok : Nat → Prop} {x : S117} {cs : List Value} (h : k117.M w base ok x cs) : ∃ v1, cs = [.string x.f0, v1] ∧ k140.R 140 w base ok v1 x.f1 := by
  obtain ⟨_, _, rfl, rfl, ⟨v1, rfl, g1⟩⟩ := h
  exact ⟨v1, rfl, g1⟩
theorem k117_mk (w : World) (x : S117) {A1 : Option Addr} {c1 : Nat} (l1 : x.f1.length ≤ c1) (g1 : k140.C w A1 x.f1.length x.f1) : k117.K w x [.string x.f0, .slice A1 x.f1.length c1] := ⟨[.string x.f0], [.slice A1 x.f1.length c1], rfl, rfl, ⟨A1, c1, rfl, l1, g1⟩⟩
theorem k117_mkM (w : World) (base : Nat) (ok : Nat → Prop) (x : S117) {v1 : Value} (g1 : k140.R 140 w base ok v1 x.f1) : k117.M w base ok x [.string x.f0, v1] := ⟨[.string x.f0], [v1], rfl, rfl, ⟨v1, rfl, g1⟩⟩
def rd_T117 (xs : List S117) (i : Int) : S117 := xs.getD i.toNat z117
theorem at_T117 {w : World} {A : Option Addr} {n : Nat} {xs : List S117} (h : Kd.C k117 w A n xs) (i : Int) (h0 : 0 ≤ i) (h1 : i < n) : ∃ ad A1 c1, A = some ad ∧ w.cell? (ad.add (i.toNat * 2)) = some (.string (rd_T117 xs i).f0) ∧ w.cell? ⟨(ad.add (i.toNat * 2)).block, (ad.add (i.toNat * 2)).off + 1, none⟩ = some (.slice A1 (rd_T117 xs i).f1.length c1) ∧ (rd_T117 xs i).f1.length ≤ c1 ∧ k140.C w A1 (rd_T117 xs i).f1.length (rd_T117 xs i).f1 := by
  obtain ⟨ad, c, e, _, hK, hc0⟩ := Kd.C_get h z117 i h0 h1
  have hc : ∀ j u, c[j]? = some u → w.cell? (ad.add (i.toNat * 2 + j)) = some u := hc0
  obtain ⟨A1, c1, rfl, l1, g1⟩ := k117_open hK
  exact ⟨ad, A1, c1, e, hc 0 _ rfl, by rw [← add_field _ _ 1 (by omega)]; exact hc 1 _ rfl, l1, g1⟩

end Go.Proofs.YtkagkopjhgnnlaaGreatDoor.PFnHandshakeKind
