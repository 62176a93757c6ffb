/- The header's bytes as spec.recNum writes them, in plain Lean. -/
import Derived.Test.YtkagkopjhgnnlaaGreatDoorPFnHandshakeKindx1
import Derived.Test.YtkagkopjhgnnlaaGreatDoorRead1
namespace Go.Proofs.YtkagkopjhgnnlaaGreatDoor
open Go.RowKit Go.Proofs.YtkagkopjhgnnlaaGreatDoorW.PrintWords Go.Proofs.YtkagkopjhgnnlaaGreatDoorW.PrintLast Go.Proofs.YtkagkopjhgnnlaaGreatDoorW.PrintMore Go.Proofs.YtkagkopjhgnnlaaGreatDoor.PFnHandshakeKind

theorem rec3 (k : Nat) (a : Int) : spec_recNum.f (k + 4) a 3 = some (strOfNums [a / 65536 % 256, a / 256 % 256, a % 256]) := by
  simp [spec_recNum.f, spec_recNum.l0, wrap64, shr, IntKind.bits]
theorem rec2 (k : Nat) (a : Int) : spec_recNum.f (k + 4) a 2 = some (strOfNums [a / 256 % 256, a % 256]) := by
  simp [spec_recNum.f, spec_recNum.l0, wrap64, shr, IntKind.bits]
theorem strOfNums_app (xs ys : List Int) : strOfNums xs ++ strOfNums ys = strOfNums (xs ++ ys) := by
  apply ByteArray.ext
  simp [strOfNums]
theorem strOfNums_size (xs : List Int) : (strOfNums xs).size = xs.length := by
  simp [strOfNums, ByteArray.size]
/-- The twelve bytes of a header. -/
abbrev hb (t l s : Int) : List Int := [t, l / 65536 % 256, l / 256 % 256, l % 256, s / 256 % 256, s % 256, 0, 0, 0, l / 65536 % 256, l / 256 % 256, l % 256]
theorem sb_app (xs : List Int) (b : ByteArray) (j : Nat) (h : j < xs.length) : sb (strOfNums xs ++ b) j = UInt8.ofNat (xs.getD j 0).toNat := by
  unfold sb
  simp [strOfNums, List.getD, List.getElem?_append, h]
theorem sb_own (xs : List Int) (j : Nat) (h : j < xs.length) : sb (strOfNums xs) j = UInt8.ofNat (xs.getD j 0).toNat := by
  unfold sb
  simp [strOfNums, List.getD, h]
theorem of_nat (a : Int) (h : a < 256) (h0 : 0 ≤ a) : (UInt8.ofNat a.toNat).toNat = a.toNat := by
  simp; omega
theorem be3 (l : Int) (h0 : 0 ≤ l) (h1 : l < 16777216) : Lib.beNat [UInt8.ofNat (l / 65536 % 256).toNat, UInt8.ofNat (l / 256 % 256).toNat, UInt8.ofNat (l % 256).toNat] = l.toNat := by
  simp only [Lib.beNat, Lib.beFrom]
  rw [of_nat _ (by omega) (by omega), of_nat _ (by omega) (by omega), of_nat _ (by omega) (by omega)]
  omega
theorem be2 (l : Int) (h0 : 0 ≤ l) (h1 : l < 65536) : Lib.beNat [UInt8.ofNat (l / 256 % 256).toNat, UInt8.ofNat (l % 256).toNat] = l.toNat := by
  simp only [Lib.beNat, Lib.beFrom]
  rw [of_nat _ (by omega) (by omega), of_nat _ (by omega) (by omega)]
  omega
end Go.Proofs.YtkagkopjhgnnlaaGreatDoor
