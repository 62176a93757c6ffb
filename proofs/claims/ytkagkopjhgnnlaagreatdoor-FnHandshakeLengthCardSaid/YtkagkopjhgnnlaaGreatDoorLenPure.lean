/- The bytes of a HelloVerifyRequest behind a header, in plain Lean; spec.HandshakeHeaderWrite of a header with whatever lengths. -/
import Derived.Test.YtkagkopjhgnnlaaGreatDoorPure
import Derived.Test.YtkagkopjhgnnlaaGreatDoorHdrWrite
namespace Go.Proofs.YtkagkopjhgnnlaaGreatDoor
open Go.RowKit Go.Proofs.YtkagkopjhgnnlaaGreatDoorW.PrintWords Go.Proofs.YtkagkopjhgnnlaaGreatDoorW.PrintLast Go.Proofs.YtkagkopjhgnnlaaGreatDoorW.PrintMore Go.Proofs.YtkagkopjhgnnlaaGreatDoor.PFnHandshakeKind

/-- The twelve bytes of a header of two lengths. -/
abbrev hb4 (t l s f : Int) : List Int := [t, l / 65536 % 256, l / 256 % 256, l % 256, s / 256 % 256, s % 256, 0, 0, 0, f / 65536 % 256, f / 256 % 256, f % 256]
/-- These and the three bytes of a HelloVerifyRequest ahead of its cookie. -/
abbrev hb5 (t l s f k : Int) : List Int := [t, l / 65536 % 256, l / 256 % 256, l % 256, s / 256 % 256, s % 256, 0, 0, 0, f / 65536 % 256, f / 256 % 256, f % 256, 254, 253, k]
theorem u64w (l : Int) (hl : 0 ≤ l) (hl1 : l < 16777216) : IntKind.u64.wrap l = l := by
  simp [IntKind.wrap, IntKind.signed, IntKind.bits]; omega
theorem hw4 (t l s f : Int) (hl : 0 ≤ l) (hl1 : l < 16777216) (hs : 0 ≤ s) (hs1 : s < 65536) (hf : 0 ≤ f) (hf1 : f < 16777216) (w : World) :
  Calls Tryz.prog 6 #[.agg #[.int .u8 t, .int .u32 l, .int .u16 s, .int .u32 0, .int .u32 f]] w fun e w' => e = .returned (.tuple #[.string (strOfNums (hb4 t l s f)), .bool true]) ∧ Below w.heap.size w w' := by
  refine spec_HandshakeHeaderWrite.calls 6 t l s 0 f (strOfNums (hb4 t l s f)) true w ?_
  have n1 : ¬ l ≥ 16777216 := by omega
  have n2 : ¬ (0 : Int) ≥ 16777216 := by omega
  have n3 : ¬ f ≥ 16777216 := by omega
  simp only [spec_HandshakeHeaderWrite.f, n1, n2, n3, if_false, decide_false, spec_HandshakeHeaderWrite.j0, Bool.false_eq_true, Option.bind_some, u64w l hl hl1, u64w f hf hf1, u64w s hs (by omega), u64w 0 (by omega) (by omega), rec3 1, rec2 1, strOfNums_app, strOfNums_size, List.cons_append, List.nil_append, List.length_cons, List.length_nil, Nat.reduceAdd, Nat.reduceLeDiff, if_true]
  rfl

/-- What the law hands to the reader. -/
theorem whole (t l s f k : Int) (c : ByteArray) : strOfNums (hb4 t l s f) ++ (strOfNums [254, 253] ++ strOfNums [k] ++ c) = strOfNums (hb5 t l s f k) ++ c := by
  rw [← ByteArray.append_assoc, ← ByteArray.append_assoc, strOfNums_app, strOfNums_app]
  rfl
theorem sb_back (xs : List Int) (b : ByteArray) (j : Nat) : sb (strOfNums xs ++ b) (xs.length + j) = sb b j := by
  unfold sb
  have h : ¬ xs.length + j < xs.length := by omega
  simp [strOfNums, List.getD, List.getElem?_append, h]
theorem cookie_of (t l s f k : Int) (c : ByteArray) : (List.range c.size).map (fun j => sb (strOfNums (hb5 t l s f k) ++ c) (15 + j)) = c.data.toList := by
  apply List.ext_getElem?
  intro j
  have h := fun j => sb_back (hb5 t l s f k) c j
  simp only [List.length_cons, List.length_nil, Nat.reduceAdd] at h
  generalize strOfNums (hb5 t l s f k) ++ c = S at h
  by_cases hj : j < c.size
  · have hj2 : j < c.data.toList.length := by rw [Array.length_toList]; exact hj
    rw [List.getElem?_map, List.getElem?_range hj, Option.map_some, h, List.getElem?_eq_getElem hj2]
    unfold sb
    rw [List.getD_eq_getElem?_getD, List.getElem?_eq_getElem hj2, Option.getD_some]
  · have hj2 : c.data.toList.length ≤ j := by rw [Array.length_toList]; exact Nat.le_of_not_lt hj
    rw [List.getElem?_eq_none hj2, List.getElem?_eq_none (by rw [List.length_map, List.length_range]; omega)]
end Go.Proofs.YtkagkopjhgnnlaaGreatDoor
