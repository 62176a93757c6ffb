/- laws.FnHandshakeLength of a long cookie, walked. -/
import Derived.Test.YtkagkopjhgnnlaaGreatDoorLenAux
namespace Go.Proofs.YtkagkopjhgnnlaaGreatDoor
open Go.RowKit Go.Proofs.YtkagkopjhgnnlaaGreatDoorW.PrintWords Go.Proofs.YtkagkopjhgnnlaaGreatDoorW.PrintLast Go.Proofs.YtkagkopjhgnnlaaGreatDoorW.PrintMore Go.Proofs.YtkagkopjhgnnlaaGreatDoor.PFnHandshakeKind

set_option maxHeartbeats 16000000 in
set_option maxRecDepth 100000 in
theorem len_big (t l s o f : Int) (c : ByteArray) (w : World) (hc : ¬ c.size ≤ 255) :
    Calls Tryz.prog 4 #[.agg #[.int .u8 t, .int .u32 l, .int .u16 s, .int .u32 o, .int .u32 f], .string c] w fun e w' => e = .returned (.bool true) ∧ Below w.heap.size w w' := by
  have HB0 := Lib.hid (show Below w.heap.size w (w.alloc (.cells #[.int .u8 t, .int .u32 l, .int .u16 s, .int .u32 o, .int .u32 f] 26)) from (Below.refl _ _).alloc (Nat.le_refl _) _)
  have hc2 : ((c.size : Int) > 255) := by omega
  clear hc
  go_enter Tryz.func4, Tryz.ntmps4
  go_wp2_with fail
  all_goals
    refine bodyPost_ret (v := .bool true) (by simp [results, Tryz.results4, go_sem]) rfl ⟨rfl, HB0.out⟩
end Go.Proofs.YtkagkopjhgnnlaaGreatDoor
