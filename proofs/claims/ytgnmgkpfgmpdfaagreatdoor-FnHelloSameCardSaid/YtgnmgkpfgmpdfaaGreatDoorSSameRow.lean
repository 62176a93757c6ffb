/- Proved: laws.FnHelloSame returns true for every message, cookie and list of extensions. Conditions: those of the row alone (the four listed package variables read as the program lays them). -/
import Derived.Test.YtgnmgkpfgmpdfaaGreatDoorSSameLift
import Derived.Test.YtgnmgkpfgmpdfaaGreatDoorSSameFacts
import Derived.Test.YtgnmgkpfgmpdfaaGreatDoorTie
import Derived.Test.YtgnmgkpfgmpdfaaGreatDoorCards
import Derived.ChangeVars
import Derived.JoinedOf
import Derived.RowKit
import Derived.RowKitTokens
import Derived.LaidLaws
import Derived.LaidMore
import Derived.LaidHandle
import Derived.ProofKit
import Derived.OpenShut
import Derived.ChangeMaps5
import Derived.Stop.Joined
import Derived.Stop.LaidErr
import Derived.Lib.LaidTab
import Derived.Carry
set_option linter.unusedVariables false
set_option linter.unusedSimpArgs false
namespace Go.Proofs.YtgnmgkpfgmpdfaaGreatDoor
open Go.ChangeShapes Go.WideShapes Go.RowKit Go.ChangeAt Go.WideMaps Go.ChangeMaps

theorem same_holds : Rows.FnHelloSameSaid :=
  OpenClaim.holds_of_wide 4 Tryz.f4 rfl rfl rfl rfl rfl rfl rfl ⟨rfl, rfl, rfl, rfl, rfl⟩ rfl rfl rfl rfl rfl (by kernel_rfl) Tryz.func4 same_closed
    (of_decide_eq_true (by kernel_rfl)) (by unfold Func.isWrapper; first | (rw [if_pos (by decide +kernel)]; kernel_rfl) | (rw [if_neg (by decide +kernel)]; exact ⟨rfl, rfl⟩))
    (fun os started H enc _ => same_lifted os started H enc)

theorem same_card : Rows.FnHelloSameCardSaid :=
  Claim7.holds_tied_plain_at .later [] [.data, .sentinel, .sentinel, .sentinel] true (true, "b338b816e847d95876a842d2aa5afeba89a0c0d4cde2234e3b5279125999d9fe") true
    same_holds (fun _ h => by cases h) (by kernel_rfl) (fun _ h => by cases h) fnHelloSame_row_tie rfl ⟨rfl, rfl⟩ (by kernel_rfl) rfl
    (fun f fn hf hfn => by
      obtain rfl : f = 4 := Option.some.inj ((show Tryz.prog.funcNamed "pub-convoy/laws.FnHelloSame" = some 4 by kernel_rfl).symm.trans hf) |>.symm
      obtain rfl : fn = Tryz.f4 := (Option.some.inj (Tryz.func4.symm.trans hfn)).symm
      exact ⟨by kernel_rfl, fun j t ht => by
        rw [Tryz.params4] at ht
        have h3 : t = 31 ∨ t = 9 ∨ t = 25 := by
          rcases j with _ | _ | _ | j
          · exact .inl (by simpa using ht.symm)
          · exact .inr (.inl (by simpa using ht.symm))
          · exact .inr (.inr (by simpa using ht.symm))
          · simp at ht
        rcases h3 with rfl | rfl | rfl
        · exact (show Tryz.prog.wantsStandIn 31 = false by kernel_rfl)
        · exact (show Tryz.prog.wantsStandIn 9 = false by kernel_rfl)
        · exact (show Tryz.prog.wantsStandIn 25 = false by kernel_rfl)⟩)
    (by kernel_rfl)
end Go.Proofs.YtgnmgkpfgmpdfaaGreatDoor
