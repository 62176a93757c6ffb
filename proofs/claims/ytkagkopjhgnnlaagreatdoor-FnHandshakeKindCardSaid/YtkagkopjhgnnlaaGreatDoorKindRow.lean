/- Proved: laws.FnHandshakeKind returns true for every kind, sequence number and body. Conditions: those of the row alone (the three listed package variables read as the program lays them). -/
import Derived.Test.YtkagkopjhgnnlaaGreatDoorTie
import Derived.Test.YtkagkopjhgnnlaaGreatDoorCards
import Derived.Test.YtkagkopjhgnnlaaGreatDoorKindW
import Derived.ChangeSame
import Derived.ChangeVars
import Derived.JoinedOf
import Derived.RowKit
import Derived.RowKitTokens
import Derived.LaidLaws
import Derived.LaidMore
import Derived.LaidHandle
import Derived.ProofKit
import Derived.OpenShut
import Derived.ChangeMaps5
import Derived.Stop.Joined
import Derived.Stop.LaidErr
namespace Go.Proofs.YtkagkopjhgnnlaaGreatDoor
open Go.ChangeShapes Go.WideShapes Go.RowKit Go.ChangeAt Go.WideMaps Go.ChangeMaps

theorem own : ownKnob Tryz.prog.godebug = none := by kernel_rfl
abbrev laid3 : List (String × DataW Unit) := [("pub-convoy/pub/dtls/pkg/protocol/handshake.errBufferTooSmall", Rows.laid_pub_convoy_pub_dtls_pkg_protocol_handshake_errBufferTooSmall), ("pub-convoy/pub/dtls/pkg/protocol/handshake.errLengthMismatch", Rows.laid_pub_convoy_pub_dtls_pkg_protocol_handshake_errLengthMismatch), ("pub-convoy/pub/dtls/pkg/protocol/handshake.errNotImplemented", Rows.laid_pub_convoy_pub_dtls_pkg_protocol_handshake_errNotImplemented)]
theorem gNot : Tryz.prog.globalNamed "pub-convoy/pub/dtls/pkg/protocol/handshake.errNotImplemented" = some 1 := by kernel_rfl
theorem gNotType : (Tryz.prog.globals[1]?).map (·.type) = some 52 := by kernel_rfl
theorem cells328 : Tryz.prog.cellsOf 328 = 1 := by kernel_rfl
theorem cells9 : Tryz.prog.cellsOf 9 = 1 := by kernel_rfl
theorem star : "*" ++ "errors.errorString" = "*errors.errorString" := by decide
theorem row253 (u : TypeId) (h : Tryz.prog.typeName? 3 u = some "*errors.errorString") : u = 253 :=
  typeName_ptr_named (nm := "errors.errorString") (by rw [star]; kernel_rfl) (by kernel_rfl) (by decide) u (by rw [star]; exact h)

theorem not_of_laid {W : World} (h : laidMetH Tryz.prog laid3 W) : ∃ a : Addr, W.cell? ⟨1, 0, none⟩ = some (.iface 253 (.pointer (some a))) := by
  rw [MakeChecks.laidMetH_plain _ _ _ (by kernel_rfl)] at h
  obtain ⟨a, s, hv, _, _, _⟩ := laid_sentinel h.tail.tail gNot gNotType Tryz.underlying52 row253 Tryz.underlying253 Tryz.underlying328 rfl rfl Tryz.underlying9 cells328 cells9
  exact ⟨a, by simpa using World.var?_cell gNot hv 0⟩

theorem door_met (os : Os) (args : Array Value) : laidMetH Tryz.prog laid3 ((World.doorLaid Tryz.prog 598 os).forCall (fun _ _ => 0) ⟨#[], args, []⟩).memory :=
  laidMetH_of_parts3 (fuel := 8) (laidMet_of_run' 8 (by kernel_rfl) (by kernel_rfl)) (by kernel_rfl) (by kernel_rfl)

set_option maxRecDepth 100000 in
theorem kind_lifted (os : Os) (started : os.Started) (H : Type) (enc : TypeId × Value → H) :
    ReturnsInHanded {} Tryz.checked os 3 .any (fun w args => (Rows.fnHandshakeKindSpec.pre enc Tryz.prog Tryz.f3 [] false w args ∧ laidMetH Tryz.prog laid3 w) ∧ sizedMet enc Tryz.prog Tryz.f3 (OpenSpec.ofChange Rows.fnHandshakeKindSpec) false w args)
      (Rows.fnHandshakeKindSpec.post enc Tryz.prog Tryz.f3 false true false false) := by
  refine returnsInHanded_of_change_and (C := Tryz.checked) (X := fun w _ => laidMetH Tryz.prog laid3 w) (fun _ _ _ hh h => h.of_heap hh) own started (by kernel_rfl) Tryz.func3
    (ChangeSpec.witness_shaped (enc := enc) (C := Tryz.checked) (os := os) (X := fun w _ => laidMetH Tryz.prog laid3 w) false (World.doorLaid Tryz.prog 598 os) #[.int .u8 0, .int .u16 0, .string ⟨#[]⟩] 8 rfl (World.shaped_of_RefB (by kernel_rfl) (by kernel_rfl)) (by kernel_rfl) (by kernel_rfl) (by kernel_rfl) (door_met os _)) ?_
  intro W base args ds gs before hval0 hW _ _ hL _
  have hval : ∀ (j : Nat) t v, Tryz.f3.params[j]? = some t → args[j]? = some v → Value.okWide Tryz.prog W .any base t v := hval0
  have hW' := hW
  obtain ⟨p, q, hA0, hV, rfl, hfz, hnd⟩ := hW
  have hA : DataW.TrodAll enc Tryz.prog W 0 (fun _ => true) true Tryz.f3.params.toList args.toList ds p := hA0
  rw [Tryz.params3] at hA hval
  obtain ⟨v0, v1, v2, d0, d1, d2, p0, p1, p2, rfl, rfl, rfl, h0, h1, h2⟩ := trodAll_three hA
  obtain ⟨rfl, rfl⟩ := trodVars_none hV
  obtain ⟨n, rfl, rfl, rfl, hwn⟩ := open_int Tryz.underlying5 (hval 0 5 v0 rfl rfl) h0
  obtain ⟨m, rfl, rfl, rfl, hwm⟩ := open_int Tryz.underlying22 (hval 1 22 v1 rfl rfl) h1
  obtain ⟨s, rfl, rfl, rfl, hs⟩ := open_string Tryz.underlying9 (hval 2 9 v2 rfl rfl) h2
  obtain ⟨a, hc⟩ := not_of_laid hL
  simp only [List.append_nil] at hW'
  have hn : 0 ≤ n ∧ n < 256 := by
    have h : IntKind.u8.min ≤ n ∧ n ≤ IntKind.u8.max := by simpa [Lit.wf] using hwn
    have e1 : IntKind.u8.min = 0 := rfl
    have e2 : IntKind.u8.max = 255 := rfl
    omega
  have hm : 0 ≤ m ∧ m < 65536 := by
    have h : IntKind.u16.min ≤ m ∧ m ≤ IntKind.u16.max := by simpa [Lit.wf] using hwm
    have e1 : IntKind.u16.min = 0 := rfl
    have e2 : IntKind.u16.max = 65535 := rfl
    omega
  refine (kind_walk n m s 253 (some a) W hc hn.1 hn.2 hm.1 hm.2).mono fun e W' ⟨he, hw⟩ => ?_
  subst he
  refine ⟨_, rfl, _, _, _, [], [], [], hW', ?_, ?_, ?_, hw.frame _, fun h => by cases h⟩
  · exact trodAll_mk1 (shut_bool Tryz.underlying4 true)
  · exact trodAll_mk3 (shut_int Tryz.underlying5 hwn) (shut_int Tryz.underlying22 hwm) (shut_string Tryz.underlying9 hs)
  · rfl

theorem kind_holds : Rows.FnHandshakeKindSaid :=
  OpenClaim.holds_of_wide 3 Tryz.f3 rfl rfl rfl rfl rfl rfl rfl ⟨rfl, rfl, rfl, rfl, rfl⟩ rfl rfl rfl rfl rfl (by kernel_rfl) Tryz.func3 (by kernel_rfl)
    (of_decide_eq_true (by kernel_rfl)) (by unfold Func.isWrapper; first | (rw [if_pos (by decide +kernel)]; kernel_rfl) | (rw [if_neg (by decide +kernel)]; exact ⟨rfl, rfl⟩))
    (fun os started H enc _ => kind_lifted os started H enc)

theorem kind_card : Rows.FnHandshakeKindCardSaid :=
  Claim7.holds_tied_plain_at .later [] [.sentinel, .sentinel, .sentinel] true (true, "166aeee40a4a9af767ea9f10860bcb80ae175c76832f3ab1f324bd84e6db9b12") true
    kind_holds (fun _ h => by cases h) (by kernel_rfl) (fun _ h => by cases h) fnHandshakeKind_row_tie rfl ⟨rfl, rfl⟩ (by kernel_rfl) rfl
    (fun f fn hf hfn => by
      obtain rfl : f = 3 := Option.some.inj ((show Tryz.prog.funcNamed "pub-convoy/laws.FnHandshakeKind" = some 3 by kernel_rfl).symm.trans hf) |>.symm
      obtain rfl : fn = Tryz.f3 := (Option.some.inj (Tryz.func3.symm.trans hfn)).symm
      exact ⟨by kernel_rfl, fun j t ht => by
        rw [Tryz.params3] at ht
        have h3 : t = 5 ∨ t = 22 ∨ t = 9 := by
          rcases j with _ | _ | _ | j
          · exact .inl (by simpa using ht.symm)
          · exact .inr (.inl (by simpa using ht.symm))
          · exact .inr (.inr (by simpa using ht.symm))
          · simp at ht
        rcases h3 with rfl | rfl | rfl
        · exact (show Tryz.prog.wantsStandIn 5 = false by kernel_rfl)
        · exact (show Tryz.prog.wantsStandIn 22 = false by kernel_rfl)
        · exact (show Tryz.prog.wantsStandIn 9 = false by kernel_rfl)⟩)
    (by kernel_rfl)
end Go.Proofs.YtkagkopjhgnnlaaGreatDoor
