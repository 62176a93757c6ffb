/- Proved: laws.FnHelloHash returns true for every message. Conditions: those of the row alone (the four listed package variables read as the program lays them). -/
import Derived.Test.YtgnmgkpfgmpdfaaGreatDoorCards
import Derived.Test.YtgnmgkpfgmpdfaaGreatDoorTie
import Derived.Test.YtgnmgkpfgmpdfaaGreatDoorSSameLift
import Derived.Test.YtgnmgkpfgmpdfaaGreatDoorSHashW
import Derived.Test.YtgnmgkpfgmpdfaaGreatDoorSRdx
import Derived.JoinedOf
import Derived.Stop.Joined
import Derived.ProofKit
import Derived.ChangeSame
import Derived.ChangeVars
import Derived.RowKit
import Derived.RowKitTokens
import Derived.LaidLaws
import Derived.LaidMore
import Derived.LaidHandle
import Derived.OpenShut
import Derived.ChangeMaps5
import Derived.Stop.LaidErr
import Derived.Lib.LaidTab
import Derived.Carry
set_option linter.unusedVariables false
set_option linter.unusedSimpArgs false
section
namespace Go.Proofs.YtgnmgkpfgmpdfaaGreatDoor
theorem andh {a b : Bool} (h : a = true) (k : b = true) : (a && b) = true := by rw [h, k]; rfl
set_option maxRecDepth 100000
theorem jh1 : Rows.fnHelloHashRow.wf (OpenSpec.ofChange Rows.fnHelloHashSpec) = true := by kernel_rfl
theorem jh2 : laidOutB Tryz.prog = true := by kernel_rfl
theorem jh3 : mapsRowed Tryz.prog = true := by kernel_rfl
theorem jh4 : Tryz.f3.params.all (Tryz.prog.readableRec ·) = true := by kernel_rfl
theorem jh5 : namedTie Tryz.prog Rows.fnHelloHashRow.named Rows.fnHelloHashSpec.vars = true := by kernel_rfl
theorem jh6 : (Rows.fnHelloHashRow.stops == []) = true := by kernel_rfl
theorem jh7 : (Tryz.prog.stops == []) = true := by kernel_rfl
theorem jh8 : (Rows.fnHelloHashRow.knobs == []) = true := by kernel_rfl
theorem jh9 : (Tryz.prog.stopKnobs == []) = true := by kernel_rfl
theorem jh10 : (Rows.fnHelloHashRow.inPlace == Tryz.prog.inPlace 3) = true := by kernel_rfl
theorem jh11 : (Rows.fnHelloHashRow.unfollowed == Tryz.prog.unfollowed 3) = true := by kernel_rfl
theorem jh12 : (Rows.fnHelloHashRow.recurses == Tryz.prog.recurses 3) = true := by kernel_rfl
theorem jh13 : (Rows.fnHelloHashRow.named == Tryz.prog.varsNamed 3) = true := by kernel_rfl
theorem jh14 : (Rows.fnHelloHashRow.maps == (Tryz.f3.params.toList ++ Rows.fnHelloHashSpec.plain.varTypes Tryz.prog).any (Tryz.prog.mapsRec ·)) = true := by kernel_rfl
theorem jh15 : (Rows.fnHelloHashRow.ifaces == (Tryz.f3.params.toList ++ Rows.fnHelloHashSpec.plain.varTypes Tryz.prog).any (Tryz.prog.ifacesRec ·)) = true := by kernel_rfl
theorem jh16 : (Rows.fnHelloHashRow.mapsOut == Tryz.prog.mapsAmong Tryz.f3.resultTypes.toList) = true := by kernel_rfl
theorem jh17 : (Rows.fnHelloHashRow.loops == (Tryz.f3.params.toList ++ Rows.fnHelloHashSpec.plain.varTypes Tryz.prog).any (Tryz.prog.loopsFrom ·)) = true := by kernel_rfl
theorem jh18 : (Rows.fnHelloHashRow.wideKeys == (Tryz.f3.params.toList ++ Rows.fnHelloHashSpec.plain.varTypes Tryz.prog ++ Tryz.f3.resultTypes.toList).any (Tryz.prog.wideKeysFrom ·)) = true := by kernel_rfl
theorem jh19 : Rows.fnHelloHashSpec.vars.all (Tryz.prog.varReadable ·) = true := by kernel_rfl
theorem jh20 : Tryz.f3.resultTypes.all (fun t => Tryz.prog.readableRec t && decide (t < Tryz.prog.types.size)) = true := by kernel_rfl
theorem jh21 : (Rows.fnHelloHashRow.ifacesOut == Tryz.f3.resultTypes.toList.any (Tryz.prog.ifacesRec ·)) = true := by kernel_rfl
theorem jh22 : (Rows.fnHelloHashRow.loopsOut == Tryz.f3.resultTypes.toList.any (Tryz.prog.loopsFrom ·)) = true := by kernel_rfl
theorem jh23 : (Rows.fnHelloHashRow.plainKeys == Tryz.prog.plainKeys) = true := by kernel_rfl
theorem jh24 : Rows.fnHelloHashRow.shortTexts.isNone = true := by kernel_rfl
theorem jh25 : Tryz.prog.stopsHeard = true := by kernel_rfl
theorem jh26 : Tryz.prog.mayEnter = true := by kernel_rfl
theorem jh27 : (Rows.fnHelloHashRow.lifted == Tryz.prog.liftsFinal) = true := by kernel_rfl
theorem jh28 : (Tryz.prog.make == some Rows.fnHelloHashRow.make) = true := by kernel_rfl
theorem jh29 : (Rows.fnHelloHashRow.kinds == (if Rows.fnHelloHashRow.domain.isEmpty then [] else Tryz.f3.params.toList.map fun t => match Tryz.prog.underlying t with | some (.int k) => some k | _ => none)) = true := by kernel_rfl
theorem jh30 : (Rows.fnHelloHashRow.pinned == Rows.fnHelloHashRow.pinnedBy) = true := by kernel_rfl
theorem jh31 : (Rows.fnHelloHashRow.veiled == (Tryz.f3.params.toList ++ Rows.fnHelloHashSpec.plain.varTypes Tryz.prog ++ Tryz.f3.resultTypes.toList).any (Tryz.prog.veiledRec ·)) = true := by kernel_rfl
theorem jh32 : Rows.fnHelloHashRow.veiledFits Tryz.prog Tryz.f3.params.toList (Tryz.f3.params.toList ++ Rows.fnHelloHashSpec.plain.varTypes Tryz.prog ++ Tryz.f3.resultTypes.toList) = true := by kernel_rfl
theorem hash_closed : joinedFacts Tryz.prog 3 Tryz.f3 Rows.fnHelloHashSpec Rows.fnHelloHashRow = true := by
  unfold joinedFacts
  exact (andh (andh (andh (andh (andh (andh (andh (andh (andh (andh (andh (andh (andh (andh (andh (andh (andh (andh (andh (andh (andh (andh (andh (andh (andh (andh (andh (andh (andh (andh (andh jh1 jh2) jh3) jh4) jh5) jh6) jh7) jh8) jh9) jh10) jh11) jh12) jh13) jh14) jh15) jh16) jh17) jh18) jh19) jh20) jh21) jh22) jh23) jh24) jh25) jh26) jh27) jh28) jh29) jh30) jh31) jh32)
end Go.Proofs.YtgnmgkpfgmpdfaaGreatDoor
end

/- The walk of laws.FnHelloHash lifted to the row: the four listed variables read, the arguments opened, the result shut. -/
section
namespace Go.Proofs.YtgnmgkpfgmpdfaaGreatDoor
open Go.ChangeShapes Go.WideShapes Go.RowKit Go.ChangeAt Go.WideMaps Go.ChangeMaps

set_option maxRecDepth 100000 in
theorem hash_lifted (os : Os) (started : os.Started) (H : Type) (enc : TypeId × Value → H) :
    ReturnsInHanded {} Tryz.checked os 3 .any (fun w args => (Rows.fnHelloHashSpec.pre enc Tryz.prog Tryz.f3 [] false w args ∧ laidMetH Tryz.prog laid4 w) ∧ sizedMet enc Tryz.prog Tryz.f3 (OpenSpec.ofChange Rows.fnHelloHashSpec) false w args)
      (Rows.fnHelloHashSpec.post enc Tryz.prog Tryz.f3 false true false false) := by
  refine returnsInHanded_of_change_and (C := Tryz.checked) (X := fun w _ => laidMetH Tryz.prog laid4 w) (fun _ _ _ hh h => h.of_heap hh) own_knob started (by kernel_rfl) Tryz.func3
    (ChangeSpec.witness_shaped (enc := enc) (C := Tryz.checked) (os := os) (X := fun w _ => laidMetH Tryz.prog laid4 w) false (World.doorLaid Tryz.prog 599 os) #[zeroMsg] 8 rfl (World.shaped_of_RefB (by kernel_rfl) (by kernel_rfl)) (by kernel_rfl) (by kernel_rfl) (by kernel_rfl) (door_met os _)) ?_
  intro W base args ds gs before hval0 hW _ hZ hL _
  have hval : ∀ (j : Nat) t v, Tryz.f3.params[j]? = some t → args[j]? = some v → Value.okWide Tryz.prog W .any base t v := hval0
  have hW' := hW
  obtain ⟨p, q, hA0, hV, rfl, hfz, hnd⟩ := hW
  have hA : DataW.TrodAll enc Tryz.prog W 0 (fun _ => true) true Tryz.f3.params.toList args.toList ds p := hA0
  rw [Tryz.params3] at hA hval
  obtain ⟨v0, d0, rfl, rfl, h0⟩ := trodAll_one hA
  obtain ⟨rfl, rfl⟩ := trodVars_none hV
  have hw0 : ∀ n ∈ d0.weights Tryz.prog 31, n ≤ reachBytes := fun n hn => of_decide_eq_true (List.all_eq_true.1 hZ n (weightsEach_mem (i := 0) (t := 31) (d := d0) (by kernel_rfl) rfl hn))
  obtain ⟨⟨cl⟩, e0, hsz⟩ := okWide_struct Tryz.underlying31 (hval 0 31 v0 rfl rfl)
  subst e0
  have t0 : Tr Tryz.prog W 31 cl := by
    obtain ⟨fuel, hf⟩ := h0
    exact ⟨H, enc, 0, fun _ => true, true, fuel, (d0, p), hf, hw0⟩
  obtain ⟨D, rfl, hx⟩ := rd_msg t0
  have hK := k_of_laid hL
  have hlt : ∀ x ∈ p, x.block < W.heap.size := fun x hx => by simpa using hW'.lt x (by simpa using hx)
  refine (hashlaw_any D W hx hK).mono fun e W' ⟨he, hw⟩ => ?_
  subst he
  refine ⟨_, rfl, _, _, _, [], p, [], hW', ?_, ?_, ?_, hw.frame _, fun h => by cases h⟩
  · exact trodAll_mk1 (shut_bool Tryz.underlying4 true)
  · exact trodAll_mk1 (Below.trod laid_out (by kernel_rfl) (of_decide_eq_true (by kernel_rfl)) h0 hw fun x hx => hlt x hx)
  · rfl

end Go.Proofs.YtgnmgkpfgmpdfaaGreatDoor
end

/- The closed facts of the row of laws.FnHelloHash, one by one: together they fell the kernel by memory. -/
section
namespace Go.Proofs.YtgnmgkpfgmpdfaaGreatDoor
open Go.ChangeShapes Go.WideShapes Go.RowKit Go.ChangeAt Go.WideMaps Go.ChangeMaps

theorem hash_holds : Rows.FnHelloHashSaid :=
  OpenClaim.holds_of_wide 3 Tryz.f3 rfl rfl rfl rfl rfl rfl rfl ⟨rfl, rfl, rfl, rfl, rfl⟩ rfl rfl rfl rfl rfl (by kernel_rfl) Tryz.func3 hash_closed
    (of_decide_eq_true (by kernel_rfl)) (by unfold Func.isWrapper; first | (rw [if_pos (by decide +kernel)]; kernel_rfl) | (rw [if_neg (by decide +kernel)]; exact ⟨rfl, rfl⟩))
    (fun os started H enc _ => hash_lifted os started H enc)

theorem hash_card : Rows.FnHelloHashCardSaid :=
  Claim7.holds_tied_plain_at .later [] [.data, .sentinel, .sentinel, .sentinel] true (true, "b338b816e847d95876a842d2aa5afeba89a0c0d4cde2234e3b5279125999d9fe") true
    hash_holds (fun _ h => by cases h) (by kernel_rfl) (fun _ h => by cases h) fnHelloHash_row_tie rfl ⟨rfl, rfl⟩ (by kernel_rfl) rfl
    (fun f fn hf hfn => by
      obtain rfl : f = 3 := Option.some.inj ((show Tryz.prog.funcNamed "pub-convoy/laws.FnHelloHash" = some 3 by kernel_rfl).symm.trans hf) |>.symm
      obtain rfl : fn = Tryz.f3 := (Option.some.inj (Tryz.func3.symm.trans hfn)).symm
      exact ⟨by kernel_rfl, fun j t ht => by
        rw [Tryz.params3] at ht
        have h3 : t = 31 := by
          rcases j with _ | j
          · simpa using ht.symm
          · simp at ht
        subst h3
        exact (show Tryz.prog.wantsStandIn 31 = false by kernel_rfl)⟩)
    (by kernel_rfl)
end Go.Proofs.YtgnmgkpfgmpdfaaGreatDoor
end
