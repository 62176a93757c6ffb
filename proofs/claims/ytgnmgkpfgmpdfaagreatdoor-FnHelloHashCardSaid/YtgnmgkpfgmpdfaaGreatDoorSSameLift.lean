/- The walk of laws.FnHelloSame lifted to the row: the four listed variables read, the arguments opened, the result shut. -/
import Derived.Test.YtgnmgkpfgmpdfaaGreatDoorTie
import Derived.Test.YtgnmgkpfgmpdfaaGreatDoorCards
import Derived.Test.YtgnmgkpfgmpdfaaGreatDoorSSame
import Derived.Test.YtgnmgkpfgmpdfaaGreatDoorSRdx
import Derived.ChangeSame
import Derived.ChangeVars
import Derived.JoinedOf
import Derived.RowKit
import Derived.RowKitTokens
import Derived.LaidLaws
import Derived.LaidMore
import Derived.LaidHandle
import Derived.ProofKit
import Derived.OpenShut
import Derived.ChangeMaps5
import Derived.Stop.Joined
import Derived.Stop.LaidErr
import Derived.Lib.LaidTab
import Derived.Carry
set_option linter.unusedVariables false
set_option linter.unusedSimpArgs false
namespace Go.Proofs.YtgnmgkpfgmpdfaaGreatDoor
open Go.ChangeShapes Go.WideShapes Go.RowKit Go.ChangeAt Go.WideMaps Go.ChangeMaps

theorem own_knob : ownKnob Tryz.prog.godebug = none := by kernel_rfl
theorem laid_out : laidOutB Tryz.prog = true := by kernel_rfl
abbrev laid4 : List (String × DataW Unit) := [("pub-convoy/pub/sha256._K", Rows.laid_pub_convoy_pub_sha256_K), ("pub-convoy/pub/dtls/pkg/protocol/handshake.errCookieTooLong", Rows.laid_pub_convoy_pub_dtls_pkg_protocol_handshake_errCookieTooLong), ("pub-convoy/pub/dtls/pkg/protocol/handshake.errSessionIDTooLong", Rows.laid_pub_convoy_pub_dtls_pkg_protocol_handshake_errSessionIDTooLong), ("pub-convoy/pub/dtls/pkg/protocol/handshake.errCompressionMethodsTooLong", Rows.laid_pub_convoy_pub_dtls_pkg_protocol_handshake_errCompressionMethodsTooLong)]
theorem gK : Tryz.prog.globalNamed "pub-convoy/pub/sha256._K" = some 4 := by kernel_rfl
theorem laidK : (Rows.laid_pub_convoy_pub_sha256_K : DataW Unit) = Lib.tabData .u32 Kc := by kernel_rfl

theorem k_of_laid {W : World} (h : laidMetH Tryz.prog laid4 W) : ∀ j, j < 64 → W.cell? ⟨4, j, none⟩ = some (.int .u32 (Kc.getD j 0)) := by
  rw [MakeChecks.laidMetH_plain _ _ _ (by kernel_rfl)] at h
  rw [laid4, laidK] at h
  have ht : Lib.TabIs Tryz.prog W "pub-convoy/pub/sha256._K" .u32 Kc := Lib.tabIs_of_head (g := 4) (t := 315) (e := 22) (n := 64) gK (by kernel_rfl) (by kernel_rfl) (by kernel_rfl) (by kernel_rfl) (by kernel_rfl) h
  intro j hj
  exact ht.cell gK j (by have : Kc.length = 64 := by kernel_rfl
                         omega)

theorem door_met (os : Os) (args : Array Value) : laidMetH Tryz.prog laid4 ((World.doorLaid Tryz.prog 599 os).forCall (fun _ _ => 0) ⟨#[], args, []⟩).memory :=
  laidMetH_of_parts3 (fuel := 65) (laidMet_of_run' 65 (by kernel_rfl) (by kernel_rfl)) (by kernel_rfl) (by kernel_rfl)

/-- A message of zeros: the start that fits. -/
abbrev zeroMsg : Value := .agg #[.int .u8 0, .bool false, .int .u8 0, .int .u8 0, .int .u32 0, .string ⟨#[]⟩, .string ⟨#[]⟩, .string ⟨#[]⟩, .slice none 0 0, .slice none 0 0, .slice none 0 0, .slice none 0 0, .slice none 0 0, .slice none 0 0, .int .u16 0, .int .u16 0, .string ⟨#[]⟩, .string ⟨#[]⟩, .string ⟨#[]⟩, .int .i64 0, .int .u8 0, .int .u16 0, .string ⟨#[]⟩, .string ⟨#[]⟩, .slice none 0 0]

set_option maxRecDepth 100000 in
theorem same_lifted (os : Os) (started : os.Started) (H : Type) (enc : TypeId × Value → H) :
    ReturnsInHanded {} Tryz.checked os 4 .any (fun w args => (Rows.fnHelloSameSpec.pre enc Tryz.prog Tryz.f4 [] false w args ∧ laidMetH Tryz.prog laid4 w) ∧ sizedMet enc Tryz.prog Tryz.f4 (OpenSpec.ofChange Rows.fnHelloSameSpec) false w args)
      (Rows.fnHelloSameSpec.post enc Tryz.prog Tryz.f4 false true false false) := by
  refine returnsInHanded_of_change_and (C := Tryz.checked) (X := fun w _ => laidMetH Tryz.prog laid4 w) (fun _ _ _ hh h => h.of_heap hh) own_knob started (by kernel_rfl) Tryz.func4
    (ChangeSpec.witness_shaped (enc := enc) (C := Tryz.checked) (os := os) (X := fun w _ => laidMetH Tryz.prog laid4 w) false (World.doorLaid Tryz.prog 599 os) #[zeroMsg, .string ⟨#[]⟩, .slice none 0 0] 8 rfl (World.shaped_of_RefB (by kernel_rfl) (by kernel_rfl)) (by kernel_rfl) (by kernel_rfl) (by kernel_rfl) (door_met os _)) ?_
  intro W base args ds gs before hval0 hW _ hZ hL _
  have hval : ∀ (j : Nat) t v, Tryz.f4.params[j]? = some t → args[j]? = some v → Value.okWide Tryz.prog W .any base t v := hval0
  have hW' := hW
  obtain ⟨p, q, hA0, hV, rfl, hfz, hnd⟩ := hW
  have hA : DataW.TrodAll enc Tryz.prog W 0 (fun _ => true) true Tryz.f4.params.toList args.toList ds p := hA0
  rw [Tryz.params4] at hA hval
  obtain ⟨v0, v1, v2, d0, d1, d2, p0, p1, p2, rfl, rfl, rfl, h0, h1, h2⟩ := trodAll_three hA
  obtain ⟨rfl, rfl⟩ := trodVars_none hV
  have hw0 : ∀ n ∈ d0.weights Tryz.prog 31, n ≤ reachBytes := fun n hn => of_decide_eq_true (List.all_eq_true.1 hZ n (weightsEach_mem (i := 0) (t := 31) (d := d0) (by kernel_rfl) rfl hn))
  have hw1 : ∀ n ∈ d1.weights Tryz.prog 9, n ≤ reachBytes := fun n hn => of_decide_eq_true (List.all_eq_true.1 hZ n (weightsEach_mem (i := 1) (t := 9) (d := d1) (by kernel_rfl) rfl hn))
  have hw2 : ∀ n ∈ d2.weights Tryz.prog 25, n ≤ reachBytes := fun n hn => of_decide_eq_true (List.all_eq_true.1 hZ n (weightsEach_mem (i := 2) (t := 25) (d := d2) (by kernel_rfl) rfl hn))
  obtain ⟨⟨cl⟩, e0, hsz⟩ := okWide_struct Tryz.underlying31 (hval 0 31 v0 rfl rfl)
  subst e0
  obtain ⟨ck, rfl, e1, e1', hc⟩ := open_string Tryz.underlying9 (hval 1 9 v1 rfl rfl) h1
  have t0 : Tr Tryz.prog W 31 cl := by
    obtain ⟨fuel, hf⟩ := h0
    exact ⟨H, enc, 0, fun _ => true, true, fuel, (d0, p0), hf, hw0⟩
  obtain ⟨D, rfl, hx⟩ := rd_msg t0
  obtain ⟨pp, nn, cap, X, e2, ho, hs⟩ : ∃ pp nn cap X, v2 = .slice pp nn cap ∧ NilOk pp nn cap ∧ SlE W pp nn X := by
    obtain ⟨pz, nz, cz, hvz⟩ := okWide_slice Tryz.underlying25 (hval 2 25 v2 rfl rfl)
    subst hvz
    have t2 : Tr Tryz.prog W 25 [.slice pz nz cz] := by
      obtain ⟨fuel, hf⟩ := h2
      exact ⟨H, enc, 0, fun _ => true, true, fuel, (d2, p2), hf, hw2⟩
    exact rd_exts t2
  subst e2
  have hK := k_of_laid hL
  have hlt : ∀ x ∈ p0 ++ p1 ++ p2, x.block < W.heap.size := fun x hx => by simpa using hW'.lt x (by simpa using hx)
  refine (same_any D ck pp nn cap X W hx ho hs hK).mono fun e W' ⟨he, hw⟩ => ?_
  subst he
  refine ⟨_, rfl, _, _, _, [], p0 ++ (p1 ++ p2), [], hW', ?_, ?_, ?_, hw.frame _, fun h => by cases h⟩
  · exact trodAll_mk1 (shut_bool Tryz.underlying4 true)
  · exact trodAll_mk3 (Below.trod laid_out (by kernel_rfl) (of_decide_eq_true (by kernel_rfl)) h0 hw fun x hx => hlt x (by simp [hx]))
      (Below.trod laid_out (by kernel_rfl) (of_decide_eq_true (by kernel_rfl)) h1 hw fun x hx => hlt x (by simp [hx]))
      (Below.trod laid_out (by kernel_rfl) (of_decide_eq_true (by kernel_rfl)) h2 hw fun x hx => hlt x (by simp [hx]))
  · rfl

end Go.Proofs.YtgnmgkpfgmpdfaaGreatDoor
