/-
  DERIVED. GIVEN WITH THE SEED: THE CARDS: each row of YtgnmgkpfgmpdfaaGreatDoorRows.lean that lists a variable, with what it lists TIED to the program's text (the seventh form; the later family's looks); each row that meets fmt, with fmt's text TOLD by the authors' own Lean function (tested against real Go, not proved from fmt's source: count such statements apart). THE CARD IS WHAT COUNTS. Prove the row's statement (the work); the ties are given (YtgnmgkpfgmpdfaaGreatDoorTie.lean); close each card by the builder's one call (the guide's Derived/Test/ToyasCard.lean, 'card_holds'). Laid BY PROGRAM, IN A SANDBOX (cutbox-door.mjs). By AI agents, Wed Nov 11 2026. No macro, syntax, notation, axiom, sorry.
-/
import Derived.Test.YtgnmgkpfgmpdfaaGreatDoorRows
import GoSem.ClaimSeven
namespace Go.Proofs.YtgnmgkpfgmpdfaaGreatDoor
namespace Rows

/-- THE TIED CARD OF 'laws.FnHelloHash'. -/
def fnHelloHashCard : Claim7 := { stood := { row := fnHelloHashRow, standIns := [], harness := (true, "b338b816e847d95876a842d2aa5afeba89a0c0d4cde2234e3b5279125999d9fe"), looks := true }, kinds := [], alts := [], laidByText := true, laidKinds := [.data, .sentinel, .sentinel, .sentinel], laidTests := true, laidLooks := .later }
def FnHelloHashCardSaid : Prop := Claim7.holds Tryz.pinned (.plain (OpenSpec.ofChange fnHelloHashSpec)) fnHelloHashCard

/-- THE TIED CARD OF 'laws.FnHelloSame'. -/
def fnHelloSameCard : Claim7 := { stood := { row := fnHelloSameRow, standIns := [], harness := (true, "b338b816e847d95876a842d2aa5afeba89a0c0d4cde2234e3b5279125999d9fe"), looks := true }, kinds := [], alts := [], laidByText := true, laidKinds := [.data, .sentinel, .sentinel, .sentinel], laidTests := true, laidLooks := .later }
def FnHelloSameCardSaid : Prop := Claim7.holds Tryz.pinned (.plain (OpenSpec.ofChange fnHelloSameSpec)) fnHelloSameCard

/-- THE SECOND FORM's CARD OF 'laws.FnHelloHash'. -/
def fnHelloHashUptoCard : Claim7 := { stood := { row := fnHelloHashUptoRow, standIns := [], harness := (true, "b338b816e847d95876a842d2aa5afeba89a0c0d4cde2234e3b5279125999d9fe"), looks := true }, kinds := [], alts := [], laidByText := true, laidKinds := [.data, .sentinel, .sentinel, .sentinel], laidTests := true, laidLooks := .later }
def FnHelloHashUptoCardSaid : Prop := Claim7.holds Tryz.pinned (.plain (OpenSpec.upto fnHelloHashSpec)) fnHelloHashUptoCard

/-- THE SECOND FORM's CARD OF 'laws.FnHelloSame'. -/
def fnHelloSameUptoCard : Claim7 := { stood := { row := fnHelloSameUptoRow, standIns := [], harness := (true, "b338b816e847d95876a842d2aa5afeba89a0c0d4cde2234e3b5279125999d9fe"), looks := true }, kinds := [], alts := [], laidByText := true, laidKinds := [.data, .sentinel, .sentinel, .sentinel], laidTests := true, laidLooks := .later }
def FnHelloSameUptoCardSaid : Prop := Claim7.holds Tryz.pinned (.plain (OpenSpec.upto fnHelloSameSpec)) fnHelloSameUptoCard
end Rows
end Go.Proofs.YtgnmgkpfgmpdfaaGreatDoor
