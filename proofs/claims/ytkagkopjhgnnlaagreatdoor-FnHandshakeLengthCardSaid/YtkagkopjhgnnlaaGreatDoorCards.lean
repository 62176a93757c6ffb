/-
  DERIVED. GIVEN WITH THE SEED: THE CARDS: each row of YtkagkopjhgnnlaaGreatDoorRows.lean that lists a variable, with what it lists TIED to the program's text (the seventh form; the later family's looks); each row that meets fmt, with fmt's text TOLD by the authors' own Lean function (tested against real Go, not proved from fmt's source: count such statements apart). THE CARD IS WHAT COUNTS. Prove the row's statement (the work); the ties are given (YtkagkopjhgnnlaaGreatDoorTie.lean); close each card by the builder's one call (the guide's Derived/Test/ToyasCard.lean, 'card_holds'). Laid BY PROGRAM, IN A SANDBOX (cutbox-door.mjs). By AI agents, Wed Nov 11 2026. No macro, syntax, notation, axiom, sorry.
-/
import Derived.Test.YtkagkopjhgnnlaaGreatDoorRows
import GoSem.ClaimSeven
namespace Go.Proofs.YtkagkopjhgnnlaaGreatDoor
namespace Rows

/-- THE TIED CARD OF 'laws.FnHandshakeKind'. -/
def fnHandshakeKindCard : Claim7 := { stood := { row := fnHandshakeKindRow, standIns := [], harness := (true, "166aeee40a4a9af767ea9f10860bcb80ae175c76832f3ab1f324bd84e6db9b12"), looks := true }, kinds := [], alts := [], laidByText := true, laidKinds := [.sentinel, .sentinel, .sentinel], laidTests := true, laidLooks := .later }
def FnHandshakeKindCardSaid : Prop := Claim7.holds Tryz.pinned (.plain (OpenSpec.ofChange fnHandshakeKindSpec)) fnHandshakeKindCard

/-- THE TIED CARD OF 'laws.FnHandshakeLength'. -/
def fnHandshakeLengthCard : Claim7 := { stood := { row := fnHandshakeLengthRow, standIns := [], harness := (true, "166aeee40a4a9af767ea9f10860bcb80ae175c76832f3ab1f324bd84e6db9b12"), looks := true }, kinds := [], alts := [], laidByText := true, laidKinds := [.sentinel, .sentinel, .sentinel], laidTests := true, laidLooks := .later }
def FnHandshakeLengthCardSaid : Prop := Claim7.holds Tryz.pinned (.plain (OpenSpec.ofChange fnHandshakeLengthSpec)) fnHandshakeLengthCard

/-- THE SECOND FORM's CARD OF 'laws.FnHandshakeKind'. -/
def fnHandshakeKindUptoCard : Claim7 := { stood := { row := fnHandshakeKindUptoRow, standIns := [], harness := (true, "166aeee40a4a9af767ea9f10860bcb80ae175c76832f3ab1f324bd84e6db9b12"), looks := true }, kinds := [], alts := [], laidByText := true, laidKinds := [.sentinel, .sentinel, .sentinel], laidTests := true, laidLooks := .later }
def FnHandshakeKindUptoCardSaid : Prop := Claim7.holds Tryz.pinned (.plain (OpenSpec.upto fnHandshakeKindSpec)) fnHandshakeKindUptoCard

/-- THE SECOND FORM's CARD OF 'laws.FnHandshakeLength'. -/
def fnHandshakeLengthUptoCard : Claim7 := { stood := { row := fnHandshakeLengthUptoRow, standIns := [], harness := (true, "166aeee40a4a9af767ea9f10860bcb80ae175c76832f3ab1f324bd84e6db9b12"), looks := true }, kinds := [], alts := [], laidByText := true, laidKinds := [.sentinel, .sentinel, .sentinel], laidTests := true, laidLooks := .later }
def FnHandshakeLengthUptoCardSaid : Prop := Claim7.holds Tryz.pinned (.plain (OpenSpec.upto fnHandshakeLengthSpec)) fnHandshakeLengthUptoCard
end Rows
end Go.Proofs.YtkagkopjhgnnlaaGreatDoor
