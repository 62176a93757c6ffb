/-
  NARROWER THAN 'FOR EVERY INPUT', by the rows' own cells (each row's printed sentence says how): FnHandshakeKind: laid · FnHandshakeLength: laid.
  DERIVED. THE GIVEN ROWS OF THIS SEAT. 2 by the template 'for every input the law returns true; each argument reads behind the call as it read before'; 0 by the template 'total and deterministic' (their statements: YtkagkopjhgnnlaaGreatDoorTotals.lean).
  GIVEN WITH THE SEED: the statements are not yours to turn. If you find one false, say at which input.
  Laid BY PROGRAM, IN A SANDBOX (cutbox-rows.mjs): the forced cells as the released guide's own fill.sh prints them over the translation 275af0d1c8fb02ec… (all of the seat's roots in one cut). By AI agents, Wed Nov 11 2026. No macro, syntax, notation, axiom, sorry.
-/
import Derived.Test.YtkagkopjhgnnlaaGreatDoorChecked
import GoSem.Claim
import GoSem.ClaimJoined
import GoSem.ClaimMapViews
import Derived.JoinedTies
import Derived.KernelRfl
namespace Go.Proofs.YtkagkopjhgnnlaaGreatDoor
/- THE CELL 'sum', in the pinned program and in every row, IS THE sha256 OF THE DUMP (.gsa) THAT YtkagkopjhgnnlaaGreatDoorProg.lean LOADS. Nothing in Lean hashes anything: it is a label: what it is worth is what the hold of that sum in a sandbox is worth. -/
noncomputable def Tryz.pinned : Pinned := { name := "ytkagkopjhgnnlaagreatdoor", sum := "275af0d1c8fb02ec7fcc7853608bf81b02c438d5f99dd5661c0da86950245d2d", checked := Tryz.checked }
namespace Rows
def none {H : Type} : Left H := { results := [], args := [] }

/- WHAT THE LISTED PACKAGE-LEVEL VARIABLES READ AS WHEN THE CALL BEGINS. Each datum BY PROGRAM (the guide's laid-datum.mjs) off the statement by which the dump's own 'gosem.cut.vars' lays the variable. In a bare row this is a premise. The card (YtkagkopjhgnnlaaGreatDoorCards.lean) ties it to the program's text. -/
def laid_pub_convoy_pub_dtls_pkg_protocol_handshake_errBufferTooSmall {H : Type} : DataW H := .iface "*errors.errorString" (.ptr (.agg [.lit (.string [98, 117, 102, 102, 101, 114, 32, 105, 115, 32, 116, 111, 111, 32, 115, 109, 97, 108, 108])]))
def laid_pub_convoy_pub_dtls_pkg_protocol_handshake_errLengthMismatch {H : Type} : DataW H := .iface "*errors.errorString" (.ptr (.agg [.lit (.string [100, 97, 116, 97, 32, 108, 101, 110, 103, 116, 104, 32, 97, 110, 100, 32, 100, 101, 99, 108, 97, 114, 101, 100, 32, 108, 101, 110, 103, 116, 104, 32, 100, 111, 32, 110, 111, 116, 32, 109, 97, 116, 99, 104])]))
def laid_pub_convoy_pub_dtls_pkg_protocol_handshake_errNotImplemented {H : Type} : DataW H := .iface "*errors.errorString" (.ptr (.agg [.lit (.string [102, 101, 97, 116, 117, 114, 101, 32, 104, 97, 115, 32, 110, 111, 116, 32, 98, 101, 101, 110, 32, 105, 109, 112, 108, 101, 109, 101, 110, 116, 101, 100, 32, 121, 101, 116])]))

/-- 'laws.FnHandshakeKind': WHATEVER THE INPUT: true; the input reads as it did. -/
def fnHandshakeKindSpec : ChangeSpec := { name := "fnHandshakeKind", fn := fun _ => fun
  | [d1, d2, d3] => { results := [.lit (.bool true)], args := [d1, d2, d3] }
  | _ => none }
def fnHandshakeKindRow : OpenClaim := { program := "ytkagkopjhgnnlaagreatdoor", sum := "275af0d1c8fb02ec7fcc7853608bf81b02c438d5f99dd5661c0da86950245d2d", func := "pub-convoy/laws.FnHandshakeKind", spec := "fnHandshakeKind", unfollowed := true, recurses := true, named := ["pub-convoy/pub/dtls/pkg/protocol/handshake.errLengthMismatch", "pub-convoy/pub/dtls/pkg/protocol/handshake.errNotImplemented", "pub-convoy/pub/dtls/pkg/protocol/handshake.errBufferTooSmall", "encoding/binary.BigEndian"], apart := false, laid := [("pub-convoy/pub/dtls/pkg/protocol/handshake.errBufferTooSmall", laid_pub_convoy_pub_dtls_pkg_protocol_handshake_errBufferTooSmall), ("pub-convoy/pub/dtls/pkg/protocol/handshake.errLengthMismatch", laid_pub_convoy_pub_dtls_pkg_protocol_handshake_errLengthMismatch), ("pub-convoy/pub/dtls/pkg/protocol/handshake.errNotImplemented", laid_pub_convoy_pub_dtls_pkg_protocol_handshake_errNotImplemented)] }
def FnHandshakeKindSaid : Prop := fnHandshakeKindRow.holds Tryz.pinned (OpenSpec.ofChange fnHandshakeKindSpec)

/-- ITS FALSE NEIGHBOUR: 'it returns false'. Refute it at one input. -/
def fnHandshakeKindWrong : ChangeSpec := { name := "fnHandshakeKind", fn := fun _ => fun
  | [d1, d2, d3] => { results := [.lit (.bool false)], args := [d1, d2, d3] }
  | _ => none }
def FnHandshakeKindWrongFalsely : Prop := fnHandshakeKindRow.holds Tryz.pinned (OpenSpec.ofChange fnHandshakeKindWrong)

/-- 'laws.FnHandshakeLength': WHATEVER THE INPUT: true; the input reads as it did. -/
def fnHandshakeLengthSpec : ChangeSpec := { name := "fnHandshakeLength", fn := fun _ => fun
  | [d1, d2] => { results := [.lit (.bool true)], args := [d1, d2] }
  | _ => none }
def fnHandshakeLengthRow : OpenClaim := { program := "ytkagkopjhgnnlaagreatdoor", sum := "275af0d1c8fb02ec7fcc7853608bf81b02c438d5f99dd5661c0da86950245d2d", func := "pub-convoy/laws.FnHandshakeLength", spec := "fnHandshakeLength", unfollowed := true, recurses := true, named := ["pub-convoy/pub/dtls/pkg/protocol/handshake.errLengthMismatch", "pub-convoy/pub/dtls/pkg/protocol/handshake.errNotImplemented", "pub-convoy/pub/dtls/pkg/protocol/handshake.errBufferTooSmall", "encoding/binary.BigEndian"], apart := false, laid := [("pub-convoy/pub/dtls/pkg/protocol/handshake.errBufferTooSmall", laid_pub_convoy_pub_dtls_pkg_protocol_handshake_errBufferTooSmall), ("pub-convoy/pub/dtls/pkg/protocol/handshake.errLengthMismatch", laid_pub_convoy_pub_dtls_pkg_protocol_handshake_errLengthMismatch), ("pub-convoy/pub/dtls/pkg/protocol/handshake.errNotImplemented", laid_pub_convoy_pub_dtls_pkg_protocol_handshake_errNotImplemented)] }
def FnHandshakeLengthSaid : Prop := fnHandshakeLengthRow.holds Tryz.pinned (OpenSpec.ofChange fnHandshakeLengthSpec)

/-- ITS FALSE NEIGHBOUR: 'it returns false'. Refute it at one input. -/
def fnHandshakeLengthWrong : ChangeSpec := { name := "fnHandshakeLength", fn := fun _ => fun
  | [d1, d2] => { results := [.lit (.bool false)], args := [d1, d2] }
  | _ => none }
def FnHandshakeLengthWrongFalsely : Prop := fnHandshakeLengthRow.holds Tryz.pinned (OpenSpec.ofChange fnHandshakeLengthWrong)

/- THE SECOND FORM. 'bulk': how many values and letters a reading holds, each counted each time it is reached (what is shared counts as often as it is met; a slice's spare places count too). A statement '..UptoSaid' is the law's where the arguments, and the package variables that the reading takes, are together of bulk at most 1048576: NARROWER than '..Said'. Prove '..Said' where nothing that the law and all that it calls make is longer than what came in: it says more and counts as full. Else prove '..UptoSaid'. A law counts once. -/
mutual
def uptoBulk {H : Type} : DataW H → Nat
  | .lit (.string bytes) => bytes.length + 1
  | .lit _ => 1
  | .nil => 1
  | .ptr d => uptoBulk d + 1
  | .slice elems spare => uptoBulkAll elems + uptoBulkAll spare + 1
  | .agg parts => uptoBulkAll parts + 1
  | .iface _ d => uptoBulk d + 1
  | .map entries => uptoBulkEntries entries + 1
  | .held _ => 1
def uptoBulkAll {H : Type} : List (DataW H) → Nat
  | [] => 0
  | d :: r => uptoBulk d + uptoBulkAll r
def uptoBulkEntries {H : Type} : List (Lit × DataW H) → Nat
  | [] => 0
  | x :: r => uptoBulkEntry x + uptoBulkEntries r
def uptoBulkEntry {H : Type} : Lit × DataW H → Nat
  | (.string bytes, d) => bytes.length + uptoBulk d + 1
  | (_, d) => uptoBulk d + 1
 end
def uptoSmall : (H : Type) → List (DataW H) → Bool := fun _ ds => decide (uptoBulkAll ds ≤ 1048576)
def OpenSpec.upto (s : _root_.Go.ChangeSpec) : _root_.Go.OpenSpec := { _root_.Go.OpenSpec.ofChange s with cond := some uptoSmall }

/-- 'laws.FnHandshakeKind', WHERE WHAT IT READS IS OF BULK AT MOST 1048576: true; the input reads as it did. -/
def fnHandshakeKindUptoRow : OpenClaim := { program := "ytkagkopjhgnnlaagreatdoor", sum := "275af0d1c8fb02ec7fcc7853608bf81b02c438d5f99dd5661c0da86950245d2d", func := "pub-convoy/laws.FnHandshakeKind", spec := "fnHandshakeKind", unfollowed := true, recurses := true, named := ["pub-convoy/pub/dtls/pkg/protocol/handshake.errLengthMismatch", "pub-convoy/pub/dtls/pkg/protocol/handshake.errNotImplemented", "pub-convoy/pub/dtls/pkg/protocol/handshake.errBufferTooSmall", "encoding/binary.BigEndian"], apart := false, laid := [("pub-convoy/pub/dtls/pkg/protocol/handshake.errBufferTooSmall", laid_pub_convoy_pub_dtls_pkg_protocol_handshake_errBufferTooSmall), ("pub-convoy/pub/dtls/pkg/protocol/handshake.errLengthMismatch", laid_pub_convoy_pub_dtls_pkg_protocol_handshake_errLengthMismatch), ("pub-convoy/pub/dtls/pkg/protocol/handshake.errNotImplemented", laid_pub_convoy_pub_dtls_pkg_protocol_handshake_errNotImplemented)], narrowed := true }
def FnHandshakeKindUptoSaid : Prop := fnHandshakeKindUptoRow.holds Tryz.pinned (OpenSpec.upto fnHandshakeKindSpec)

/-- 'laws.FnHandshakeLength', WHERE WHAT IT READS IS OF BULK AT MOST 1048576: true; the input reads as it did. -/
def fnHandshakeLengthUptoRow : OpenClaim := { program := "ytkagkopjhgnnlaagreatdoor", sum := "275af0d1c8fb02ec7fcc7853608bf81b02c438d5f99dd5661c0da86950245d2d", func := "pub-convoy/laws.FnHandshakeLength", spec := "fnHandshakeLength", unfollowed := true, recurses := true, named := ["pub-convoy/pub/dtls/pkg/protocol/handshake.errLengthMismatch", "pub-convoy/pub/dtls/pkg/protocol/handshake.errNotImplemented", "pub-convoy/pub/dtls/pkg/protocol/handshake.errBufferTooSmall", "encoding/binary.BigEndian"], apart := false, laid := [("pub-convoy/pub/dtls/pkg/protocol/handshake.errBufferTooSmall", laid_pub_convoy_pub_dtls_pkg_protocol_handshake_errBufferTooSmall), ("pub-convoy/pub/dtls/pkg/protocol/handshake.errLengthMismatch", laid_pub_convoy_pub_dtls_pkg_protocol_handshake_errLengthMismatch), ("pub-convoy/pub/dtls/pkg/protocol/handshake.errNotImplemented", laid_pub_convoy_pub_dtls_pkg_protocol_handshake_errNotImplemented)], narrowed := true }
def FnHandshakeLengthUptoSaid : Prop := fnHandshakeLengthUptoRow.holds Tryz.pinned (OpenSpec.upto fnHandshakeLengthSpec)

end Rows
end Go.Proofs.YtkagkopjhgnnlaaGreatDoor
