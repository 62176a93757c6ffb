/-
  DERIVED. GIVEN WITH THE SEED: THE PROGRAM's TIES (one call each: nine closed facts by the kernel) AND EACH ROW's TIE, after the 31st guide's Derived/Test/Toyas{Tie, Card}.lean. No idea stands in it: it is a product of the set-up. Laid BY PROGRAM, IN A SANDBOX (cutbox-door.mjs). By AI agents, Wed Nov 11 2026. No macro, syntax, notation, axiom, sorry.
-/
import Derived.Test.YtkagkopjhgnnlaaGreatDoorRows
import Derived.LaidByTextLater
import Derived.SevenTiedAt
import Derived.LaidSub
import Derived.LaidOnce
namespace Go.Proofs.YtkagkopjhgnnlaaGreatDoor
open Go
set_option maxRecDepth 100000
theorem seatTie1 : Tryz.prog.laidByTextLater [("pub-convoy/pub/dtls/pkg/protocol/handshake.errBufferTooSmall", Rows.laid_pub_convoy_pub_dtls_pkg_protocol_handshake_errBufferTooSmall), ("pub-convoy/pub/dtls/pkg/protocol/handshake.errLengthMismatch", Rows.laid_pub_convoy_pub_dtls_pkg_protocol_handshake_errLengthMismatch), ("pub-convoy/pub/dtls/pkg/protocol/handshake.errNotImplemented", Rows.laid_pub_convoy_pub_dtls_pkg_protocol_handshake_errNotImplemented)] [.sentinel, .sentinel, .sentinel] true :=
  Program.laidByTextLater_by_one 598 8 2 (by kernel_rfl) (by kernel_rfl) (by kernel_rfl) (by kernel_rfl) (by kernel_rfl) (by kernel_rfl) (fun _ _ => by kernel_rfl)
theorem noOwnUnsafe : Tryz.pinned.checked.prog.headLifts.contains "ownunsafe" = false := by kernel_rfl
theorem tie : Tryz.prog.laidByTextLater [("pub-convoy/pub/dtls/pkg/protocol/handshake.errBufferTooSmall", Rows.laid_pub_convoy_pub_dtls_pkg_protocol_handshake_errBufferTooSmall), ("pub-convoy/pub/dtls/pkg/protocol/handshake.errLengthMismatch", Rows.laid_pub_convoy_pub_dtls_pkg_protocol_handshake_errLengthMismatch), ("pub-convoy/pub/dtls/pkg/protocol/handshake.errNotImplemented", Rows.laid_pub_convoy_pub_dtls_pkg_protocol_handshake_errNotImplemented)] [.sentinel, .sentinel, .sentinel] true :=
  Program.laidByTextLater.sub seatTie1 ["pub-convoy/pub/dtls/pkg/protocol/handshake.errBufferTooSmall", "pub-convoy/pub/dtls/pkg/protocol/handshake.errLengthMismatch", "pub-convoy/pub/dtls/pkg/protocol/handshake.errNotImplemented"] (by kernel_rfl) (by kernel_rfl)
theorem fnHandshakeKind_row_tie : Rows.fnHandshakeKindRow.laidByTextAt .later Tryz.pinned [.sentinel, .sentinel, .sentinel] true :=
  OpenClaim.laidByTextAt_later rfl rfl tie noOwnUnsafe
theorem fnHandshakeLength_row_tie : Rows.fnHandshakeLengthRow.laidByTextAt .later Tryz.pinned [.sentinel, .sentinel, .sentinel] true :=
  OpenClaim.laidByTextAt_later rfl rfl tie noOwnUnsafe
theorem fnHandshakeKindUpto_row_tie : Rows.fnHandshakeKindUptoRow.laidByTextAt .later Tryz.pinned [.sentinel, .sentinel, .sentinel] true :=
  OpenClaim.laidByTextAt_later rfl rfl tie noOwnUnsafe
theorem fnHandshakeLengthUpto_row_tie : Rows.fnHandshakeLengthUptoRow.laidByTextAt .later Tryz.pinned [.sentinel, .sentinel, .sentinel] true :=
  OpenClaim.laidByTextAt_later rfl rfl tie noOwnUnsafe
end Go.Proofs.YtkagkopjhgnnlaaGreatDoor
