/-
  DERIVED. GIVEN WITH THE SEED: THE PROGRAM's TIES (one call each: nine closed facts by the kernel) AND EACH ROW's TIE, after the 31st guide's Derived/Test/Toyas{Tie, Card}.lean. No idea stands in it: it is a product of the set-up. Laid BY PROGRAM, IN A SANDBOX (cutbox-door.mjs). By AI agents, Wed Nov 11 2026. No macro, syntax, notation, axiom, sorry.
-/
import Derived.Test.YtgnmgkpfgmpdfaaGreatDoorRows
import Derived.LaidByTextLater
import Derived.SevenTiedAt
import Derived.LaidSub
import Derived.LaidOnce
namespace Go.Proofs.YtgnmgkpfgmpdfaaGreatDoor
open Go
set_option maxRecDepth 100000
theorem seatTie1 : Tryz.prog.laidByTextLater [("pub-convoy/pub/sha256._K", Rows.laid_pub_convoy_pub_sha256_K), ("pub-convoy/pub/dtls/pkg/protocol/handshake.errCookieTooLong", Rows.laid_pub_convoy_pub_dtls_pkg_protocol_handshake_errCookieTooLong), ("pub-convoy/pub/dtls/pkg/protocol/handshake.errSessionIDTooLong", Rows.laid_pub_convoy_pub_dtls_pkg_protocol_handshake_errSessionIDTooLong), ("pub-convoy/pub/dtls/pkg/protocol/handshake.errCompressionMethodsTooLong", Rows.laid_pub_convoy_pub_dtls_pkg_protocol_handshake_errCompressionMethodsTooLong)] [.data, .sentinel, .sentinel, .sentinel] true :=
  Program.laidByTextLater_by_one 599 8 65 (by kernel_rfl) (by kernel_rfl) (by kernel_rfl) (by kernel_rfl) (by kernel_rfl) (by kernel_rfl) (fun _ _ => by kernel_rfl)
theorem noOwnUnsafe : Tryz.pinned.checked.prog.headLifts.contains "ownunsafe" = false := by kernel_rfl
theorem tie : Tryz.prog.laidByTextLater [("pub-convoy/pub/sha256._K", Rows.laid_pub_convoy_pub_sha256_K), ("pub-convoy/pub/dtls/pkg/protocol/handshake.errCookieTooLong", Rows.laid_pub_convoy_pub_dtls_pkg_protocol_handshake_errCookieTooLong), ("pub-convoy/pub/dtls/pkg/protocol/handshake.errSessionIDTooLong", Rows.laid_pub_convoy_pub_dtls_pkg_protocol_handshake_errSessionIDTooLong), ("pub-convoy/pub/dtls/pkg/protocol/handshake.errCompressionMethodsTooLong", Rows.laid_pub_convoy_pub_dtls_pkg_protocol_handshake_errCompressionMethodsTooLong)] [.data, .sentinel, .sentinel, .sentinel] true :=
  Program.laidByTextLater.sub seatTie1 ["pub-convoy/pub/sha256._K", "pub-convoy/pub/dtls/pkg/protocol/handshake.errCookieTooLong", "pub-convoy/pub/dtls/pkg/protocol/handshake.errSessionIDTooLong", "pub-convoy/pub/dtls/pkg/protocol/handshake.errCompressionMethodsTooLong"] (by kernel_rfl) (by kernel_rfl)
theorem fnHelloHash_row_tie : Rows.fnHelloHashRow.laidByTextAt .later Tryz.pinned [.data, .sentinel, .sentinel, .sentinel] true :=
  OpenClaim.laidByTextAt_later rfl rfl tie noOwnUnsafe
theorem fnHelloSame_row_tie : Rows.fnHelloSameRow.laidByTextAt .later Tryz.pinned [.data, .sentinel, .sentinel, .sentinel] true :=
  OpenClaim.laidByTextAt_later rfl rfl tie noOwnUnsafe
theorem fnHelloHashUpto_row_tie : Rows.fnHelloHashUptoRow.laidByTextAt .later Tryz.pinned [.data, .sentinel, .sentinel, .sentinel] true :=
  OpenClaim.laidByTextAt_later rfl rfl tie noOwnUnsafe
theorem fnHelloSameUpto_row_tie : Rows.fnHelloSameUptoRow.laidByTextAt .later Tryz.pinned [.data, .sentinel, .sentinel, .sentinel] true :=
  OpenClaim.laidByTextAt_later rfl rfl tie noOwnUnsafe
end Go.Proofs.YtgnmgkpfgmpdfaaGreatDoor
