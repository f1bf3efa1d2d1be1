/-
  DERIVED. GIVEN WITH THE SEED: THE PROGRAM's TIES (one call each: nine closed facts by the kernel) AND EACH ROW's TIE, after the 31st guide's Derived/Test/Toyas{Tie, Card}.lean. No idea stands in it: it is a product of the set-up. Laid BY PROGRAM, IN A SANDBOX (cutbox-door.mjs). By AI agents, Wed Nov 11 2026. No macro, syntax, notation, axiom, sorry.
-/
import Derived.Test.YtcggiljcimhfcaaDoorRows
import Derived.LaidByTextLater
import Derived.SevenTiedAt
import Derived.LaidSub
import Derived.LaidOnce
namespace Go.Proofs.YtcggiljcimhfcaaDoor
open Go
set_option maxRecDepth 100000
theorem seatTie1 : Tryd.prog.laidByTextLater [("pub-convoy/pub/dtls/pkg/protocol/alert.errBufferTooSmall", Rows.laid_pub_convoy_pub_dtls_pkg_protocol_alert_errBufferTooSmall), ("pub-convoy/pub/dtls/pkg/protocol/handshake.errCookieTooLong", Rows.laid_pub_convoy_pub_dtls_pkg_protocol_handshake_errCookieTooLong), ("pub-convoy/pub/dtls/pkg/protocol/recordlayer.ErrInvalidPacketLength", Rows.laid_pub_convoy_pub_dtls_pkg_protocol_recordlayer_ErrInvalidPacketLength)] [.sentinel, .sentinel, .sentinel] true :=
  Program.laidByTextLater_by_one 66 8 2 (by kernel_rfl) (by kernel_rfl) (by kernel_rfl) (by kernel_rfl) (by kernel_rfl) (by kernel_rfl) (fun _ _ => by kernel_rfl)
theorem noOwnUnsafe : Tryd.pinned.checked.prog.headLifts.contains "ownunsafe" = false := by kernel_rfl
theorem tie : Tryd.prog.laidByTextLater [("pub-convoy/pub/dtls/pkg/protocol/handshake.errCookieTooLong", Rows.laid_pub_convoy_pub_dtls_pkg_protocol_handshake_errCookieTooLong)] [.sentinel] true :=
  Program.laidByTextLater.sub seatTie1 ["pub-convoy/pub/dtls/pkg/protocol/handshake.errCookieTooLong"] (by kernel_rfl) (by kernel_rfl)
theorem fnVerifyRequestWrite_row_tie : Rows.fnVerifyRequestWriteRow.laidByTextAt .later Tryd.pinned [.sentinel] true :=
  OpenClaim.laidByTextAt_later rfl rfl tie noOwnUnsafe
theorem tie2 : Tryd.prog.laidByTextLater [("pub-convoy/pub/dtls/pkg/protocol/alert.errBufferTooSmall", Rows.laid_pub_convoy_pub_dtls_pkg_protocol_alert_errBufferTooSmall)] [.sentinel] true :=
  Program.laidByTextLater.sub seatTie1 ["pub-convoy/pub/dtls/pkg/protocol/alert.errBufferTooSmall"] (by kernel_rfl) (by kernel_rfl)
theorem fnAlertBack_row_tie : Rows.fnAlertBackRow.laidByTextAt .later Tryd.pinned [.sentinel] true :=
  OpenClaim.laidByTextAt_later rfl rfl tie2 noOwnUnsafe
theorem tie3 : Tryd.prog.laidByTextLater [("pub-convoy/pub/dtls/pkg/protocol/recordlayer.ErrInvalidPacketLength", Rows.laid_pub_convoy_pub_dtls_pkg_protocol_recordlayer_ErrInvalidPacketLength)] [.sentinel] true :=
  Program.laidByTextLater.sub seatTie1 ["pub-convoy/pub/dtls/pkg/protocol/recordlayer.ErrInvalidPacketLength"] (by kernel_rfl) (by kernel_rfl)
theorem fnDatagramCIDBack_row_tie : Rows.fnDatagramCIDBackRow.laidByTextAt .later Tryd.pinned [.sentinel] true :=
  OpenClaim.laidByTextAt_later rfl rfl tie3 noOwnUnsafe
theorem fnVerifyRequestWriteUpto_row_tie : Rows.fnVerifyRequestWriteUptoRow.laidByTextAt .later Tryd.pinned [.sentinel] true :=
  OpenClaim.laidByTextAt_later rfl rfl tie noOwnUnsafe
theorem fnAlertBackUpto_row_tie : Rows.fnAlertBackUptoRow.laidByTextAt .later Tryd.pinned [.sentinel] true :=
  OpenClaim.laidByTextAt_later rfl rfl tie2 noOwnUnsafe
theorem fnDatagramCIDBackUpto_row_tie : Rows.fnDatagramCIDBackUptoRow.laidByTextAt .later Tryd.pinned [.sentinel] true :=
  OpenClaim.laidByTextAt_later rfl rfl tie3 noOwnUnsafe
end Go.Proofs.YtcggiljcimhfcaaDoor
