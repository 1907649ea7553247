/-
  DERIVED. GIVEN WITH THE SEED: THE PROGRAM's TIES (one call each: nine closed facts by the kernel) AND EACH ROW's TIE, after the 31st guide's Derived/Test/Toyas{Tie, Card}.lean. No idea stands in it: it is a product of the set-up. Laid BY PROGRAM, IN A SANDBOX (cutbox-door.mjs). By AI agents, Wed Nov 11 2026. No macro, syntax, notation, axiom, sorry.
-/
import Derived.Test.YtmmfpgoodfgkbaaGreatDoorRows
import Derived.LaidByTextLater
import Derived.SevenTiedAt
import Derived.LaidSub
import Derived.LaidOnce
namespace Go.Proofs.YtmmfpgoodfgkbaaGreatDoor
open Go
set_option maxRecDepth 100000
theorem seatTie1 : Tryz.prog.laidByTextLater [("rtcppackets/pub/rtcp.errInvalidHeader", Rows.laid_rtcppackets_pub_rtcp_errInvalidHeader), ("rtcppackets/pub/rtcp.errPacketTooShort", Rows.laid_rtcppackets_pub_rtcp_errPacketTooShort), ("rtcppackets/pub/rtcp.errWrongType", Rows.laid_rtcppackets_pub_rtcp_errWrongType), ("rtcppackets/pub/rtcp.errBadVersion", Rows.laid_rtcppackets_pub_rtcp_errBadVersion), ("rtcppackets/pub/rtcp.errBadLength", Rows.laid_rtcppackets_pub_rtcp_errBadLength), ("rtcppackets/pub/rtcp.errMissingREMBidentifier", Rows.laid_rtcppackets_pub_rtcp_errMissingREMBidentifier), ("rtcppackets/pub/rtcp.errSSRCNumAndLengthMismatch", Rows.laid_rtcppackets_pub_rtcp_errSSRCNumAndLengthMismatch), ("rtcppackets/pub/rtcp.errReportBlockLength", Rows.laid_rtcppackets_pub_rtcp_errReportBlockLength), ("rtcppackets/pub/rtcp.errIncorrectNumReports", Rows.laid_rtcppackets_pub_rtcp_errIncorrectNumReports)] [.sentinel, .sentinel, .sentinel, .sentinel, .sentinel, .sentinel, .sentinel, .sentinel, .sentinel] true :=
  Program.laidByTextLater_by_one 427 8 2 (by kernel_rfl) (by kernel_rfl) (by kernel_rfl) (by kernel_rfl) (by kernel_rfl) (by kernel_rfl) (fun _ _ => by kernel_rfl)
theorem noOwnUnsafe : Tryz.pinned.checked.prog.headLifts.contains "ownunsafe" = false := by kernel_rfl
theorem tie : Tryz.prog.laidByTextLater [("rtcppackets/pub/rtcp.errPacketTooShort", Rows.laid_rtcppackets_pub_rtcp_errPacketTooShort), ("rtcppackets/pub/rtcp.errBadVersion", Rows.laid_rtcppackets_pub_rtcp_errBadVersion)] [.sentinel, .sentinel] true :=
  Program.laidByTextLater.sub seatTie1 ["rtcppackets/pub/rtcp.errPacketTooShort", "rtcppackets/pub/rtcp.errBadVersion"] (by kernel_rfl) (by kernel_rfl)
theorem fnHeaderOf_row_tie : Rows.fnHeaderOfRow.laidByTextAt .later Tryz.pinned [.sentinel, .sentinel] true :=
  OpenClaim.laidByTextAt_later rfl rfl tie noOwnUnsafe
theorem tie2 : Tryz.prog.laidByTextLater [("rtcppackets/pub/rtcp.errInvalidHeader", Rows.laid_rtcppackets_pub_rtcp_errInvalidHeader), ("rtcppackets/pub/rtcp.errPacketTooShort", Rows.laid_rtcppackets_pub_rtcp_errPacketTooShort), ("rtcppackets/pub/rtcp.errWrongType", Rows.laid_rtcppackets_pub_rtcp_errWrongType), ("rtcppackets/pub/rtcp.errBadVersion", Rows.laid_rtcppackets_pub_rtcp_errBadVersion), ("rtcppackets/pub/rtcp.errBadLength", Rows.laid_rtcppackets_pub_rtcp_errBadLength), ("rtcppackets/pub/rtcp.errMissingREMBidentifier", Rows.laid_rtcppackets_pub_rtcp_errMissingREMBidentifier), ("rtcppackets/pub/rtcp.errSSRCNumAndLengthMismatch", Rows.laid_rtcppackets_pub_rtcp_errSSRCNumAndLengthMismatch), ("rtcppackets/pub/rtcp.errReportBlockLength", Rows.laid_rtcppackets_pub_rtcp_errReportBlockLength), ("rtcppackets/pub/rtcp.errIncorrectNumReports", Rows.laid_rtcppackets_pub_rtcp_errIncorrectNumReports)] [.sentinel, .sentinel, .sentinel, .sentinel, .sentinel, .sentinel, .sentinel, .sentinel, .sentinel] true :=
  Program.laidByTextLater.sub seatTie1 ["rtcppackets/pub/rtcp.errInvalidHeader", "rtcppackets/pub/rtcp.errPacketTooShort", "rtcppackets/pub/rtcp.errWrongType", "rtcppackets/pub/rtcp.errBadVersion", "rtcppackets/pub/rtcp.errBadLength", "rtcppackets/pub/rtcp.errMissingREMBidentifier", "rtcppackets/pub/rtcp.errSSRCNumAndLengthMismatch", "rtcppackets/pub/rtcp.errReportBlockLength", "rtcppackets/pub/rtcp.errIncorrectNumReports"] (by kernel_rfl) (by kernel_rfl)
theorem fnDestinations_row_tie : Rows.fnDestinationsRow.laidByTextAt .later Tryz.pinned [.sentinel, .sentinel, .sentinel, .sentinel, .sentinel, .sentinel, .sentinel, .sentinel, .sentinel] true :=
  OpenClaim.laidByTextAt_later rfl rfl tie2 noOwnUnsafe
theorem fnHeaderOfUpto_row_tie : Rows.fnHeaderOfUptoRow.laidByTextAt .later Tryz.pinned [.sentinel, .sentinel] true :=
  OpenClaim.laidByTextAt_later rfl rfl tie noOwnUnsafe
theorem fnDestinationsUpto_row_tie : Rows.fnDestinationsUptoRow.laidByTextAt .later Tryz.pinned [.sentinel, .sentinel, .sentinel, .sentinel, .sentinel, .sentinel, .sentinel, .sentinel, .sentinel] true :=
  OpenClaim.laidByTextAt_later rfl rfl tie2 noOwnUnsafe
end Go.Proofs.YtmmfpgoodfgkbaaGreatDoor
