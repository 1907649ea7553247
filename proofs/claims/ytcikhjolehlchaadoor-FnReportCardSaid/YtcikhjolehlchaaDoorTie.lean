/-
  DERIVED. GIVEN WITH THE SEED: THE PROGRAM's TIES (one call each: nine closed facts by the kernel) AND EACH ROW's TIE, after the 31st guide's Derived/Test/Toyas{Tie, Card}.lean. No idea stands in it: it is a product of the set-up. Laid BY PROGRAM, IN A SANDBOX (cutbox-door.mjs). By AI agents, Wed Nov 11 2026. No macro, syntax, notation, axiom, sorry.
-/
import Derived.Test.YtcikhjolehlchaaDoorRows
import Derived.LaidByTextLater
import Derived.SevenTiedAt
import Derived.LaidSub
import Derived.LaidOnce
namespace Go.Proofs.YtcikhjolehlchaaDoor
open Go
set_option maxRecDepth 100000
theorem seatTie1 : Tryd.prog.laidByTextLater [("rtcppackets/pub/rtcp.errInvalidTotalLost", Rows.laid_rtcppackets_pub_rtcp_errInvalidTotalLost), ("rtcppackets/pub/rtcp.errPacketTooShort", Rows.laid_rtcppackets_pub_rtcp_errPacketTooShort)] [.sentinel, .sentinel] true :=
  Program.laidByTextLater_by_one 47 8 2 (by kernel_rfl) (by kernel_rfl) (by kernel_rfl) (by kernel_rfl) (by kernel_rfl) (by kernel_rfl) (fun _ _ => by kernel_rfl)
theorem noOwnUnsafe : Tryd.pinned.checked.prog.headLifts.contains "ownunsafe" = false := by kernel_rfl
theorem tie : Tryd.prog.laidByTextLater [("rtcppackets/pub/rtcp.errInvalidTotalLost", Rows.laid_rtcppackets_pub_rtcp_errInvalidTotalLost)] [.sentinel] true :=
  Program.laidByTextLater.sub seatTie1 ["rtcppackets/pub/rtcp.errInvalidTotalLost"] (by kernel_rfl) (by kernel_rfl)
theorem fnReportWritten_row_tie : Rows.fnReportWrittenRow.laidByTextAt .later Tryd.pinned [.sentinel] true :=
  OpenClaim.laidByTextAt_later rfl rfl tie noOwnUnsafe
theorem tie2 : Tryd.prog.laidByTextLater [("rtcppackets/pub/rtcp.errInvalidTotalLost", Rows.laid_rtcppackets_pub_rtcp_errInvalidTotalLost), ("rtcppackets/pub/rtcp.errPacketTooShort", Rows.laid_rtcppackets_pub_rtcp_errPacketTooShort)] [.sentinel, .sentinel] true :=
  Program.laidByTextLater.sub seatTie1 ["rtcppackets/pub/rtcp.errInvalidTotalLost", "rtcppackets/pub/rtcp.errPacketTooShort"] (by kernel_rfl) (by kernel_rfl)
theorem fnReport_row_tie : Rows.fnReportRow.laidByTextAt .later Tryd.pinned [.sentinel, .sentinel] true :=
  OpenClaim.laidByTextAt_later rfl rfl tie2 noOwnUnsafe
theorem fnReportWrittenUpto_row_tie : Rows.fnReportWrittenUptoRow.laidByTextAt .later Tryd.pinned [.sentinel] true :=
  OpenClaim.laidByTextAt_later rfl rfl tie noOwnUnsafe
theorem fnReportUpto_row_tie : Rows.fnReportUptoRow.laidByTextAt .later Tryd.pinned [.sentinel, .sentinel] true :=
  OpenClaim.laidByTextAt_later rfl rfl tie2 noOwnUnsafe
end Go.Proofs.YtcikhjolehlchaaDoor
