/-
  NARROWER THAN 'FOR EVERY INPUT', by the rows' own cells (each row's printed sentence says how): FnReportWritten: laid · FnReport: laid.
  DERIVED. THE GIVEN ROWS OF THIS SEAT. 2 by the template 'for every input the law returns true; each argument reads behind the call as it read before'; 0 by the template 'total and deterministic' (their statements: YtcikhjolehlchaaDoorTotals.lean).
  GIVEN WITH THE SEED: the statements are not yours to turn. If you find one false, say at which input.
  Laid BY PROGRAM, IN A SANDBOX (cutbox-rows.mjs): the forced cells as the released guide's own fill.sh prints them over the translation 009d096fc7801d00… (all of the seat's roots in one cut). By AI agents, Wed Nov 11 2026. No macro, syntax, notation, axiom, sorry.
-/
import Derived.Test.YtcikhjolehlchaaDoorChecked
import GoSem.Claim
import GoSem.ClaimJoined
import GoSem.ClaimMapViews
import Derived.JoinedTies
import Derived.KernelRfl
namespace Go.Proofs.YtcikhjolehlchaaDoor
/- THE CELL 'sum', in the pinned program and in every row, IS THE sha256 OF THE DUMP (.gsa) THAT YtcikhjolehlchaaDoorProg.lean LOADS. Nothing in Lean hashes anything: it is a label: what it is worth is what the hold of that sum in a sandbox is worth. -/
noncomputable def Tryd.pinned : Pinned := { name := "ytcikhjolehlchaadoor", sum := "009d096fc7801d0035815d45237b86237117dd7a71074507cb49abec3a805d07", checked := Tryd.checked }
namespace Rows
def none {H : Type} : Left H := { results := [], args := [] }

/- WHAT THE LISTED PACKAGE-LEVEL VARIABLES READ AS WHEN THE CALL BEGINS. Each datum BY PROGRAM (the guide's laid-datum.mjs) off the statement by which the dump's own 'gosem.cut.vars' lays the variable. In a bare row this is a premise. The card (YtcikhjolehlchaaDoorCards.lean) ties it to the program's text. -/
def laid_rtcppackets_pub_rtcp_errInvalidTotalLost {H : Type} : DataW H := .iface "*errors.errorString" (.ptr (.agg [.lit (.string [114, 116, 99, 112, 58, 32, 105, 110, 118, 97, 108, 105, 100, 32, 116, 111, 116, 97, 108, 32, 108, 111, 115, 116, 32, 99, 111, 117, 110, 116])]))
def laid_rtcppackets_pub_rtcp_errPacketTooShort {H : Type} : DataW H := .iface "*errors.errorString" (.ptr (.agg [.lit (.string [114, 116, 99, 112, 58, 32, 112, 97, 99, 107, 101, 116, 32, 116, 111, 111, 32, 115, 104, 111, 114, 116])]))

/-- 'laws.FnReportWritten': WHATEVER THE INPUT: true; the input reads as it did. -/
def fnReportWrittenSpec : ChangeSpec := { name := "fnReportWritten", fn := fun _ => fun
  | [d] => { results := [.lit (.bool true)], args := [d] }
  | _ => none }
def fnReportWrittenRow : OpenClaim := { program := "ytcikhjolehlchaadoor", sum := "009d096fc7801d0035815d45237b86237117dd7a71074507cb49abec3a805d07", func := "rtcppackets/laws.FnReportWritten", spec := "fnReportWritten", unfollowed := true, recurses := true, named := ["rtcppackets/pub/rtcp.errInvalidTotalLost"], apart := false, laid := [("rtcppackets/pub/rtcp.errInvalidTotalLost", laid_rtcppackets_pub_rtcp_errInvalidTotalLost)] }
def FnReportWrittenSaid : Prop := fnReportWrittenRow.holds Tryd.pinned (OpenSpec.ofChange fnReportWrittenSpec)

/-- ITS FALSE NEIGHBOUR: 'it returns false'. Refute it at one input. -/
def fnReportWrittenWrong : ChangeSpec := { name := "fnReportWritten", fn := fun _ => fun
  | [d] => { results := [.lit (.bool false)], args := [d] }
  | _ => none }
def FnReportWrittenWrongFalsely : Prop := fnReportWrittenRow.holds Tryd.pinned (OpenSpec.ofChange fnReportWrittenWrong)

/-- 'laws.FnReport': WHATEVER THE INPUT: true; the input reads as it did. -/
def fnReportSpec : ChangeSpec := { name := "fnReport", fn := fun _ => fun
  | [d] => { results := [.lit (.bool true)], args := [d] }
  | _ => none }
def fnReportRow : OpenClaim := { program := "ytcikhjolehlchaadoor", sum := "009d096fc7801d0035815d45237b86237117dd7a71074507cb49abec3a805d07", func := "rtcppackets/laws.FnReport", spec := "fnReport", unfollowed := true, recurses := true, named := ["rtcppackets/pub/rtcp.errPacketTooShort", "rtcppackets/pub/rtcp.errInvalidTotalLost"], apart := false, laid := [("rtcppackets/pub/rtcp.errInvalidTotalLost", laid_rtcppackets_pub_rtcp_errInvalidTotalLost), ("rtcppackets/pub/rtcp.errPacketTooShort", laid_rtcppackets_pub_rtcp_errPacketTooShort)] }
def FnReportSaid : Prop := fnReportRow.holds Tryd.pinned (OpenSpec.ofChange fnReportSpec)

/-- ITS FALSE NEIGHBOUR: 'it returns false'. Refute it at one input. -/
def fnReportWrong : ChangeSpec := { name := "fnReport", fn := fun _ => fun
  | [d] => { results := [.lit (.bool false)], args := [d] }
  | _ => none }
def FnReportWrongFalsely : Prop := fnReportRow.holds Tryd.pinned (OpenSpec.ofChange fnReportWrong)

/- THE SECOND FORM. 'bulk': how many values and letters a reading holds, each counted each time it is reached (what is shared counts as often as it is met; a slice's spare places count too). A statement '..UptoSaid' is the law's where the arguments, and the package variables that the reading takes, are together of bulk at most 1048576: NARROWER than '..Said'. Prove '..Said' where nothing that the law and all that it calls make is longer than what came in: it says more and counts as full. Else prove '..UptoSaid'. A law counts once. -/
mutual
def uptoBulk {H : Type} : DataW H → Nat
  | .lit (.string bytes) => bytes.length + 1
  | .lit _ => 1
  | .nil => 1
  | .ptr d => uptoBulk d + 1
  | .slice elems spare => uptoBulkAll elems + uptoBulkAll spare + 1
  | .agg parts => uptoBulkAll parts + 1
  | .iface _ d => uptoBulk d + 1
  | .map entries => uptoBulkEntries entries + 1
  | .held _ => 1
def uptoBulkAll {H : Type} : List (DataW H) → Nat
  | [] => 0
  | d :: r => uptoBulk d + uptoBulkAll r
def uptoBulkEntries {H : Type} : List (Lit × DataW H) → Nat
  | [] => 0
  | x :: r => uptoBulkEntry x + uptoBulkEntries r
def uptoBulkEntry {H : Type} : Lit × DataW H → Nat
  | (.string bytes, d) => bytes.length + uptoBulk d + 1
  | (_, d) => uptoBulk d + 1
 end
def uptoSmall : (H : Type) → List (DataW H) → Bool := fun _ ds => decide (uptoBulkAll ds ≤ 1048576)
def OpenSpec.upto (s : _root_.Go.ChangeSpec) : _root_.Go.OpenSpec := { _root_.Go.OpenSpec.ofChange s with cond := some uptoSmall }

/-- 'laws.FnReportWritten', WHERE WHAT IT READS IS OF BULK AT MOST 1048576: true; the input reads as it did. -/
def fnReportWrittenUptoRow : OpenClaim := { program := "ytcikhjolehlchaadoor", sum := "009d096fc7801d0035815d45237b86237117dd7a71074507cb49abec3a805d07", func := "rtcppackets/laws.FnReportWritten", spec := "fnReportWritten", unfollowed := true, recurses := true, named := ["rtcppackets/pub/rtcp.errInvalidTotalLost"], apart := false, laid := [("rtcppackets/pub/rtcp.errInvalidTotalLost", laid_rtcppackets_pub_rtcp_errInvalidTotalLost)], narrowed := true }
def FnReportWrittenUptoSaid : Prop := fnReportWrittenUptoRow.holds Tryd.pinned (OpenSpec.upto fnReportWrittenSpec)

/-- 'laws.FnReport', WHERE WHAT IT READS IS OF BULK AT MOST 1048576: true; the input reads as it did. -/
def fnReportUptoRow : OpenClaim := { program := "ytcikhjolehlchaadoor", sum := "009d096fc7801d0035815d45237b86237117dd7a71074507cb49abec3a805d07", func := "rtcppackets/laws.FnReport", spec := "fnReport", unfollowed := true, recurses := true, named := ["rtcppackets/pub/rtcp.errPacketTooShort", "rtcppackets/pub/rtcp.errInvalidTotalLost"], apart := false, laid := [("rtcppackets/pub/rtcp.errInvalidTotalLost", laid_rtcppackets_pub_rtcp_errInvalidTotalLost), ("rtcppackets/pub/rtcp.errPacketTooShort", laid_rtcppackets_pub_rtcp_errPacketTooShort)], narrowed := true }
def FnReportUptoSaid : Prop := fnReportUptoRow.holds Tryd.pinned (OpenSpec.upto fnReportSpec)

end Rows
end Go.Proofs.YtcikhjolehlchaaDoor
