/-
  NARROWER THAN 'FOR EVERY INPUT', by the rows' own cells (each row's printed sentence says how): FnHeaderOf: laid · FnDestinations: laid.
  DERIVED. THE GIVEN ROWS OF THIS SEAT. 2 by the template 'for every input the law returns true; each argument reads behind the call as it read before'; 0 by the template 'total and deterministic' (their statements: YtmmfpgoodfgkbaaGreatDoorTotals.lean).
  GIVEN WITH THE SEED: the statements are not yours to turn. If you find one false, say at which input.
  Laid BY PROGRAM, IN A SANDBOX (cutbox-rows.mjs): the forced cells as the released guide's own fill.sh prints them over the translation c5403e21a6e540c1… (all of the seat's roots in one cut). By AI agents, Wed Nov 11 2026. No macro, syntax, notation, axiom, sorry.
-/
import Derived.Test.YtmmfpgoodfgkbaaGreatDoorChecked
import GoSem.Claim
import GoSem.ClaimJoined
import GoSem.ClaimMapViews
import Derived.JoinedTies
import Derived.KernelRfl
namespace Go.Proofs.YtmmfpgoodfgkbaaGreatDoor
/- THE CELL 'sum', in the pinned program and in every row, IS THE sha256 OF THE DUMP (.gsa) THAT YtmmfpgoodfgkbaaGreatDoorProg.lean LOADS. Nothing in Lean hashes anything: it is a label: what it is worth is what the hold of that sum in a sandbox is worth. -/
noncomputable def Tryz.pinned : Pinned := { name := "ytmmfpgoodfgkbaagreatdoor", sum := "c5403e21a6e540c111a3e67e98e839950aabdba77b29d840796aa41b60882102", checked := Tryz.checked }
namespace Rows
def none {H : Type} : Left H := { results := [], args := [] }

/- WHAT THE LISTED PACKAGE-LEVEL VARIABLES READ AS WHEN THE CALL BEGINS. Each datum BY PROGRAM (the guide's laid-datum.mjs) off the statement by which the dump's own 'gosem.cut.vars' lays the variable. In a bare row this is a premise. The card (YtmmfpgoodfgkbaaGreatDoorCards.lean) ties it to the program's text. -/
def laid_rtcppackets_pub_rtcp_errPacketTooShort {H : Type} : DataW H := .iface "*errors.errorString" (.ptr (.agg [.lit (.string [114, 116, 99, 112, 58, 32, 112, 97, 99, 107, 101, 116, 32, 116, 111, 111, 32, 115, 104, 111, 114, 116])]))
def laid_rtcppackets_pub_rtcp_errBadVersion {H : Type} : DataW H := .iface "*errors.errorString" (.ptr (.agg [.lit (.string [114, 116, 99, 112, 58, 32, 105, 110, 118, 97, 108, 105, 100, 32, 112, 97, 99, 107, 101, 116, 32, 118, 101, 114, 115, 105, 111, 110])]))
def laid_rtcppackets_pub_rtcp_errInvalidHeader {H : Type} : DataW H := .iface "*errors.errorString" (.ptr (.agg [.lit (.string [114, 116, 99, 112, 58, 32, 105, 110, 118, 97, 108, 105, 100, 32, 104, 101, 97, 100, 101, 114])]))
def laid_rtcppackets_pub_rtcp_errWrongType {H : Type} : DataW H := .iface "*errors.errorString" (.ptr (.agg [.lit (.string [114, 116, 99, 112, 58, 32, 119, 114, 111, 110, 103, 32, 112, 97, 99, 107, 101, 116, 32, 116, 121, 112, 101])]))
def laid_rtcppackets_pub_rtcp_errBadLength {H : Type} : DataW H := .iface "*errors.errorString" (.ptr (.agg [.lit (.string [114, 116, 99, 112, 58, 32, 105, 110, 118, 97, 108, 105, 100, 32, 112, 97, 99, 107, 101, 116, 32, 108, 101, 110, 103, 116, 104])]))
def laid_rtcppackets_pub_rtcp_errMissingREMBidentifier {H : Type} : DataW H := .iface "*errors.errorString" (.ptr (.agg [.lit (.string [109, 105, 115, 115, 105, 110, 103, 32, 82, 69, 77, 66, 32, 105, 100, 101, 110, 116, 105, 102, 105, 101, 114])]))
def laid_rtcppackets_pub_rtcp_errSSRCNumAndLengthMismatch {H : Type} : DataW H := .iface "*errors.errorString" (.ptr (.agg [.lit (.string [83, 83, 82, 67, 32, 110, 117, 109, 32, 97, 110, 100, 32, 108, 101, 110, 103, 116, 104, 32, 100, 111, 32, 110, 111, 116, 32, 109, 97, 116, 99, 104])]))
def laid_rtcppackets_pub_rtcp_errReportBlockLength {H : Type} : DataW H := .iface "*errors.errorString" (.ptr (.agg [.lit (.string [102, 101, 101, 100, 98, 97, 99, 107, 32, 114, 101, 112, 111, 114, 116, 32, 98, 108, 111, 99, 107, 115, 32, 109, 117, 115, 116, 32, 98, 101, 32, 97, 116, 32, 108, 101, 97, 115, 116, 32, 56, 32, 98, 121, 116, 101, 115])]))
def laid_rtcppackets_pub_rtcp_errIncorrectNumReports {H : Type} : DataW H := .iface "*errors.errorString" (.ptr (.agg [.lit (.string [102, 101, 101, 100, 98, 97, 99, 107, 32, 114, 101, 112, 111, 114, 116, 32, 98, 108, 111, 99, 107, 32, 99, 111, 110, 116, 97, 105, 110, 115, 32, 108, 101, 115, 115, 32, 114, 101, 112, 111, 114, 116, 115, 32, 116, 104, 97, 110, 32, 110, 117, 109, 95, 114, 101, 112, 111, 114, 116, 115])]))

/-- 'laws.FnHeaderOf': WHATEVER THE INPUT: true; the input reads as it did. -/
def fnHeaderOfSpec : ChangeSpec := { name := "fnHeaderOf", fn := fun _ => fun
  | [d] => { results := [.lit (.bool true)], args := [d] }
  | _ => none }
def fnHeaderOfRow : OpenClaim := { program := "ytmmfpgoodfgkbaagreatdoor", sum := "c5403e21a6e540c111a3e67e98e839950aabdba77b29d840796aa41b60882102", func := "rtcppackets/laws.FnHeaderOf", spec := "fnHeaderOf", inPlace := ["math.Float32frombits"], unfollowed := true, recurses := true, named := ["rtcppackets/pub/rtcp.errPacketTooShort", "rtcppackets/pub/rtcp.errBadVersion"], apart := false, laid := [("rtcppackets/pub/rtcp.errPacketTooShort", laid_rtcppackets_pub_rtcp_errPacketTooShort), ("rtcppackets/pub/rtcp.errBadVersion", laid_rtcppackets_pub_rtcp_errBadVersion)] }
def FnHeaderOfSaid : Prop := fnHeaderOfRow.holds Tryz.pinned (OpenSpec.ofChange fnHeaderOfSpec)

/-- ITS FALSE NEIGHBOUR: 'it returns false'. Refute it at one input. -/
def fnHeaderOfWrong : ChangeSpec := { name := "fnHeaderOf", fn := fun _ => fun
  | [d] => { results := [.lit (.bool false)], args := [d] }
  | _ => none }
def FnHeaderOfWrongFalsely : Prop := fnHeaderOfRow.holds Tryz.pinned (OpenSpec.ofChange fnHeaderOfWrong)

/-- 'laws.FnDestinations': WHATEVER THE INPUT: true; the input reads as it did. -/
def fnDestinationsSpec : ChangeSpec := { name := "fnDestinations", fn := fun _ => fun
  | [d] => { results := [.lit (.bool true)], args := [d] }
  | _ => none }
def fnDestinationsRow : OpenClaim := { program := "ytmmfpgoodfgkbaagreatdoor", sum := "c5403e21a6e540c111a3e67e98e839950aabdba77b29d840796aa41b60882102", func := "rtcppackets/laws.FnDestinations", spec := "fnDestinations", inPlace := ["math.Float32bits", "math.Float32frombits"], unfollowed := true, recurses := true, named := ["rtcppackets/pub/rtcp.errInvalidHeader", "rtcppackets/pub/rtcp.errPacketTooShort", "rtcppackets/pub/rtcp.errBadVersion", "rtcppackets/pub/rtcp.errBadLength", "rtcppackets/pub/rtcp.errWrongType", "rtcppackets/pub/rtcp.errReportBlockLength", "rtcppackets/pub/rtcp.errIncorrectNumReports", "rtcppackets/pub/rtcp.errMissingREMBidentifier", "rtcppackets/pub/rtcp.errSSRCNumAndLengthMismatch"], apart := false, laid := [("rtcppackets/pub/rtcp.errInvalidHeader", laid_rtcppackets_pub_rtcp_errInvalidHeader), ("rtcppackets/pub/rtcp.errPacketTooShort", laid_rtcppackets_pub_rtcp_errPacketTooShort), ("rtcppackets/pub/rtcp.errWrongType", laid_rtcppackets_pub_rtcp_errWrongType), ("rtcppackets/pub/rtcp.errBadVersion", laid_rtcppackets_pub_rtcp_errBadVersion), ("rtcppackets/pub/rtcp.errBadLength", laid_rtcppackets_pub_rtcp_errBadLength), ("rtcppackets/pub/rtcp.errMissingREMBidentifier", laid_rtcppackets_pub_rtcp_errMissingREMBidentifier), ("rtcppackets/pub/rtcp.errSSRCNumAndLengthMismatch", laid_rtcppackets_pub_rtcp_errSSRCNumAndLengthMismatch), ("rtcppackets/pub/rtcp.errReportBlockLength", laid_rtcppackets_pub_rtcp_errReportBlockLength), ("rtcppackets/pub/rtcp.errIncorrectNumReports", laid_rtcppackets_pub_rtcp_errIncorrectNumReports)] }
def FnDestinationsSaid : Prop := fnDestinationsRow.holds Tryz.pinned (OpenSpec.ofChange fnDestinationsSpec)

/-- ITS FALSE NEIGHBOUR: 'it returns false'. Refute it at one input. -/
def fnDestinationsWrong : ChangeSpec := { name := "fnDestinations", fn := fun _ => fun
  | [d] => { results := [.lit (.bool false)], args := [d] }
  | _ => none }
def FnDestinationsWrongFalsely : Prop := fnDestinationsRow.holds Tryz.pinned (OpenSpec.ofChange fnDestinationsWrong)

/- THE SECOND FORM. 'bulk': how many values and letters a reading holds, each counted each time it is reached (what is shared counts as often as it is met; a slice's spare places count too). A statement '..UptoSaid' is the law's where the arguments, and the package variables that the reading takes, are together of bulk at most 1048576: NARROWER than '..Said'. Prove '..Said' where nothing that the law and all that it calls make is longer than what came in: it says more and counts as full. Else prove '..UptoSaid'. A law counts once. -/
mutual
def uptoBulk {H : Type} : DataW H → Nat
  | .lit (.string bytes) => bytes.length + 1
  | .lit _ => 1
  | .nil => 1
  | .ptr d => uptoBulk d + 1
  | .slice elems spare => uptoBulkAll elems + uptoBulkAll spare + 1
  | .agg parts => uptoBulkAll parts + 1
  | .iface _ d => uptoBulk d + 1
  | .map entries => uptoBulkEntries entries + 1
  | .held _ => 1
def uptoBulkAll {H : Type} : List (DataW H) → Nat
  | [] => 0
  | d :: r => uptoBulk d + uptoBulkAll r
def uptoBulkEntries {H : Type} : List (Lit × DataW H) → Nat
  | [] => 0
  | x :: r => uptoBulkEntry x + uptoBulkEntries r
def uptoBulkEntry {H : Type} : Lit × DataW H → Nat
  | (.string bytes, d) => bytes.length + uptoBulk d + 1
  | (_, d) => uptoBulk d + 1
 end
def uptoSmall : (H : Type) → List (DataW H) → Bool := fun _ ds => decide (uptoBulkAll ds ≤ 1048576)
def OpenSpec.upto (s : _root_.Go.ChangeSpec) : _root_.Go.OpenSpec := { _root_.Go.OpenSpec.ofChange s with cond := some uptoSmall }

/-- 'laws.FnHeaderOf', WHERE WHAT IT READS IS OF BULK AT MOST 1048576: true; the input reads as it did. -/
def fnHeaderOfUptoRow : OpenClaim := { program := "ytmmfpgoodfgkbaagreatdoor", sum := "c5403e21a6e540c111a3e67e98e839950aabdba77b29d840796aa41b60882102", func := "rtcppackets/laws.FnHeaderOf", spec := "fnHeaderOf", inPlace := ["math.Float32frombits"], unfollowed := true, recurses := true, named := ["rtcppackets/pub/rtcp.errPacketTooShort", "rtcppackets/pub/rtcp.errBadVersion"], apart := false, laid := [("rtcppackets/pub/rtcp.errPacketTooShort", laid_rtcppackets_pub_rtcp_errPacketTooShort), ("rtcppackets/pub/rtcp.errBadVersion", laid_rtcppackets_pub_rtcp_errBadVersion)], narrowed := true }
def FnHeaderOfUptoSaid : Prop := fnHeaderOfUptoRow.holds Tryz.pinned (OpenSpec.upto fnHeaderOfSpec)

/-- 'laws.FnDestinations', WHERE WHAT IT READS IS OF BULK AT MOST 1048576: true; the input reads as it did. -/
def fnDestinationsUptoRow : OpenClaim := { program := "ytmmfpgoodfgkbaagreatdoor", sum := "c5403e21a6e540c111a3e67e98e839950aabdba77b29d840796aa41b60882102", func := "rtcppackets/laws.FnDestinations", spec := "fnDestinations", inPlace := ["math.Float32bits", "math.Float32frombits"], unfollowed := true, recurses := true, named := ["rtcppackets/pub/rtcp.errInvalidHeader", "rtcppackets/pub/rtcp.errPacketTooShort", "rtcppackets/pub/rtcp.errBadVersion", "rtcppackets/pub/rtcp.errBadLength", "rtcppackets/pub/rtcp.errWrongType", "rtcppackets/pub/rtcp.errReportBlockLength", "rtcppackets/pub/rtcp.errIncorrectNumReports", "rtcppackets/pub/rtcp.errMissingREMBidentifier", "rtcppackets/pub/rtcp.errSSRCNumAndLengthMismatch"], apart := false, laid := [("rtcppackets/pub/rtcp.errInvalidHeader", laid_rtcppackets_pub_rtcp_errInvalidHeader), ("rtcppackets/pub/rtcp.errPacketTooShort", laid_rtcppackets_pub_rtcp_errPacketTooShort), ("rtcppackets/pub/rtcp.errWrongType", laid_rtcppackets_pub_rtcp_errWrongType), ("rtcppackets/pub/rtcp.errBadVersion", laid_rtcppackets_pub_rtcp_errBadVersion), ("rtcppackets/pub/rtcp.errBadLength", laid_rtcppackets_pub_rtcp_errBadLength), ("rtcppackets/pub/rtcp.errMissingREMBidentifier", laid_rtcppackets_pub_rtcp_errMissingREMBidentifier), ("rtcppackets/pub/rtcp.errSSRCNumAndLengthMismatch", laid_rtcppackets_pub_rtcp_errSSRCNumAndLengthMismatch), ("rtcppackets/pub/rtcp.errReportBlockLength", laid_rtcppackets_pub_rtcp_errReportBlockLength), ("rtcppackets/pub/rtcp.errIncorrectNumReports", laid_rtcppackets_pub_rtcp_errIncorrectNumReports)], narrowed := true }
def FnDestinationsUptoSaid : Prop := fnDestinationsUptoRow.holds Tryz.pinned (OpenSpec.upto fnDestinationsSpec)

end Rows
end Go.Proofs.YtmmfpgoodfgkbaaGreatDoor
