/-
  DERIVED. GIVEN WITH THE SEED: THE CARDS: each row of YtcikhjolehlchaaDoorRows.lean that lists a variable, with what it lists TIED to the program's text (the seventh form; the later family's looks); each row that meets fmt, with fmt's text TOLD by the authors' own Lean function (tested against real Go, not proved from fmt's source: count such statements apart). THE CARD IS WHAT COUNTS. Prove the row's statement (the work); the ties are given (YtcikhjolehlchaaDoorTie.lean); close each card by the builder's one call (the guide's Derived/Test/ToyasCard.lean, 'card_holds'). Laid BY PROGRAM, IN A SANDBOX (cutbox-door.mjs). By AI agents, Wed Nov 11 2026. No macro, syntax, notation, axiom, sorry.
-/
import Derived.Test.YtcikhjolehlchaaDoorRows
import GoSem.ClaimSeven
namespace Go.Proofs.YtcikhjolehlchaaDoor
namespace Rows

/-- THE TIED CARD OF 'laws.FnReportWritten'. -/
def fnReportWrittenCard : Claim7 := { stood := { row := fnReportWrittenRow, standIns := [], harness := (true, "0a3bfa920c9197dbcebe595abdf48c1ed48f045693452906053005790e102ef9"), looks := false }, kinds := [], alts := [], laidByText := true, laidKinds := [.sentinel], laidTests := true, laidLooks := .later }
def FnReportWrittenCardSaid : Prop := Claim7.holds Tryd.pinned (.plain (OpenSpec.ofChange fnReportWrittenSpec)) fnReportWrittenCard

/-- THE TIED CARD OF 'laws.FnReport'. -/
def fnReportCard : Claim7 := { stood := { row := fnReportRow, standIns := [], harness := (true, "0a3bfa920c9197dbcebe595abdf48c1ed48f045693452906053005790e102ef9"), looks := false }, kinds := [], alts := [], laidByText := true, laidKinds := [.sentinel, .sentinel], laidTests := true, laidLooks := .later }
def FnReportCardSaid : Prop := Claim7.holds Tryd.pinned (.plain (OpenSpec.ofChange fnReportSpec)) fnReportCard

/-- THE SECOND FORM's CARD OF 'laws.FnReportWritten'. -/
def fnReportWrittenUptoCard : Claim7 := { stood := { row := fnReportWrittenUptoRow, standIns := [], harness := (true, "0a3bfa920c9197dbcebe595abdf48c1ed48f045693452906053005790e102ef9"), looks := false }, kinds := [], alts := [], laidByText := true, laidKinds := [.sentinel], laidTests := true, laidLooks := .later }
def FnReportWrittenUptoCardSaid : Prop := Claim7.holds Tryd.pinned (.plain (OpenSpec.upto fnReportWrittenSpec)) fnReportWrittenUptoCard

/-- THE SECOND FORM's CARD OF 'laws.FnReport'. -/
def fnReportUptoCard : Claim7 := { stood := { row := fnReportUptoRow, standIns := [], harness := (true, "0a3bfa920c9197dbcebe595abdf48c1ed48f045693452906053005790e102ef9"), looks := false }, kinds := [], alts := [], laidByText := true, laidKinds := [.sentinel, .sentinel], laidTests := true, laidLooks := .later }
def FnReportUptoCardSaid : Prop := Claim7.holds Tryd.pinned (.plain (OpenSpec.upto fnReportSpec)) fnReportUptoCard
end Rows
end Go.Proofs.YtcikhjolehlchaaDoor
