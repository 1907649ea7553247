/-
  DERIVED. GIVEN WITH THE SEED: THE CARDS: each row of YtmmfpgoodfgkbaaGreatDoorRows.lean that lists a variable, with what it lists TIED to the program's text (the seventh form; the later family's looks); each row that meets fmt, with fmt's text TOLD by the authors' own Lean function (tested against real Go, not proved from fmt's source: count such statements apart). THE CARD IS WHAT COUNTS. Prove the row's statement (the work); the ties are given (YtmmfpgoodfgkbaaGreatDoorTie.lean); close each card by the builder's one call (the guide's Derived/Test/ToyasCard.lean, 'card_holds'). Laid BY PROGRAM, IN A SANDBOX (cutbox-door.mjs). By AI agents, Wed Nov 11 2026. No macro, syntax, notation, axiom, sorry.
-/
import Derived.Test.YtmmfpgoodfgkbaaGreatDoorRows
import GoSem.ClaimSeven
namespace Go.Proofs.YtmmfpgoodfgkbaaGreatDoor
namespace Rows

/-- THE TIED CARD OF 'laws.FnHeaderOf'. -/
def fnHeaderOfCard : Claim7 := { stood := { row := fnHeaderOfRow, standIns := [], harness := (true, "b14fe1194c44a7e6bcf340ffecae0cde6091f168f07d5403b2da5c4d1a1bd693"), looks := true }, kinds := [], alts := [], laidByText := true, laidKinds := [.sentinel, .sentinel], laidTests := true, laidLooks := .later }
def FnHeaderOfCardSaid : Prop := Claim7.holds Tryz.pinned (.plain (OpenSpec.ofChange fnHeaderOfSpec)) fnHeaderOfCard

/-- THE TIED CARD OF 'laws.FnDestinations'. -/
def fnDestinationsCard : Claim7 := { stood := { row := fnDestinationsRow, standIns := [], harness := (true, "b14fe1194c44a7e6bcf340ffecae0cde6091f168f07d5403b2da5c4d1a1bd693"), looks := true }, kinds := [], alts := [], laidByText := true, laidKinds := [.sentinel, .sentinel, .sentinel, .sentinel, .sentinel, .sentinel, .sentinel, .sentinel, .sentinel], laidTests := true, laidLooks := .later }
def FnDestinationsCardSaid : Prop := Claim7.holds Tryz.pinned (.plain (OpenSpec.ofChange fnDestinationsSpec)) fnDestinationsCard

/-- THE SECOND FORM's CARD OF 'laws.FnHeaderOf'. -/
def fnHeaderOfUptoCard : Claim7 := { stood := { row := fnHeaderOfUptoRow, standIns := [], harness := (true, "b14fe1194c44a7e6bcf340ffecae0cde6091f168f07d5403b2da5c4d1a1bd693"), looks := true }, kinds := [], alts := [], laidByText := true, laidKinds := [.sentinel, .sentinel], laidTests := true, laidLooks := .later }
def FnHeaderOfUptoCardSaid : Prop := Claim7.holds Tryz.pinned (.plain (OpenSpec.upto fnHeaderOfSpec)) fnHeaderOfUptoCard

/-- THE SECOND FORM's CARD OF 'laws.FnDestinations'. -/
def fnDestinationsUptoCard : Claim7 := { stood := { row := fnDestinationsUptoRow, standIns := [], harness := (true, "b14fe1194c44a7e6bcf340ffecae0cde6091f168f07d5403b2da5c4d1a1bd693"), looks := true }, kinds := [], alts := [], laidByText := true, laidKinds := [.sentinel, .sentinel, .sentinel, .sentinel, .sentinel, .sentinel, .sentinel, .sentinel, .sentinel], laidTests := true, laidLooks := .later }
def FnDestinationsUptoCardSaid : Prop := Claim7.holds Tryz.pinned (.plain (OpenSpec.upto fnDestinationsSpec)) fnDestinationsUptoCard
end Rows
end Go.Proofs.YtmmfpgoodfgkbaaGreatDoor
