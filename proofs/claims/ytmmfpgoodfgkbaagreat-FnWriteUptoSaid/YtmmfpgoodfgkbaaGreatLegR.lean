/-
  What the law's look at a packet hands back, and the text of some bytes. No condition.
-/
import Derived.Test.YtmmfpgoodfgkbaaGreatMPkt
import Derived.Test.YtmmfpgoodfgkbaaGreatLegalAny
namespace Go.Proofs.YtmmfpgoodfgkbaaGreat
open Go Go.RowKit
set_option linter.unusedVariables false

/-- What 'legal' hands back. -/
def LegalR (w : World) (p c : Pkt) (bs : List Int) (ok : Prop) (e : Ending) (w' : World) : Prop :=
  (ok ∧ bs.length ≤ 131072 ∧ ∃ A cap, e = .returned (.tuple #[.agg c.cells, .slice A bs.length cap, .bool true]) ∧ Reads w' w'.heap.size 1 A bs.length (u8s bs) ∧ Below w.heap.size w w') ∨
  (e = .returned (.tuple #[.agg p.cells, .slice none 0 0, .bool false]) ∧ Below w.heap.size w w')
end Go.Proofs.YtmmfpgoodfgkbaaGreat
