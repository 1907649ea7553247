/-
  THE WALKS of the thin package's making of an empty packet of each kind: all its lists are nil. No condition.
-/
import Derived.Test.YtmmfpgoodfgkbaaGreatDoorUm
import Derived.Test.YtmmfpgoodfgkbaaGreatDoorMClone
namespace Go.Proofs.YtmmfpgoodfgkbaaGreatDoor
open Go Go.RowKit
set_option linter.unusedVariables false
set_option linter.unusedSimpArgs false

theorem cu_nil {olds : Nat → Prop} {w0 : World} (f : FuncId) (args : Array Value) (v : Value) (h : ∀ w, Calls Tryz.prog f args w fun e w' => e = .returned v ∧ Below w.heap.size w w') (L : PL) (w : World) (hps : [] = ([] ++ []).map (lookP L)) (hS : Stp olds w0 w (restr ([] ++ []) (lookM (den olds w0 L)))) :
  Calls Tryz.prog f args w fun e w' => ∃ x : Pay, e = .returned v ∧ Stp (blksOf (lookM (den olds w0 L)) []) w w' (lookM (den olds w0 (zipW [] []))) :=
 (h w).mono fun e w' ⟨he, hB⟩ => ⟨pay0, he, stp_of_below hB⟩
end Go.Proofs.YtmmfpgoodfgkbaaGreatDoor
namespace Go.Proofs.YtmmfpgoodfgkbaaGreatDoor
open Go Go.RowKit
set_option linter.unusedVariables false
set_option linter.unusedSimpArgs false

end Go.Proofs.YtmmfpgoodfgkbaaGreatDoor
