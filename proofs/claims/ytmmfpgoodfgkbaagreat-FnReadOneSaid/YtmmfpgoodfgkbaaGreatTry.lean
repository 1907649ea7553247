/-
  THE WALK of the thin package's guard: a closure that returns a truth value and does not panic is called, and its answer handed back; a variable of its own is the only new memory beside the closure's. Condition: the closure's contract.
-/
import Derived.Test.YtmmfpgoodfgkbaaGreatRows
import Derived.Test.YtmmfpgoodfgkbaaGreatKit
import Derived.Recover
namespace Go.Proofs.YtmmfpgoodfgkbaaGreat
open Go Go.RowKit
set_option linter.unusedVariables false

theorem catch_idle (p : Addr) (w : World) :
    CallsD Tryz.prog 54 #[.pointer (some p)] .returning w fun e u' w' => e = .returned (.tuple #[]) ∧ u' = .returning ∧ w' = w := by
  refine callsD_of_wpS Tryz.func54 rfl fun c₀ cs hu => ?_
  apply wpS_seq
  apply wpS_region
  simp [wpOpsS, go_sem, recoverD, hu, Tryz.ntmps54, Exit.thenS]
  refine wpS_cond (t := false) (by simp [Act.eval, Array.replicate]) ?_
  simp only [Bool.false_eq_true, if_false]
  refine wpS_of_wp (wp_skip ?_)
  cases c₀
  simp_all [bodyPostS, results, Tryz.results54]

def Tried (n : Nat) (Q : Bool → World → Prop) (e : Ending) (w' : World) : Prop :=
  ∃ b w1, e = .returned (.bool b) ∧ Q b w1 ∧ w1.grownBy w' (some n) ∧ w'.heap.size = w1.heap.size

set_option maxHeartbeats 400000 in
theorem try_any (k : FuncId) (caps : Array Value) (w : World) (Q : Bool → World → Prop) (hk : ∀ w : World, (callFunc k caps).run Tryz.prog w = .ok (.enter k caps) w)
    (h : Calls Tryz.prog k caps (w.alloc (.cells #[.bool false] 4)) fun e w' => ∃ b, e = .returned (.bool b) ∧ Q b w' ∧ Blk w' w.heap.size 4 #[.bool false]) :
    Calls Tryz.prog 26 #[.func (.func k) #[] caps] w (Tried w.heap.size Q) := by
  have H := Lib.hid h
  clear h
  have hmf : ∀ (fn : Fn) (first cap : Array Value) (w : World), (Instr.makeFunc fn first cap).run Tryz.prog w = .ok (.func fn first cap) w := fun _ _ _ _ => rfl
  go_enter_defers Tryz.func26, Tryz.ntmps26
  go_wp2_with fail
  refine H.out.mono ?_
  rintro e w1 ⟨b, rfl, hq, hb1⟩
  have c1 : w1.cell? ⟨w.heap.size, 0, none⟩ = some (.bool false) := hb1.cell 0
  have f1 := hb1.frozen 0
  go_wp2_with fail
  refine leaves_cons (f := 54) (args := #[.pointer (some ⟨w.heap.size, 0, none⟩)]) (by simp) (by simp [go_sem]) ?_
  refine (catch_idle ⟨w.heap.size, 0, none⟩ _).mono ?_
  rintro e u' w'' ⟨rfl, rfl, rfl⟩
  have c2 : (w1.setCell ⟨w.heap.size, 0, none⟩ (.bool b)).cell? ⟨w.heap.size, 0, none⟩ = some (.bool b) := (hb1.set_ 0 (.bool b)).cell 0
  simp only [Leaves, settle]
  refine ⟨.bool b, ?_, b, w1, rfl, hq, grownBy_setCell _ _ _, by simp [World.setCell]⟩
  simp [results, Tryz.results26, go_sem, c2]
end Go.Proofs.YtmmfpgoodfgkbaaGreat
