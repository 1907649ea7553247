/-
  THE LAW of a method called through an interface value. Condition: the block behind the pointer.
-/
import Derived.Test.YtmmfpgoodfgkbaaGreatDoorMStep
import Derived.Test.YtmmfpgoodfgkbaaGreatDoorRows
import Derived.Test.YtmmfpgoodfgkbaaGreatDoorKit
import Derived.Recover
namespace Go.Proofs.YtmmfpgoodfgkbaaGreatDoor
open Go Go.RowKit
set_option linter.unusedVariables false
set_option linter.unusedSimpArgs false

section
variable {P : Program}
def rowOf (P : Program) (t : TypeId) (name : String) : Option (Array FieldStep × Option (FuncId × Bool)) := ((P.info? t).bind fun i => i.methods.find? (·.name == name)).map fun m => (m.path, m.func)
theorem run_method {w : World} {n : Nat} {t : TypeId} {v : Value} {name : String} {f : FuncId} {ptr : Bool} (hm : rowOf P t name = some (#[], some (f, ptr))) :
  (method (n + 1) t v name).run P w = ((receiverAt t (.val v) ptr (some ((name.splitOn ".").getLastD name))).run P w).andThen fun r w' => .ok (f, r) w' := by
 unfold rowOf at hm
 cases hi : P.info? t with
 | none => rw [hi] at hm; cases hm
 | some i =>
  rw [hi] at hm
  cases hf : i.methods.find? (·.name == name) with
  | none => rw [Option.bind_some, hf] at hm; cases hm
  | some m =>
   rw [Option.bind_some, hf, Option.map_some] at hm
   injection hm with hm
   injection hm with h1 h2
   simp [method, Sem.run_bind, typeInfo, hi, hf, h1, h2, follow]
theorem run_recv {w : World} {t T : TypeId} {g : Nat} {nm : String} {cs : Array Value} (hu : P.underlying t = some (.pointer T)) (hb : Blk w g T cs) (hl : ldB P T cs.toList 0 = true) :
  (receiverAt t (.val (.pointer (some ⟨g, 0, none⟩))) false (some nm)).run P w = .ok (ldV P T cs.toList 0) w := by
 unfold receiverAt
 simp only [Sem.run_bind, run_underlying hu, Result.andThen_ok]
 exact run_var hb hl
theorem run_recvP {w : World} {t T : TypeId} {v : Value} {nm : Option String} (hu : P.underlying t = some (.pointer T)) :
  (receiverAt t (.val v) true nm).run P w = .ok v w := by
 unfold receiverAt
 simp only [Sem.run_bind, run_underlying hu, Result.andThen_ok]
 rfl
theorem run_callMethod {w : World} {t : TypeId} {v r : Value} {name : String} {args : Array Value} {f : FuncId} (h : (method (P.types.size + Made.depth) t v name).run P w = .ok (f, r) w) :
  (callMethod (.iface t v) name args).run P w = (callFunc f (#[r] ++ args)).run P w := by
 simp only [callMethod, Sem.run_bind, run_program, Result.andThen_ok, h]
def Invk (P : Program) (w : World) (v : Value) (name : String) (args : Array Value) (Q : Ending → World → Prop) : Prop :=
 ∃ f fas, (callMethod v name args).run P w = .ok (.enter f fas) w ∧ Calls P f fas w Q
theorem Invk.mono {w : World} {v : Value} {name : String} {args : Array Value} {Q Q' : Ending → World → Prop} (h : Invk P w v name args Q) (hq : ∀ e w', Q e w' → Q' e w') : Invk P w v name args Q' := by
 obtain ⟨f, fas, h1, h2⟩ := h
 exact ⟨f, fas, h1, h2.mono hq⟩
theorem invk_val {w : World} {t T : TypeId} {g : Nat} {cs : Array Value} {name : String} {f : FuncId} {args : Array Value} {Q : Ending → World → Prop} (hn : 0 < Made.depth) (hm : rowOf P t name = some (#[], some (f, false))) (hu : P.underlying t = some (.pointer T)) (hl : ldB P T cs.toList 0 = true)
  (hc : ∀ (fas : Array Value) (w : World), (callFunc f fas).run P w = .ok (.enter f fas) w) (hb : Blk w g T cs) (h : Calls P f (#[ldV P T cs.toList 0] ++ args) w Q) :
  Invk P w (.iface t (.pointer (some ⟨g, 0, none⟩))) name args Q := by
 refine ⟨f, _, ?_, h⟩
 obtain ⟨n, hn⟩ : ∃ n, P.types.size + Made.depth = n + 1 := ⟨P.types.size + Made.depth - 1, by omega⟩
 rw [run_callMethod (f := f) (r := ldV P T cs.toList 0)]
 ·exact hc _ _
 ·rw [hn, run_method hm, run_recv hu hb hl, Result.andThen_ok]
theorem invk_ptr {w : World} {t T : TypeId} {v : Value} {name : String} {f : FuncId} {args : Array Value} {Q : Ending → World → Prop} (hn : 0 < Made.depth) (hm : rowOf P t name = some (#[], some (f, true))) (hu : P.underlying t = some (.pointer T))
  (hc : ∀ (fas : Array Value) (w : World), (callFunc f fas).run P w = .ok (.enter f fas) w) (h : Calls P f (#[v] ++ args) w Q) :
  Invk P w (.iface t v) name args Q := by
 refine ⟨f, _, ?_, h⟩
 obtain ⟨n, hn⟩ : ∃ n, P.types.size + Made.depth = n + 1 := ⟨P.types.size + Made.depth - 1, by omega⟩
 rw [run_callMethod (f := f) (r := v)]
 ·exact hc _ _
 ·rw [hn, run_method hm, run_recvP hu, Result.andThen_ok]
end

end Go.Proofs.YtmmfpgoodfgkbaaGreatDoor
namespace Go.Proofs.YtmmfpgoodfgkbaaGreatDoor
open Go Go.RowKit
set_option maxHeartbeats 4000000
set_option maxRecDepth 100000
set_option linter.unusedVariables false

theorem catch_idle (p : Addr) (w : World) :
  CallsD Tryz.prog 56 #[.pointer (some p)] .returning w fun e u' w' => e = .returned (.tuple #[]) ∧ u' = .returning ∧ w' = w := by
 refine callsD_of_wpS Tryz.func56 rfl fun c₀ cs hu => ?_
 apply wpS_seq
 apply wpS_region
 simp [wpOpsS, go_sem, recoverD, hu, Tryz.ntmps56, Exit.thenS]
 refine wpS_cond (t := false) (by simp [Act.eval, Array.replicate]) ?_
 simp only [Bool.false_eq_true, if_false]
 refine wpS_of_wp (wp_skip ?_)
 cases c₀
 simp_all [bodyPostS, results, Tryz.results56]

def Tried (n : Nat) (Q : Bool → World → Prop) (e : Ending) (w' : World) : Prop :=
 ∃ b w1, e = .returned (.bool b) ∧ Q b w1 ∧ w1.grownBy w' (some n) ∧ w'.heap.size = w1.heap.size

theorem try_any (k : FuncId) (caps : Array Value) (w : World) (Q : Bool → World → Prop) (hk : ∀ w : World, (callFunc k caps).run Tryz.prog w = .ok (.enter k caps) w)
  (h : Calls Tryz.prog k caps (w.alloc (.cells #[.bool false] 4)) fun e w' => ∃ b, e = .returned (.bool b) ∧ Q b w' ∧ Blk w' w.heap.size 4 #[.bool false]) :
  Calls Tryz.prog 20 #[.func (.func k) #[] caps] w (Tried w.heap.size Q) := by
 have H := Lib.hid h
 clear h
 have hmf : ∀ (fn : Fn) (first cap : Array Value) (w : World), (Instr.makeFunc fn first cap).run Tryz.prog w = .ok (.func fn first cap) w := fun _ _ _ _ => rfl
 go_enter_defers Tryz.func20, Tryz.ntmps20
 go_wp2_with fail
 refine H.out.mono ?_
 rintro e w1 ⟨b, rfl, hq, hb1⟩
 have c1 : w1.cell? ⟨w.heap.size, 0, none⟩ = some (.bool false) := hb1.cell 0
 have f1 := hb1.frozen 0
 go_wp2_with fail
 refine leaves_cons (f := 56) (args := #[.pointer (some ⟨w.heap.size, 0, none⟩)]) (by simp) (by simp [go_sem]) ?_
 refine (catch_idle ⟨w.heap.size, 0, none⟩ _).mono ?_
 rintro e u' w'' ⟨rfl, rfl, rfl⟩
 have c2 : (w1.setCell ⟨w.heap.size, 0, none⟩ (.bool b)).cell? ⟨w.heap.size, 0, none⟩ = some (.bool b) := (hb1.set_ 0 (.bool b)).cell 0
 simp only [Leaves, settle]
 refine ⟨.bool b, ?_, b, w1, rfl, hq, grownBy_setCell _ _ _, by simp [World.setCell]⟩
 simp [results, Tryz.results20, go_sem, c2]
end Go.Proofs.YtmmfpgoodfgkbaaGreatDoor
