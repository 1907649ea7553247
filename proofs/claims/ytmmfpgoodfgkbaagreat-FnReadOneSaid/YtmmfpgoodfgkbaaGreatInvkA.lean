/-
  THE LAW of a method called through an interface value. Condition: the block behind the pointer.
-/
import Derived.Test.YtmmfpgoodfgkbaaGreatMStep
namespace Go.Proofs.YtmmfpgoodfgkbaaGreat
open Go Go.RowKit
set_option linter.unusedVariables false
set_option linter.unusedSimpArgs false

section
variable {P : Program}
def rowOf (P : Program) (t : TypeId) (name : String) : Option (Array FieldStep × Option (FuncId × Bool)) := ((P.info? t).bind fun i => i.methods.find? (·.name == name)).map fun m => (m.path, m.func)
theorem run_method {w : World} {n : Nat} {t : TypeId} {v : Value} {name : String} {f : FuncId} {ptr : Bool} (hm : rowOf P t name = some (#[], some (f, ptr))) :
    (method (n + 1) t v name).run P w = ((receiverAt t (.val v) ptr (some ((name.splitOn ".").getLastD name))).run P w).andThen fun r w' => .ok (f, r) w' := by
  unfold rowOf at hm
  cases hi : P.info? t with
  | none => rw [hi] at hm; cases hm
  | some i =>
    rw [hi] at hm
    cases hf : i.methods.find? (·.name == name) with
    | none => rw [Option.bind_some, hf] at hm; cases hm
    | some m =>
      rw [Option.bind_some, hf, Option.map_some] at hm
      injection hm with hm
      injection hm with h1 h2
      simp [method, Sem.run_bind, typeInfo, hi, hf, h1, h2, follow]
theorem run_recvP {w : World} {t T : TypeId} {v : Value} {nm : Option String} (hu : P.underlying t = some (.pointer T)) :
    (receiverAt t (.val v) true nm).run P w = .ok v w := by
  unfold receiverAt
  simp only [Sem.run_bind, run_underlying hu, Result.andThen_ok]
  rfl
theorem run_callMethod {w : World} {t : TypeId} {v r : Value} {name : String} {args : Array Value} {f : FuncId} (h : (method (P.types.size + Made.depth) t v name).run P w = .ok (f, r) w) :
    (callMethod (.iface t v) name args).run P w = (callFunc f (#[r] ++ args)).run P w := by
  simp only [callMethod, Sem.run_bind, run_program, Result.andThen_ok, h]
def Invk (P : Program) (w : World) (v : Value) (name : String) (args : Array Value) (Q : Ending → World → Prop) : Prop :=
  ∃ f fas, (callMethod v name args).run P w = .ok (.enter f fas) w ∧ Calls P f fas w Q
theorem Invk.mono {w : World} {v : Value} {name : String} {args : Array Value} {Q Q' : Ending → World → Prop} (h : Invk P w v name args Q) (hq : ∀ e w', Q e w' → Q' e w') : Invk P w v name args Q' := by
  obtain ⟨f, fas, h1, h2⟩ := h
  exact ⟨f, fas, h1, h2.mono hq⟩
theorem invk_ptr {w : World} {t T : TypeId} {v : Value} {name : String} {f : FuncId} {args : Array Value} {Q : Ending → World → Prop} (hn : 0 < Made.depth) (hm : rowOf P t name = some (#[], some (f, true))) (hu : P.underlying t = some (.pointer T))
    (hc : ∀ (fas : Array Value) (w : World), (callFunc f fas).run P w = .ok (.enter f fas) w) (h : Calls P f (#[v] ++ args) w Q) :
    Invk P w (.iface t v) name args Q := by
  refine ⟨f, _, ?_, h⟩
  obtain ⟨n, hn⟩ : ∃ n, P.types.size + Made.depth = n + 1 := ⟨P.types.size + Made.depth - 1, by omega⟩
  rw [run_callMethod (f := f) (r := v)]
  · exact hc _ _
  · rw [hn, run_method hm, run_recvP hu, Result.andThen_ok]
end

end Go.Proofs.YtmmfpgoodfgkbaaGreat
