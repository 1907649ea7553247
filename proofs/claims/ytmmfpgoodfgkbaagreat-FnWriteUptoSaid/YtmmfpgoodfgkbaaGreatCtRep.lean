/-
  CONTRACTS: a call that touches no memory that is known; the reference's report block. Condition: its numbers fit.
-/
import Derived.Test.YtmmfpgoodfgkbaaGreatBodies
namespace Go.Proofs.YtmmfpgoodfgkbaaGreat
open Go Go.RowKit
set_option linter.unusedVariables false

/-- A call that leaves all that was there as it is. -/
def ctPure {P : Program} (f : FuncId) (V : Array Value → Value) (C : Array Value → List (U × U)) (pre : Array Value → Prop) (h : ∀ (args : Array Value) (w : World), (∀ c ∈ C args, c.1 = c.2) → pre args → Calls P f args w fun e w' => e = .returned (V args) ∧ Below w.heap.size w w') : Ct P where
  f := f
  must := true
  nr := 0
  nw := 0
  V args _ _ := V args
  W _ _ _ := []
  chk args _ := C args
  pre _ args _ := pre args
  ok olds w0 rd wr args ps L w hrd hwr hc hp hL hS := by
    have h1 := len0 hrd
    have h2 := len0 hwr
    subst h1 h2
    exact (h args w hc (hp rfl)).mono fun e w' ⟨he, hb⟩ => ⟨pay0, he, stp_of_below hb⟩
def cellsOfV : Value → Array Value
  | .agg cs => cs
  | _ => #[]
def repOf (cs : Array Value) : Rep := ⟨intOf (cs.getD 0 undef), intOf (cs.getD 1 undef), intOf (cs.getD 2 undef), intOf (cs.getD 3 undef), intOf (cs.getD 4 undef), intOf (cs.getD 5 undef), intOf (cs.getD 6 undef)⟩
/-- The reference's report block as a contract: its bytes are a piece; without a form it has none. -/
def repc : Ct Tryz.prog where
  f := 74
  must := true
  nr := 0
  nw := 1
  V args _ p := .tuple #[.slice p.a (repB (repOf (cellsOfV (args.getD 0 undef)))).length p.c, .bool (repOk (repOf (cellsOfV (args.getD 0 undef))))]
  W args _ p := [some (.bytes 0 (.slice p.a (repB (repOf (cellsOfV (args.getD 0 undef)))).length p.c) (repB (repOf (cellsOfV (args.getD 0 undef)))))]
  chk args _ := [(.c args, .c #[.agg (Rep.cells (repOf (cellsOfV (args.getD 0 undef)))).toArray])]
  pre _ args _ := (repOf (cellsOfV (args.getD 0 undef))).Ok
  ok olds w0 rd wr args ps L w hrd hwr hc hp hL hS := by
    obtain ⟨k, rfl⟩ := len1 hwr
    have h1 := hc _ (List.mem_singleton.2 rfl)
    injection h1 with h1
    generalize repOf (cellsOfV (args.getD 0 undef)) = r at *
    subst h1
    have hp := hp rfl
    by_cases hl : r.lost < 16777216
    · refine (specFormat_any r w hp hl).mono ?_
      rintro e w' ⟨g, cap, rfl, hown, hb⟩
      have e1 : repB r = r.bytes := by rw [repB, if_pos hl]
      refine ⟨⟨0, cap, undef, some ⟨g, 0, none⟩⟩, ?_, ?_⟩
      · rw [e1]
        show Ending.returned (.tuple #[.slice (some ⟨g, 0, none⟩) 24 cap, .bool true]) = _
        rw [repOk, decide_eq_true hl]
        rfl
      · rw [e1]
        have ho := own_base hown (Nat.zero_le w.heap.size)
        exact stp_make hb ho fun x hx => ⟨(hown.lt x hx).2, (hown.lt x hx).1⟩
    · refine (repForm_no r w hp (by omega)).mono ?_
      rintro e w' ⟨rfl, hb⟩
      have e1 : repB r = [] := by rw [repB, if_neg hl]
      refine ⟨⟨0, 0, undef, none⟩, ?_, ?_⟩
      · rw [e1, repOk, decide_eq_false hl]
        rfl
      · rw [e1]
        exact stp_make hb (World.ownsRow_nil _ _ _ _) fun x hx => by simp [Pc.den, ckR, Value.ownBlock] at hx
end Go.Proofs.YtmmfpgoodfgkbaaGreat
