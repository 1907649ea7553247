/-
  WALKING WITH A FRAME THAT IS A VARIABLE: of the frame only a list of slots with what they hold is known, the newest first. A walk then costs the same in a frame of ten slots and in one of five hundred. No condition.
-/
import Derived.Test.YtmmfpgoodfgkbaaGreatInv
import Derived.Deep.LoopGhost
namespace Go.Proofs.YtmmfpgoodfgkbaaGreat
open Go Go.RowKit
set_option linter.unusedVariables false

/-- What the list says of a slot. -/
def look : List (Nat × Value) → Nat → Option Value
  | [], _ => none
  | (k, v) :: l, j => bif Nat.beq k j then some v else look l j

def AllAt (a : Act) : List (Nat × Value) → Prop
  | [] => True
  | (j, v) :: l => a.tmps[j]? = some v ∧ AllAt a l

/-- A frame of n slots without deferred calls, of which the list holds. -/
structure Env (n : Nat) (l : List (Nat × Value)) (a : Act) : Prop where
  size : a.tmps.size = n
  defers : a.defers = []
  at_ : ∀ j v, look l j = some v → a.tmps[j]? = some v

section
variable {P : Program} {n : Nat} {l l' : List (Nat × Value)} {a a' : Act} {w : World} {Q : Exit → Act → World → Prop}
theorem Env.get (h : Env n l a) (j : Nat) {v : Value} (hl : look l j = some v) : a.tmps[j]? = some v := h.at_ j v hl
theorem Env.ev (h : Env n l a) (j : Nat) {v : Value} (hl : look l j = some v) : a.eval (.tmp j) = v := by
  simp [Act.eval, h.at_ j v hl]
theorem look_mem : ∀ {l : List (Nat × Value)} {j : Nat} {v : Value}, AllAt a l → look l j = some v → a.tmps[j]? = some v
  | [], _, _, _, h => by simp [look] at h
  | (k, x) :: l, j, v, ha, h => by
    unfold look at h
    cases hb : Nat.beq k j with
    | true =>
      rw [hb] at h
      simp only [cond_true, Option.some.injEq] at h
      have : k = j := Nat.eq_of_beq_eq_true hb
      subst this
      subst h
      exact ha.1
    | false =>
      rw [hb] at h
      exact look_mem ha.2 h
theorem Env.mk' (h1 : a.tmps.size = n) (h2 : a.defers = []) (h3 : AllAt a l) : Env n l a := ⟨h1, h2, fun _ _ h => look_mem h3 h⟩
theorem Env.keep (h : Env n l a) (h3 : AllAt a l') : Env n l' a := Env.mk' h.size h.defers h3
theorem Env.put (h : Env n l a) {d : Nat} (hd : d < n) (v : Value) : Env n ((d, v) :: l) (a.put (some d) v) := by
  refine ⟨by rw [put_size]; exact h.size, by rw [put_defers]; exact h.defers, fun j u hj => ?_⟩
  unfold look at hj
  cases hb : Nat.beq d j with
  | true =>
    rw [hb] at hj
    simp only [cond_true, Option.some.injEq] at hj
    have : d = j := Nat.eq_of_beq_eq_true hb
    subst this
    subst hj
    exact put_at _ _ _ (by rw [h.size]; exact hd)
  | false =>
    rw [hb] at hj
    rw [put_ne _ _ _ _ (fun e => by injection e with e; subst e; simp at hb)]
    exact h.at_ j u hj
theorem Env.enter (args : Array Value) (hn : args.size ≤ n) (h : AllAt ⟨args ++ Array.replicate (n - args.size) undef, []⟩ l) : Env n l ⟨args ++ Array.replicate (n - args.size) undef, []⟩ :=
  Env.mk' (by simp; omega) rfl h

/-- One operation that writes a slot. -/
theorem wpList_val {ops : Array Oper} {o : Oper} {rest : List Oper} (hE : Env n l a) (d : Nat) (hg : o.guard = none) (hlt : Nat.blt d n = true)
    (h : ∀ K : Act → World → Prop, (∀ v w', (∀ a', Env n ((d, v) :: l) a' → wpList P ops Q rest a' w') → K (a.put (some d) v) w') → o.wp P a w K Q) : wpList P ops Q (o :: rest) a w := by
  refine wpList_plain hg fun K hK => h K fun v w' h2 => hK _ _ (h2 _ (hE.put (by simpa [Nat.blt_eq] using hlt) v))
/-- One operation that writes no slot. -/
theorem wpList_none {ops : Array Oper} {o : Oper} {rest : List Oper} (hg : o.guard = none)
    (h : ∀ K : Act → World → Prop, (∀ v w', wpList P ops Q rest a w' → K (a.put none v) w') → o.wp P a w K Q) : wpList P ops Q (o :: rest) a w :=
  wpList_plain hg fun K hK => h K fun v w' h2 => hK _ _ h2
/-- A guarded operation that is carried out, and one that is passed over. -/
theorem wpList_gval {ops : Array Oper} {o : Oper} {rest : List Oper} (hE : Env n l a) (d : Nat) (g : Nat) (want : Bool) (dg : Nat) (hg : o.guard = some (g, want)) (hdg : (ops[g]?).bind (·.dst) = some dg) (hl : look l dg = some (.bool want)) (hlt : Nat.blt d n = true)
    (h : ∀ K : Act → World → Prop, (∀ v w', (∀ a', Env n ((d, v) :: l) a' → wpList P ops Q rest a' w') → K (a.put (some d) v) w') → o.wp P a w K Q) : wpList P ops Q (o :: rest) a w := by
  have hy : yielded ops a.tmps g = some want := by
    unfold yielded
    rw [hdg]
    simp [hE.get dg hl]
  refine wpList_step fun K hK => ?_
  rw [if_pos (by simp [Region.wanted, hg, hy])]
  exact h K fun v w' h2 => hK _ _ (h2 _ (hE.put (by simpa [Nat.blt_eq] using hlt) v))
theorem wpList_gskip {ops : Array Oper} {o : Oper} {rest : List Oper} (hE : Env n l a) (d : Nat) (g : Nat) (want : Bool) (dg : Nat) (hg : o.guard = some (g, want)) (hd : o.dst = some d) (hdg : (ops[g]?).bind (·.dst) = some dg) (hl : look l dg = some (.bool !want)) (hlt : Nat.blt d n = true)
    (h : ∀ a', Env n ((d, undef) :: l) a' → wpList P ops Q rest a' w) : wpList P ops Q (o :: rest) a w := by
  have hy : yielded ops a.tmps g = some !want := by
    unfold yielded
    rw [hdg]
    simp [hE.get dg hl]
  refine wpList_skip (by simp [Region.wanted, hg, hy]) ?_
  rw [hd]
  exact h _ (hE.put (by simpa [Nat.blt_eq] using hlt) undef)
theorem wp_if {x y : Code} (hE : Env n l a) (j : Nat) {t : Bool} (hl : look l j = some (.bool t)) (h : (if t then x else y).wp P Q a w) : (Code.cond (.tmp j) x y).wp P Q a w := wp_cond (hE.ev j hl) h
theorem wp_if_t {x y : Code} (hE : Env n l a) (j : Nat) (hl : look l j = some (.bool true)) (h : x.wp P Q a w) : (Code.cond (.tmp j) x y).wp P Q a w := wp_cond (hE.ev j hl) h
theorem wp_if_f {x y : Code} (hE : Env n l a) (j : Nat) (hl : look l j = some (.bool false)) (h : y.wp P Q a w) : (Code.cond (.tmp j) x y).wp P Q a w := wp_cond (hE.ev j hl) h

/-- A loop whose relation bears the number of rounds done, at most N. -/
theorem wp_loop_up {c : Code} (N : Nat) (I : Nat → Act → World → Prop) (h0 : I 0 a w)
    (round : ∀ k a w, k ≤ N → I k a w → ∀ K : Act → World → Prop, (∀ a' w', k < N → I (k + 1) a' w' → K a' w') → c.wp P (Exit.then K Q) a w) : (Code.loop c).wp P Q a w :=
  wp_loop_ghost (fun m a w => ∃ k, k ≤ N ∧ m = N - k ∧ I k a w) N ⟨0, Nat.zero_le _, rfl, h0⟩ fun m a w ⟨k, hk, hm, hI⟩ =>
    round k a w hk hI _ fun a' w' hlt hI' => ⟨N - (k + 1), by omega, k + 1, by omega, rfl, hI'⟩
end
end Go.Proofs.YtmmfpgoodfgkbaaGreat
