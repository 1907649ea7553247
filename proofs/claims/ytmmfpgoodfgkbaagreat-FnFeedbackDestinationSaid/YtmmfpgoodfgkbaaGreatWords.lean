/-
  WORDS FOR WALKS WITH AN OPAQUE FRAME: a whole struct loaded, stored and handed back; append of a source that reads as a list. No condition.
-/
import Derived.Test.YtmmfpgoodfgkbaaGreatEnv
import Derived.Test.YtmmfpgoodfgkbaaGreatBytes
import Derived.Laws.Rows
import Derived.Deep.MidRow
import Derived.Laws.Tables
namespace Go.Proofs.YtmmfpgoodfgkbaaGreat
open Go Go.RowKit
set_option linter.unusedVariables false

def setFrom : Array Value → Nat → List Value → Array Value
  | cs, _, [] => cs
  | cs, o, v :: r => setFrom (cs.setIfInBounds o v) (o + 1) r
theorem setFrom_at : ∀ (vs : List Value) (cs : Array Value) (o j : Nat), (setFrom cs o vs)[j]? = if o ≤ j ∧ j < o + vs.length ∧ j < cs.size then vs[j - o]? else cs[j]?
  | [], cs, o, j => by
    simp only [setFrom, List.length_nil]
    rw [if_neg (by omega)]
  | v :: r, cs, o, j => by
    simp only [setFrom]
    rw [setFrom_at r]
    simp only [Array.size_setIfInBounds, List.length_cons]
    by_cases h : o + 1 ≤ j ∧ j < o + 1 + r.length ∧ j < cs.size
    · rw [if_pos h, if_pos (by omega), show j - o = (j - (o + 1)) + 1 by omega, List.getElem?_cons_succ]
    · rw [if_neg h]
      by_cases hj : j = o
      · subst hj
        by_cases hs : j < cs.size
        · rw [if_pos (by omega)]
          simp [hs]
        · rw [if_neg (by omega)]
          simp [hs]
      · rw [if_neg (by omega), Array.getElem?_setIfInBounds_ne (Ne.symm hj)]
theorem setFrom_whole (cs new : Array Value) (h : cs.size = new.size) : setFrom cs 0 new.toList = new := by
  apply Array.ext_getElem?
  intro j
  rw [setFrom_at]
  by_cases hj : j < new.size
  · rw [if_pos (by simp; omega)]
    simp
  · rw [if_neg (by simp; omega)]
    rw [Array.getElem?_eq_none (by omega), Array.getElem?_eq_none (by omega)]
theorem blk_setCells : ∀ (vs : List Value) {w : World} {g : Nat} {t : TypeId} {cs : Array Value} (o : Nat), Blk w g t cs → Blk (w.setCells g o vs) g t (setFrom cs o vs)
  | [], _, _, _, _, _, h => h
  | v :: r, _, _, _, _, o, h => blk_setCells r (o + 1) (h.set_ o v)
theorem grown_setCells (g : Nat) : ∀ (vs : List Value) (w : World) (o : Nat), w.grownBy (w.setCells g o vs) (some g) ∧ (w.setCells g o vs).heap.size = w.heap.size
  | [], w, _ => ⟨World.grownBy.refl w _, rfl⟩
  | v :: r, w, o => by
    have h := grown_setCells g r (w.setCell ⟨g, o, none⟩ v) (o + 1)
    exact ⟨grownBy_trans (grownBy_setCell w ⟨g, o, none⟩ v) h.1 (.inl rfl), by rw [show (w.setCells g o (v :: r)) = (w.setCell ⟨g, o, none⟩ v).setCells g (o + 1) r from rfl, h.2]; simp [World.setCell]⟩

section
variable {P : Program} {op : Oper} {a : Act} {w : World} {K : Act → World → Prop} {Q : Exit → Act → World → Prop}
/-- A whole struct stored over a block of its own. -/
theorem wp_store_blk (ty : TypeId) (x y : Operand) (ho : op.op = .store ty x y) (g : Nat) (old new : Array Value) (t : TypeId) (hx : a.eval x = .pointer (some ⟨g, 0, none⟩)) (hy : a.eval y = .agg new)
    (hb : Blk w g t old) (hs : old.size = new.size) (hi : (P.info? ty).map (·.size) = some new.size) (h1 : new.all (·.oneCell') = true)
    (h : ∀ w', Blk w' g t new → w.grownBy w' (some g) → w'.heap.size = w.heap.size → K (a.put op.dst undef) w') : op.wp P a w K Q := by
  refine wp_store_mid ty x y ho g 0 new hx hy (fun j hj => ⟨?_, hb.frozen _⟩) hi h1 ?_
  · rw [Nat.zero_add, hb.cell j, Array.getElem?_eq_getElem (by omega)]
    rfl
  · have hbk := blk_setCells new.toList 0 hb
    rw [setFrom_whole old new hs] at hbk
    exact h _ hbk (grown_setCells g _ _ _).1 (grown_setCells g _ _ _).2
/-- A whole struct loaded from a block of its own. -/
theorem wp_load_blk (ty : TypeId) (x : Operand) (ho : op.op = .load ty x) (g : Nat) (hx : a.eval x = .pointer (some ⟨g, 0, none⟩)) (t : TypeId) (cs : Array Value) (d : TypeDesc) (hb : Blk w g t cs)
    (hu : P.underlying ty = some d) (hd : (match d with | .struct _ | .array _ _ => true | _ => false) = true) (hi : (P.info? ty).map (·.size) = some cs.size)
    (h : K (a.put op.dst (.agg cs)) w) : op.wp P a w K Q := wp_load_row ty x ho g hx t cs (0, 0) d hb hu hd hi h
/-- 'append(s, x...)', the source read as a list; something is there behind it. -/
theorem wp_app_src (s x : Operand) (t : TypeId) (ho : op.op = .call { callee := .builtin .append, args := #[s, x], argTypes := #[t, t] })
    {e : TypeId} {z : Value} {size bytes : Nat} (E : Elem P t e z size bytes) (base : Nat) (v : Value) (n : Nat) (xs : List Value) (B : Nat) (A : Option Addr) (m c : Nat) (news : List Value)
    (hown : w.ownsRow base e size v n xs) (hs : a.eval s = v) (hx : a.eval x = .slice A m c)
    (hr : Reads w B size A m news) (h1 : ∀ u ∈ news, u.oneCell' = true) (hbytes : (n + m) * bytes ≤ 140737488355328) (hbase : base ≤ w.heap.size) (hpos : 0 < n + m)
    (h : ∀ g cap w', w'.ownsRow base e size (.slice (some ⟨g, 0, none⟩) (n + m) cap) (n + m) (xs ++ news) → w.grownBy w' v.ownBlock → (v.ownBlock = some g ∨ w.heap.size ≤ g) → K (a.put op.dst (.slice (some ⟨g, 0, none⟩) (n + m) cap)) w') :
    op.wp P a w K Q := by
  obtain ⟨i, hi, hz, hsz, hby⟩ := info_parts E.info
  have hle : n + m ≤ maxLen := by
    have := Nat.le_trans (Nat.le_mul_of_pos_right (n + m) E.bpos) hbytes
    simp only [maxLen]; omega
  refine wp_append_any w s x t ho base e i z size bytes E.und hi hz hsz hby E.zs E.pos v n xs hs hown B A m c news hx hr h1 hle hbytes hbase fun v' w' h2 h3 h4 => ?_
  obtain ⟨g, cap, hv, _, _⟩ := h2.form hpos
  rw [hv] at h2 h4 ⊢
  refine h g cap w' h2 h3 ?_
  rcases h4 with h4 | h4
  · exact .inl h4.symm
  · right; have : g = w.heap.size := by simpa [Value.ownBlock] using h4
    omega
/-- A struct built of many parts. -/
theorem wp_build (ty : TypeId) (ps : Array (Nat × Operand)) (ho : op.op = .build ty ps) (vals : Array (Nat × Value)) (cells : Array Value) (hv : (ps.map fun x => (x.1, a.eval x.2)) = vals)
    (hc : P.built ty vals.toList = some cells) (h : K (a.put op.dst (.agg cells)) w) : op.wp P a w K Q := by
  unfold Oper.wp execOp
  simp only [ho]
  have hv' : (ps.map fun (i, x) => (i, a.eval x)) = vals := hv
  rw [hv']
  simp only [Sem.run_bind, run_build w ty vals cells hc, Result.andThen_ok, Sem.run_pure]
  exact h
/-- A struct in memory and two slots handed back. -/
theorem results_cell_tmp2 {fn : Func} {p q r : Tmp} {ty : TypeId} (h : fn.results = #[.cell p ty, .tmp q, .tmp r]) (tmps : Array Value) (w : World) (g : Nat) (t : TypeId) (cs : Array Value) (d : TypeDesc)
    (hp : tmps[p]? = some (.pointer (some ⟨g, 0, none⟩))) (hb : Blk w g t cs) (hu : P.underlying ty = some d) (hd : (match d with | .struct _ | .array _ _ => true | _ => false) = true) (hi : (P.info? ty).map (·.size) = some cs.size)
    {v1 v2 : Value} (hq : tmps[q]? = some v1) (hr : tmps[r]? = some v2) : (results fn tmps).run P w = .ok (.tuple #[.agg cs, v1, v2]) w := by
  simp [results, h, hp, hq, hr, asAddr, run_loadVar_row w g t ty cs (0, 0) d hb hu hd hi]
end
end Go.Proofs.YtmmfpgoodfgkbaaGreat
