/-
  PIECES OF MEMORY KEPT APART: what is known of memory is a list of pieces, each of blocks of its own; an operation gives up some pieces and leaves others, and what it does not name is kept. A region that draws its order is walked in the order of the text: where two operations meet at a piece or a slot, one waits for the other. No condition.
-/
import Derived.Test.YtmmfpgoodfgkbaaGreatMEnv
import Derived.Laws.Rows
import Derived.Deep.MidRow
import Derived.Laws.Tables
namespace Go.Proofs.YtmmfpgoodfgkbaaGreat
open Go Go.RowKit
set_option linter.unusedVariables false

/-- A piece of memory: its blocks, what is said of it; that depends on its blocks alone. -/
structure Ck where
  blks : Nat → Prop
  ok : World → Prop
  st : ∀ w w' : World, (∀ g, blks g → w'.heap[g]? = w.heap[g]?) → ok w → ok w'
def ckB (g : Nat) (t : TypeId) (cs : Array Value) : Ck := ⟨fun x => x = g, fun w => Blk w g t cs, fun _ _ h hb => (h g rfl).trans hb⟩
def ckR (base : Nat) (e : TypeId) (size : Nat) (v : Value) (n : Nat) (xs : List Value) : Ck :=
  ⟨fun x => v.ownBlock = some x, fun w => w.ownsRow base e size v n xs, fun w w' h ho => by
    refine ⟨ho.1, ?_⟩
    rcases ho.2 with h2 | ⟨g, cap, cur, hv, hg, hh, r⟩
    · exact .inl h2
    · exact .inr ⟨g, cap, cur, hv, hg, (h g (by rw [hv]; rfl)).trans hh, r⟩⟩
def ckP (p : Prop) : Ck := ⟨fun _ => False, fun _ => p, fun _ _ _ h => h⟩

def lookM : List (Nat × Option Ck) → Nat → Option Ck
  | [], _ => none
  | (k, v) :: l, j => bif Nat.beq k j then v else lookM l j
def hasM : List (Nat × Option Ck) → Nat → Bool
  | [], _ => false
  | (k, _) :: l, j => Nat.beq k j || hasM l j
theorem lookM_app : ∀ (l l' : List (Nat × Option Ck)) (j : Nat), lookM (l ++ l') j = bif hasM l j then lookM l j else lookM l' j
  | [], _, _ => rfl
  | (k, v) :: l, l', j => by
    simp only [List.cons_append, lookM, hasM]
    cases Nat.beq k j
    · simpa using lookM_app l l' j
    · rfl
theorem lookM_none : ∀ (l : List (Nat × Option Ck)) (j : Nat), hasM l j = false → lookM l j = none
  | [], _, _ => rfl
  | (k, v) :: l, j, h => by
    simp only [hasM, Bool.or_eq_false_iff] at h
    simp only [lookM, h.1, cond_false]
    exact lookM_none l j h.2

/-- From w0 to w: old blocks are kept but for those given up; what the pieces M say; they lie apart, in new blocks or in those given up. -/
structure Stp (olds : Nat → Prop) (w0 w : World) (M : Nat → Option Ck) : Prop where
  os : w.os = w0.os
  tape : w.tape = w0.tape
  output : w.output = w0.output
  size : w0.heap.size ≤ w.heap.size
  kept : ∀ g, g < w0.heap.size → ¬ olds g → w.heap[g]? = w0.heap[g]?
  ok : ∀ n c, M n = some c → c.ok w
  lt : ∀ n c, M n = some c → ∀ g, c.blks g → g < w.heap.size ∧ (w0.heap.size ≤ g ∨ olds g)
  apart : ∀ n n' c c', M n = some c → M n' = some c' → n ≠ n' → ∀ g, c.blks g → ¬ c'.blks g
/-- The blocks of the pieces that bear some names. -/
def blksOf (M : Nat → Option Ck) (ns : List Nat) (g : Nat) : Prop := ∃ n, n ∈ ns ∧ ∃ c, M n = some c ∧ c.blks g

section
variable {olds olds' : Nat → Prop} {w0 w w' : World} {M N : Nat → Option Ck} {L NL : List (Nat × Option Ck)}
theorem Stp.mono (h : Stp olds w0 w M) (ho : ∀ g, olds g → olds' g) : Stp olds' w0 w M :=
  ⟨h.os, h.tape, h.output, h.size, fun g hg hn => h.kept g hg fun e => hn (ho g e), h.ok, fun n c hc g hg => ⟨(h.lt n c hc g hg).1, (h.lt n c hc g hg).2.imp id (ho g)⟩, h.apart⟩
theorem Stp.sub (h : Stp olds w0 w M) (hs : ∀ n c, N n = some c → M n = some c) : Stp olds w0 w N :=
  ⟨h.os, h.tape, h.output, h.size, h.kept, fun n c hc => h.ok n c (hs n c hc), fun n c hc => h.lt n c (hs n c hc), fun n n' c c' h1 h2 => h.apart n n' c c' (hs n c h1) (hs n' c' h2)⟩
theorem Stp.refl (w : World) : Stp (fun _ => False) w w (lookM []) :=
  ⟨rfl, rfl, rfl, Nat.le_refl _, fun _ _ _ => rfl, fun _ _ h => (by cases h), fun _ _ h => (by cases h), fun _ _ _ _ h => (by cases h)⟩
theorem Stp.same (h : Stp olds w0 w M) (h1 : w'.os = w.os) (h2 : w'.tape = w.tape) (h3 : w'.output = w.output) (h4 : w'.heap = w.heap) : Stp olds w0 w' M :=
  ⟨h1.trans h.os, h2.trans h.tape, h3.trans h.output, by rw [h4]; exact h.size, fun g hg hn => by rw [h4]; exact h.kept g hg hn, fun n c hc => c.st w w' (fun g _ => by rw [h4]) (h.ok n c hc), fun n c hc g hg => by rw [h4]; exact h.lt n c hc g hg, h.apart⟩
theorem Stp.drew (h : Stp olds w0 w M) : Stp olds w0 w.drew M := h.same rfl rfl rfl rfl
theorem Stp.drewN (h : Stp olds w0 w M) (n : Nat) : Stp olds w0 (w.drewN n) M := h.same rfl rfl rfl rfl
/-- One step behind another: what the step does not name is kept. -/
theorem Stp.comp (h : Stp olds w0 w M) (ns : List Nat) (h2 : Stp (blksOf M ns) w w' N) (hN : ∀ n c, N n = some c → n ∈ ns) (M' : Nat → Option Ck) (hM' : ∀ n, M' n = if n ∈ ns then N n else M n) : Stp olds w0 w' M' := by
  have hold : ∀ n c, n ∉ ns → M n = some c → ∀ g, c.blks g → w'.heap[g]? = w.heap[g]? := fun n c hn hc g hg =>
    h2.kept g (h.lt n c hc g hg).1 fun ⟨k, hk, c', hc', hg'⟩ => h.apart n k c c' hc hc' (fun e => hn (e ▸ hk)) g hg hg'
  refine ⟨h2.os.trans h.os, h2.tape.trans h.tape, h2.output.trans h.output, Nat.le_trans h.size h2.size, fun g hg hn => (h2.kept g (Nat.lt_of_lt_of_le hg h.size) fun ⟨k, _, c, hc, hgc⟩ => ?_).trans (h.kept g hg hn), fun n c hc => ?_, fun n c hc g hg => ?_, fun n n' c c' hc hc' hne g hg hg' => ?_⟩
  · rcases (h.lt k c hc g hgc).2 with h3 | h3
    · omega
    · exact hn h3
  · rw [hM'] at hc
    split at hc
    · exact h2.ok n c hc
    · rename_i hn
      exact c.st w w' (hold n c hn hc) (h.ok n c hc)
  · rw [hM'] at hc
    split at hc
    · obtain ⟨h3, h4⟩ := h2.lt n c hc g hg
      refine ⟨h3, ?_⟩
      rcases h4 with h4 | ⟨k, _, c', hc', hg'⟩
      · exact .inl (Nat.le_trans h.size h4)
      · exact (h.lt k c' hc' g hg').2
    · exact ⟨Nat.lt_of_lt_of_le (h.lt n c hc g hg).1 h2.size, (h.lt n c hc g hg).2⟩
  · have key : ∀ n n' c c', n ∈ ns → n' ∉ ns → N n = some c → M n' = some c' → ∀ g, c.blks g → ¬ c'.blks g := fun n n' c c' hn hn' hc hc' g hg hg' => by
      rcases (h2.lt n c hc g hg).2 with h4 | ⟨k, hk, c3, hc3, hg3⟩
      · have := (h.lt n' c' hc' g hg').1; omega
      · exact h.apart k n' c3 c' hc3 hc' (fun e => hn' (e ▸ hk)) g hg3 hg'
    rw [hM'] at hc hc'
    by_cases h3 : n ∈ ns <;> by_cases h4 : n' ∈ ns
    · rw [if_pos h3] at hc; rw [if_pos h4] at hc'; exact h2.apart n n' c c' hc hc' hne g hg hg'
    · rw [if_pos h3] at hc; rw [if_neg h4] at hc'; exact key n n' c c' h3 h4 hc hc' g hg hg'
    · rw [if_neg h3] at hc; rw [if_pos h4] at hc'; exact key n' n c' c h4 h3 hc' hc g hg' hg
    · rw [if_neg h3] at hc; rw [if_neg h4] at hc'; exact h.apart n n' c c' hc hc' hne g hg hg'
theorem hasM_mem : ∀ (l : List (Nat × Option Ck)) (j : Nat), hasM l j = true ↔ j ∈ l.map (·.1)
  | [], _ => by simp [hasM]
  | (k, v) :: l, j => by
    simp only [hasM, Bool.or_eq_true, List.map_cons, List.mem_cons, hasM_mem l j]
    constructor
    · rintro (h | h)
      · exact .inl (Nat.eq_of_beq_eq_true h).symm
      · exact .inr h
    · rintro (h | h)
      · exact .inl (by rw [h]; exact Nat.beq_refl k)
      · exact .inr h
/-- The same with lists. -/
theorem Stp.then_ (h : Stp olds w0 w (lookM L)) (h2 : Stp (blksOf (lookM L) (NL.map (·.1))) w w' (lookM NL)) : Stp olds w0 w' (lookM (NL ++ L)) :=
  h.comp (NL.map (·.1)) h2 (fun n c hc => (hasM_mem NL n).1 (by
    cases hb : hasM NL n with
    | true => rfl
    | false => rw [lookM_none _ _ hb] at hc; cases hc)) _ fun n => by
    rw [lookM_app]
    by_cases hn : n ∈ NL.map (·.1)
    · rw [if_pos hn, (hasM_mem NL n).2 hn]; rfl
    · rw [if_neg hn, show hasM NL n = false by
        cases hb : hasM NL n with
        | true => exact absurd ((hasM_mem NL n).1 hb) hn
        | false => rfl]
      rfl
theorem Stp.below (h : Stp (fun _ => False) w0 w M) : Below w0.heap.size w0 w := ⟨h.os, h.tape, h.output, h.size, fun g hg => h.kept g hg id⟩
theorem Stp.grownBy (h : Stp olds w0 w M) (row : Option Nat) (ho : ∀ g, olds g → row = some g) : w0.grownBy w row := ⟨h.os, h.tape, h.output, h.size, fun g hg hn => h.kept g hg fun e => hn (ho g e).symm⟩
theorem Stp.old (h : Stp olds w0 w M) (B : Nat) (hB : B ≤ w0.heap.size) (ho : ∀ g, olds g → B ≤ g) : Below B w0 w := ⟨h.os, h.tape, h.output, h.size, fun g hg => h.kept g (Nat.lt_of_lt_of_le hg hB) fun e => by have := ho g e; omega⟩

/-- Steps of one operation. -/
theorem stp_none (w : World) : Stp olds w w (lookM []) := (Stp.refl w).mono (fun _ h => h.elim)
theorem stp_of_below (h : Below w.heap.size w w') : Stp olds w w' (lookM []) :=
  ⟨h.os, h.tape, h.output, h.size, fun g hg _ => h.block g hg, fun _ _ h => (by cases h), fun _ _ h => (by cases h), fun _ _ _ _ h => (by cases h)⟩
/-- One piece is left. -/
theorem stp_one (k : Nat) (c : Ck) (h : w.grownBy w' none ∨ ∃ g, olds g ∧ w.grownBy w' (some g)) (hok : c.ok w') (hlt : ∀ g, c.blks g → g < w'.heap.size ∧ (w.heap.size ≤ g ∨ olds g)) : Stp olds w w' (lookM [(k, some c)]) := by
  have hk : ∀ n d, lookM [(k, some c)] n = some d → n = k ∧ d = c := fun n d hd => by
    simp only [lookM] at hd
    cases hb : Nat.beq k n with
    | true =>
      rw [hb] at hd
      simp only [cond_true, Option.some.injEq] at hd
      exact ⟨(Nat.eq_of_beq_eq_true hb).symm, hd.symm⟩
    | false => rw [hb] at hd; simp at hd
  have hg : w'.os = w.os ∧ w'.tape = w.tape ∧ w'.output = w.output ∧ w.heap.size ≤ w'.heap.size ∧ ∀ g, g < w.heap.size → ¬ olds g → w'.heap[g]? = w.heap[g]? := by
    rcases h with h | ⟨x, hx, h⟩
    · exact ⟨h.os, h.tape, h.output, h.size, fun g hg _ => h.block g hg (by simp)⟩
    · exact ⟨h.os, h.tape, h.output, h.size, fun g hg hn => h.block g hg fun e => hn (by injection e with e; rw [e]; exact hx)⟩
  refine ⟨hg.1, hg.2.1, hg.2.2.1, hg.2.2.2.1, hg.2.2.2.2, fun n d hd => ?_, fun n d hd => ?_, fun n n' d d' hd hd' hne => ?_⟩
  · rw [(hk n d hd).2]; exact hok
  · rw [(hk n d hd).2]; exact hlt
  · exact absurd ((hk n d hd).1.trans (hk n' d' hd').1.symm) hne
theorem stp_alloc (k : Nat) (w : World) (t : TypeId) (cs : Array Value) : Stp olds w (w.alloc (.cells cs t)) (lookM [(k, some (ckB w.heap.size t cs))]) :=
  stp_one k _ (.inl (World.grownBy_alloc w _ none)) (Blk.new w t cs) fun g hg => by
    have : g = w.heap.size := hg
    subst this
    exact ⟨by simp, .inl (Nat.le_refl _)⟩
theorem stp_set (k : Nat) {g : Nat} {t : TypeId} {cs : Array Value} (hb : Blk w g t cs) (ho : olds g) (i : Nat) (u : Value) : Stp olds w (w.setCell ⟨g, i, none⟩ u) (lookM [(k, some (ckB g t (cs.setIfInBounds i u)))]) :=
  stp_one k _ (.inr ⟨g, ho, grownBy_setCell w ⟨g, i, none⟩ u⟩) (hb.set_ i u) fun x hx => by
    have : x = g := hx
    subst this
    exact ⟨by rw [show (w.setCell ⟨x, i, none⟩ u).heap.size = w.heap.size by simp [World.setCell]]; exact hb.lt, .inr ho⟩
theorem stp_blk (k : Nat) {g : Nat} {t : TypeId} {cs : Array Value} (hb : Blk w' g t cs) (h : w.grownBy w' none ∨ ∃ x, olds x ∧ w.grownBy w' (some x)) (hg : w.heap.size ≤ g ∨ olds g) : Stp olds w w' (lookM [(k, some (ckB g t cs))]) :=
  stp_one k _ h hb fun x hx => by
    have : x = g := hx
    subst this
    exact ⟨hb.lt, hg⟩
theorem stp_row (k : Nat) {base : Nat} {e : TypeId} {size : Nat} {v : Value} {n : Nat} {xs : List Value} (hb : w'.ownsRow base e size v n xs) (h : w.grownBy w' none ∨ ∃ x, olds x ∧ w.grownBy w' (some x)) (hg : ∀ g, v.ownBlock = some g → w.heap.size ≤ g ∨ olds g) : Stp olds w w' (lookM [(k, some (ckR base e size v n xs))]) :=
  stp_one k _ h hb fun x hx => ⟨(hb.lt x hx).2, hg x hx⟩

/-- Readings. -/
theorem Stp.blk (h : Stp olds w0 w M) (k : Nat) {g : Nat} {t : TypeId} {cs : Array Value} (hk : M k = some (ckB g t cs)) : Blk w g t cs := h.ok k _ hk
theorem Stp.row (h : Stp olds w0 w M) (k : Nat) {base : Nat} {e : TypeId} {size : Nat} {v : Value} {n : Nat} {xs : List Value} (hk : M k = some (ckR base e size v n xs)) : w.ownsRow base e size v n xs := h.ok k _ hk
theorem Stp.pure_ (h : Stp olds w0 w M) (k : Nat) {p : Prop} (hk : M k = some (ckP p)) : p := h.ok k _ hk
theorem Stp.ne_bb (h : Stp olds w0 w M) (k k' : Nat) {g g' : Nat} {t t' : TypeId} {cs cs' : Array Value} (hk : M k = some (ckB g t cs)) (hk' : M k' = some (ckB g' t' cs')) (hne : k ≠ k') : g ≠ g' := fun e => h.apart k k' _ _ hk hk' hne g rfl e
theorem Stp.ne_rb (h : Stp olds w0 w M) (k k' : Nat) {base : Nat} {e : TypeId} {size : Nat} {v : Value} {n : Nat} {xs : List Value} {g' : Nat} {t' : TypeId} {cs' : Array Value} (hk : M k = some (ckR base e size v n xs)) (hk' : M k' = some (ckB g' t' cs')) (hne : k ≠ k') : v.ownBlock ≠ some g' := fun he => h.apart k k' _ _ hk hk' hne g' he rfl
theorem Stp.ge (h : Stp (fun _ => False) w0 w M) (k : Nat) {g : Nat} {t : TypeId} {cs : Array Value} (hk : M k = some (ckB g t cs)) : w0.heap.size ≤ g := (h.lt k _ hk g rfl).2.resolve_right id
/-- Updates of the whole. -/
theorem Stp.alloc (h : Stp olds w0 w (lookM L)) (k : Nat) (t : TypeId) (cs : Array Value) : Stp olds w0 (w.alloc (.cells cs t)) (lookM ((k, some (ckB w.heap.size t cs)) :: L)) := h.then_ (NL := [(k, _)]) (stp_alloc k w t cs)
theorem Stp.set_ (h : Stp olds w0 w (lookM L)) (k : Nat) {g : Nat} {t : TypeId} {cs : Array Value} (hk : lookM L k = some (ckB g t cs)) (i : Nat) (u : Value) : Stp olds w0 (w.setCell ⟨g, i, none⟩ u) (lookM ((k, some (ckB g t (cs.setIfInBounds i u))) :: L)) :=
  h.then_ (NL := [(k, _)]) (stp_set k (h.blk k hk) ⟨k, by simp, _, hk, rfl⟩ i u)
/-- A piece is put in place of another by an operation that writes no more than its blocks. -/
theorem Stp.step_ (h : Stp olds w0 w (lookM L)) (k : Nat) (c' : Ck) (c : Ck) (hk : lookM L k = some c') {row : Option Nat} (hg : w.grownBy w' row) (hr : ∀ g, row = some g → c'.blks g) (hok : c.ok w') (hlt : ∀ g, c.blks g → g < w'.heap.size ∧ (w.heap.size ≤ g ∨ c'.blks g)) : Stp olds w0 w' (lookM ((k, some c) :: L)) := by
  refine h.then_ (NL := [(k, _)]) (stp_one k c ?_ hok fun g hgc => ⟨(hlt g hgc).1, (hlt g hgc).2.imp id fun e => ⟨k, by simp, c', hk, e⟩⟩)
  cases row with
  | none => exact .inl hg
  | some g => exact .inr ⟨g, ⟨k, by simp, c', hk, hr g rfl⟩, hg⟩
/-- A new piece. -/
theorem Stp.new_ (h : Stp olds w0 w (lookM L)) (k : Nat) (c : Ck) (hb : Below w.heap.size w w') (hok : c.ok w') (hlt : ∀ g, c.blks g → g < w'.heap.size ∧ w.heap.size ≤ g) : Stp olds w0 w' (lookM ((k, some c) :: L)) :=
  h.then_ (NL := [(k, _)]) (stp_one k c (.inl (grownBy_of_below hb none)) hok fun g hg => ⟨(hlt g hg).1, .inl (hlt g hg).2⟩)
theorem Stp.newB (h : Stp olds w0 w (lookM L)) (k : Nat) {g : Nat} {t : TypeId} {cs : Array Value} (hb : Below w.heap.size w w') (hok : Blk w' g t cs) (hg : w.heap.size ≤ g) : Stp olds w0 w' (lookM ((k, some (ckB g t cs)) :: L)) :=
  h.new_ k _ hb hok fun x hx => by
    have : x = g := hx
    subst this
    exact ⟨hok.lt, hg⟩
theorem Stp.newR (h : Stp olds w0 w (lookM L)) (k : Nat) {base : Nat} {e : TypeId} {size : Nat} {v : Value} {n : Nat} {xs : List Value} (hb : Below w.heap.size w w') (hok : w'.ownsRow base e size v n xs) (hg : w.heap.size ≤ base) : Stp olds w0 w' (lookM ((k, some (ckR base e size v n xs)) :: L)) :=
  h.new_ k _ hb hok fun x hx => ⟨(hok.lt x hx).2, Nat.le_trans hg (hok.lt x hx).1⟩
theorem Stp.still (h : Stp olds w0 w (lookM L)) (hb : Below w.heap.size w w') : Stp olds w0 w' (lookM L) := h.then_ (NL := []) (stp_of_below hb)
end

/-! ## The last writer -/
section
variable {X α : Type}
def lastW (wrt : Nat → X → Option α) (S : Nat → Bool) (init : X → α) : Nat → X → α
  | 0, x => init x
  | k + 1, x => bif S k then (match wrt k x with | some v => v | none => lastW wrt S init k x) else lastW wrt S init k x
variable {wrt wrt' : Nat → X → Option α} {S S' : Nat → Bool} {init : X → α} {x : X}
theorem lastW_skip {k : Nat} (h : S k = true → wrt k x = none) : lastW wrt S init (k + 1) x = lastW wrt S init k x := by
  simp only [lastW]
  cases hs : S k with
  | false => rfl
  | true => rw [h hs]; rfl
theorem lastW_above {i : Nat} : ∀ n, i ≤ n → (∀ k, i ≤ k → k < n → S k = true → wrt k x = none) → lastW wrt S init n x = lastW wrt S init i x
  | 0, hi, _ => by rw [show i = 0 by omega]
  | n + 1, hi, h => by
    by_cases he : i = n + 1
    · rw [he]
    · rw [lastW_skip (h n (by omega) (by omega)), lastW_above n (by omega) fun k h1 h2 => h k h1 (by omega)]
theorem lastW_same : ∀ n, (∀ k, k < n → ((S k = true ∨ S' k = true) → wrt k x = wrt' k x) ∧ (S k = S' k ∨ wrt k x = none ∧ wrt' k x = none)) → lastW wrt S init n x = lastW wrt' S' init n x
  | 0, _ => rfl
  | n + 1, h => by
    have ih := lastW_same n fun k hk => h k (by omega)
    obtain ⟨h1, h2⟩ := h n (by omega)
    rcases h2 with h2 | ⟨h3, h4⟩
    · simp only [lastW]
      rw [h2]
      cases hs : S' n with
      | false => simpa using ih
      | true => simp only [cond_true]; rw [h1 (.inr hs), ih]
    · rw [lastW_skip fun _ => h3, lastW_skip fun _ => h4, ih]
theorem lastW_upd {i n : Nat} (hi : i < n) (hS' : ∀ k, S' k = (S k || Nat.beq k i)) (hSi : S i = false) (hlate : ∀ k, i < k → k < n → S k = true → wrt i x ≠ none → wrt k x = none) :
    lastW wrt S' init n x = match wrt i x with | some v => v | none => lastW wrt S init n x := by
  have hne : ∀ k, k ≠ i → S' k = S k := fun k hk => by
    rw [hS', show Nat.beq k i = false by
      cases hb : Nat.beq k i with
      | false => rfl
      | true => exact absurd (Nat.eq_of_beq_eq_true hb) hk]
    simp
  have hii : S' i = true := by rw [hS']; simp
  cases hw : wrt i x with
  | none =>
    refine lastW_same n fun k hk => ⟨fun _ => rfl, ?_⟩
    by_cases hki : k = i
    · subst hki; exact .inr ⟨hw, hw⟩
    · exact .inl (hne k hki)
  | some v =>
    rw [lastW_above (i := i + 1) n hi fun k h1 h2 h3 => hlate k (by omega) h2 (by rw [← hne k (by omega)]; exact h3) (by rw [hw]; simp)]
    simp only [lastW, hii, cond_true, hw]
end

/-! ## A region that draws its order -/
/-- What an operation brings up by itself: a block, a capacity, a value. -/
structure Pay where
  g : Nat
  c : Nat
  v : Value
  a : Option Addr
def pay0 : Pay := ⟨0, 0, undef, none⟩
abbrev PV := (Nat → Pay) → Value
abbrev PW := List (Nat × ((Nat → Pay) → Option Ck))
def instW (W : PW) (p : Nat → Pay) : List (Nat × Option Ck) := W.map fun x => (x.1, x.2 p)
def upd (p : Nat → Pay) (i : Nat) (x : Pay) : Nat → Pay := fun k => bif Nat.beq k i then x else p k
theorem upd_at (p : Nat → Pay) (i : Nat) (x : Pay) : upd p i x i = x := by simp [upd]
theorem upd_ne (p : Nat → Pay) (i : Nat) (x : Pay) (k : Nat) (h : k ≠ i) : upd p i x k = p k := by
  unfold upd
  rw [show Nat.beq k i = false by
    cases hb : Nat.beq k i with
    | false => rfl
    | true => exact absurd (Nat.eq_of_beq_eq_true hb) h]
  rfl
def hasN : List Nat → Nat → Bool
  | [], _ => false
  | k :: l, j => Nat.beq k j || hasN l j
theorem hasN_mem : ∀ (l : List Nat) (j : Nat), hasN l j = true ↔ j ∈ l
  | [], _ => by simp [hasN]
  | k :: l, j => by
    simp only [hasN, Bool.or_eq_true, List.mem_cons, hasN_mem l j]
    constructor
    · rintro (h | h)
      · exact .inl (Nat.eq_of_beq_eq_true h).symm
      · exact .inr h
    · rintro (h | h)
      · exact .inl (by rw [h]; exact Nat.beq_refl k)
      · exact .inr h
def uni : List Nat → List Nat → List Nat
  | [], acc => acc
  | x :: l, acc => uni l (bif hasN acc x then acc else x :: acc)
theorem uni_mem : ∀ (l acc : List Nat) (x : Nat), x ∈ uni l acc → x ∈ l ∨ x ∈ acc
  | [], _, _, h => .inr h
  | y :: l, acc, x, h => by
    rcases uni_mem l _ x h with h | h
    · exact .inl (List.mem_cons_of_mem _ h)
    · cases hb : hasN acc y with
      | true => rw [hb] at h; exact .inr h
      | false =>
        rw [hb] at h
        rcases List.mem_cons.1 h with h | h
        · exact .inl (by rw [h]; exact List.mem_cons_self ..)
        · exact .inr h
/-- The operations that an operation waits for, over whatever many steps. -/
def bef (o : Oper) : List Nat := (o.after.toList.filter fun e => Region.binds .any e).map (·.on)
def ancL : List Oper → List (List Nat) → List (List Nat)
  | [], acc => acc
  | o :: os, acc => ancL os (acc ++ [uni ((bef o).flatMap fun d => acc.getD d []) (uni (bef o) [])])
def anc (l : List Oper) (i : Nat) : List Nat := (ancL l []).getD i []
abbrev Closed (l : List Oper) (listed : Array Bool) : Prop := ∀ (i : Nat) (o : Oper), l[i]? = some o → listed.getD i true = true → ∀ e ∈ o.after, Region.binds .any e = true → listed.getD e.on true = true
theorem getD_app_l (a b : List (List Nat)) (i : Nat) (h : i < a.length) : (a ++ b).getD i [] = a.getD i [] := by simp [List.getD, List.getElem?_append_left h]
theorem getD_app_r (a b : List (List Nat)) (i : Nat) (h : a.length ≤ i) : (a ++ b).getD i [] = b.getD (i - a.length) [] := by simp [List.getD, List.getElem?_append_right h]
theorem getD_over (a : List (List Nat)) (i : Nat) (h : a.length ≤ i) : a.getD i [] = [] := by simp [List.getD, List.getElem?_eq_none h]
theorem ancL_spec {l : List Oper} {listed : Array Bool} (hc : Closed l listed) : ∀ (os : List Oper) (acc : List (List Nat)) (pre : List Oper), l = pre ++ os → acc.length = pre.length →
    (∀ i k, k ∈ acc.getD i [] → listed.getD i true = true → listed.getD k true = true) → ∀ i k, k ∈ (ancL os acc).getD i [] → listed.getD i true = true → listed.getD k true = true
  | [], acc, _, _, _, h => h
  | o :: os, acc, pre, hl, hlen, h => by
    refine ancL_spec hc os _ (pre ++ [o]) (by rw [hl]; simp) (by simp [hlen]) fun i k hk hi => ?_
    by_cases hil : i < acc.length
    · rw [getD_app_l _ _ _ hil] at hk
      exact h i k hk hi
    · by_cases hie : i = acc.length
      · subst hie
        rw [getD_app_r _ _ _ (Nat.le_refl _), Nat.sub_self] at hk
        have ho : l[acc.length]? = some o := by rw [hl, List.getElem?_append_right (by omega), hlen, Nat.sub_self]; rfl
        have hb : ∀ d, d ∈ bef o → listed.getD d true = true := fun d hd => by
          obtain ⟨e, he, rfl⟩ := List.mem_map.1 hd
          obtain ⟨he1, he2⟩ := List.mem_filter.1 he
          exact hc _ o ho hi e (by simpa using he1) he2
        rcases uni_mem _ _ _ hk with hk | hk
        · obtain ⟨d, hd, hkd⟩ := List.mem_flatMap.1 hk
          exact h d k hkd (hb d hd)
        · rcases uni_mem _ _ _ hk with hk | hk
          · exact hb k hk
          · cases hk
      · rw [getD_over _ _ (by simp; omega)] at hk
        cases hk
theorem anc_spec {l : List Oper} {listed : Array Bool} (hc : Closed l listed) {i k : Nat} (h : k ∈ anc l i) (hi : listed.getD i true = true) : listed.getD k true = true :=
  ancL_spec hc l [] [] rfl rfl (fun i k h => by simp at h) i k h hi

/-- What an operation touches: its slot; the slots it looks at; the pieces it reads; the pieces it writes. -/
structure Foot where
  dst : Option Tmp
  looks : List Nat
  rd : List Nat
  wr : List Nat
def footAt (l : List Oper) (rd : List (List Nat)) (W : List PW) (i : Nat) : Foot := ⟨(l[i]?).bind (·.dst), ((l[i]?).map (·.looksAt l.toArray)).getD [], rd.getD i [], (W.getD i []).map (·.1)⟩
def Foot.apart (x y : Foot) : Bool :=
  (match x.dst with
   | some d => !hasN y.looks d && (match y.dst with | some e => !Nat.beq d e | none => true)
   | none => true) &&
  (match y.dst with
   | some d => !hasN x.looks d
   | none => true) && x.wr.all (fun k => !hasN y.rd k && !hasN y.wr k) && x.rd.all (fun k => !hasN y.wr k)
def sepRow (az : List Nat) (y : Foot) : List Foot → Nat → Bool
  | [], _ => true
  | x :: l, i => (hasN az i || x.apart y) && sepRow az y l (i + 1)
def sepGo (ancs : List (List Nat)) : List Foot → List Foot → Nat → Bool
  | _, [], _ => true
  | pre, y :: l, j => sepRow (ancs.getD j []) y pre 0 && sepGo ancs (pre ++ [y]) l (j + 1)
def sepB (l : List Oper) (rd : List (List Nat)) (W : List PW) : Bool := sepGo (ancL l []) [] ((List.range l.length).map (footAt l rd W)) 0
theorem sepRow_spec {az : List Nat} {y : Foot} : ∀ (l : List Foot) (i k : Nat) (x : Foot), sepRow az y l i = true → l[k]? = some x → hasN az (i + k) = true ∨ x.apart y = true
  | [], _, _, _, _, h => by simp at h
  | x :: l, i, 0, x', h, hx => by
    simp only [List.getElem?_cons_zero, Option.some.injEq] at hx
    subst hx
    simp only [sepRow, Bool.and_eq_true, Bool.or_eq_true] at h
    exact h.1
  | x :: l, i, k + 1, x', h, hx => by
    simp only [List.getElem?_cons_succ] at hx
    simp only [sepRow, Bool.and_eq_true] at h
    have := sepRow_spec l (i + 1) k x' h.2 hx
    rwa [show i + 1 + k = i + (k + 1) by omega] at this
theorem sepGo_spec {ancs : List (List Nat)} : ∀ (l pre : List Foot) (j0 : Nat), pre.length = j0 → sepGo ancs pre l j0 = true → ∀ i j x y, i < j → j0 ≤ j → (pre ++ l)[i]? = some x → (pre ++ l)[j]? = some y → i ∈ ancs.getD j [] ∨ x.apart y = true
  | [], pre, j0, hp, _, i, j, x, y, hij, hj, hx, hy => by
    have := (List.getElem?_eq_some_iff.1 hy).1
    simp at this
    omega
  | z :: l, pre, j0, hp, h, i, j, x, y, hij, hj, hx, hy => by
    simp only [sepGo, Bool.and_eq_true] at h
    by_cases he : j = j0
    · subst he
      have hy' : y = z := by
        rw [List.getElem?_append_right (by omega), hp, Nat.sub_self] at hy
        simpa using hy.symm
      subst hy'
      rw [List.getElem?_append_left (by omega)] at hx
      have := sepRow_spec pre 0 i x h.1 hx
      rw [Nat.zero_add] at this
      exact this.imp (hasN_mem _ _).1 id
    · exact sepGo_spec l (pre ++ [z]) (j0 + 1) (by simp [hp]) h.2 i j x y hij (by omega) (by simpa using hx) (by simpa using hy)
theorem sepB_spec {l : List Oper} {rd : List (List Nat)} {W : List PW} (h : sepB l rd W = true) {i j : Nat} (hij : i < j) (hj : j < l.length) : i ∈ anc l j ∨ (footAt l rd W i).apart (footAt l rd W j) = true := by
  have hx : ∀ k, k < l.length → ((List.range l.length).map (footAt l rd W))[k]? = some (footAt l rd W k) := fun k hk => by
    rw [List.getElem?_map, List.getElem?_range hk]; rfl
  exact sepGo_spec _ [] 0 rfl h i j _ _ hij (Nat.zero_le _) (hx i (by omega)) (hx j hj)

def vlAt (l : List Oper) (V : List PV) (l0 : List (Nat × Value)) (p : Nat → Pay) : Nat → List (Nat × Value)
  | 0 => l0
  | k + 1 => match (l[k]?).bind (·.dst) with
    | some d => (d, (V.getD k fun _ => undef) p) :: vlAt l V l0 p k
    | none => vlAt l V l0 p k
def vmAt (W : List PW) (L0 : List (Nat × Option Ck)) (p : Nat → Pay) : Nat → List (Nat × Option Ck)
  | 0 => L0
  | k + 1 => instW (W.getD k []) p ++ vmAt W L0 p k
def wrtS (l : List Oper) (V : List PV) (p : Nat → Pay) (k : Nat) (j : Nat) : Option (Option Value) :=
  match (l[k]?).bind (·.dst) with
  | some d => bif Nat.beq d j then some (some ((V.getD k fun _ => undef) p)) else none
  | none => none
def wrtM (W : List PW) (p : Nat → Pay) (k : Nat) (j : Nat) : Option (Option Ck) := bif hasM (instW (W.getD k []) p) j then some (lookM (instW (W.getD k []) p) j) else none
theorem look_vlAt (l : List Oper) (V : List PV) (l0 : List (Nat × Value)) (p : Nat → Pay) (j : Nat) : ∀ k, look (vlAt l V l0 p k) j = lastW (wrtS l V p) (fun _ => true) (look l0) k j
  | 0 => rfl
  | k + 1 => by
    simp only [vlAt, lastW, wrtS, cond_true]
    cases (l[k]?).bind (·.dst) with
    | none => exact look_vlAt l V l0 p j k
    | some d =>
      simp only [look]
      cases Nat.beq d j with
      | true => rfl
      | false => exact look_vlAt l V l0 p j k
theorem lookM_vmAt (W : List PW) (L0 : List (Nat × Option Ck)) (p : Nat → Pay) (j : Nat) : ∀ k, lookM (vmAt W L0 p k) j = lastW (wrtM W p) (fun _ => true) (lookM L0) k j
  | 0 => rfl
  | k + 1 => by
    simp only [vmAt, lastW, wrtM, cond_true, lookM_app]
    cases hasM (instW (W.getD k []) p) j with
    | true => rfl
    | false => exact lookM_vmAt W L0 p j k
def restr (fp : List Nat) (M : Nat → Option Ck) (k : Nat) : Option Ck := bif hasN fp k then M k else none
/-- What an operation finds: the slots it looks at and the pieces it names, as the text has them. -/
structure View (n : Nat) (looks fp : List Nat) (vl : List (Nat × Value)) (vm : List (Nat × Option Ck)) (olds : Nat → Prop) (w0 : World) (a : Act) (w : World) : Prop where
  size : a.tmps.size = n
  defers : a.defers = []
  at_ : ∀ j v, hasN looks j = true → look vl j = some v → a.tmps[j]? = some v
  mem : Stp olds w0 w (restr fp (lookM vm))
theorem View.get {n : Nat} {looks fp : List Nat} {vl : List (Nat × Value)} {vm : List (Nat × Option Ck)} {olds : Nat → Prop} {w0 : World} {a : Act} {w : World} (h : View n looks fp vl vm olds w0 a w) (j : Nat) {v : Value} (h1 : hasN looks j = true) (h2 : look vl j = some v) : a.tmps[j]? = some v := h.at_ j v h1 h2

section
variable (P : Program) (l : List Oper) (Q : Exit → Act → World → Prop) (n : Nat) (olds : Nat → Prop) (w0 : World) (l0 : List (Nat × Value)) (L0 : List (Nat × Option Ck)) (V : List PV) (W : List PW) (rd : List (List Nat))
def SDuty (i : Nat) (o : Oper) : Prop :=
  ∀ (p : Nat → Pay) (a : Act) (w : World), View n (o.looksAt l.toArray) (rd.getD i [] ++ (W.getD i []).map (·.1)) (vlAt l V l0 p i) (vmAt W L0 p i) olds w0 a w →
    ∀ K : Act → World → Prop, (∀ x w', Stp (blksOf (lookM (vmAt W L0 p i)) ((W.getD i []).map (·.1))) w w' (lookM (instW (W.getD i []) (upd p i x))) → K (a.put o.dst ((V.getD i fun _ => undef) (upd p i x))) w') →
      if Region.wanted o (yielded l.toArray a.tmps) = true then o.wp P a w K Q else K (a.put o.dst undef) w
def SDuties : List Oper → Nat → Prop
  | [], _ => True
  | o :: os, i => SDuty P l Q n olds w0 l0 L0 V W rd i o ∧ SDuties os (i + 1)
/-- What an operation leaves hangs on what it and those it waits for bring up. -/
def DepAll : List PV → List PW → Nat → Prop
  | v :: vs, ws, i => (∀ p p' : Nat → Pay, (∀ k, k = i ∨ k ∈ anc l i → p k = p' k) → v p = v p' ∧ instW (ws.getD 0 []) p = instW (ws.getD 0 []) p') ∧ DepAll vs (ws.drop 1) (i + 1)
  | [], _, _ => True
end
section
variable {P : Program} {l : List Oper} {Q : Exit → Act → World → Prop} {n : Nat} {olds : Nat → Prop} {w0 w : World} {l0 : List (Nat × Value)} {L0 : List (Nat × Option Ck)} {V : List PV} {W : List PW} {rd : List (List Nat)} {a₀ : Act}
theorem SDuties.at_ : ∀ (k : Nat) (os : List Oper) (i : Nat) (o : Oper), SDuties P l Q n olds w0 l0 L0 V W rd os k → os[i]? = some o → SDuty P l Q n olds w0 l0 L0 V W rd (k + i) o
  | _, [], i, _, _, h => by simp at h
  | k, x :: os, 0, o, hd, h => by
    simp only [List.getElem?_cons_zero, Option.some.injEq] at h
    subst h
    exact hd.1
  | k, x :: os, i + 1, o, hd, h => by
    simp only [List.getElem?_cons_succ] at h
    have := SDuties.at_ (k + 1) os i o hd.2 h
    rwa [show k + 1 + i = k + (i + 1) by omega] at this
theorem DepAll.at_ : ∀ (V : List PV) (W : List PW) (i j : Nat), DepAll l V W i → ∀ p p' : Nat → Pay, j < V.length → (∀ k, k = i + j ∨ k ∈ anc l (i + j) → p k = p' k) → (V.getD j fun _ => undef) p = (V.getD j fun _ => undef) p' ∧ instW (W.getD j []) p = instW (W.getD j []) p'
  | v :: vs, ws, i, 0, h, p, p', _, hk => h.1 p p' hk
  | v :: vs, ws, i, j + 1, h, p, p', hj, hk => by
    have := DepAll.at_ vs (ws.drop 1) (i + 1) j h.2 p p' (by simpa using hj) (by rw [show i + 1 + j = i + (j + 1) by omega]; exact hk)
    rw [show (ws.drop 1).getD j [] = ws.getD (j + 1) [] by simp [List.getD]] at this
    simpa using this
  | [], _, _, _, _, _, _, hj, _ => by simp at hj

theorem foot_dst {i : Nat} {o : Oper} (h : l[i]? = some o) : (footAt l rd W i).dst = o.dst := by simp [footAt, h]
theorem foot_looks {i : Nat} {o : Oper} (h : l[i]? = some o) : (footAt l rd W i).looks = o.looksAt l.toArray := by simp [footAt, h]
theorem apart_dl {x y : Foot} {d : Nat} (h : x.apart y = true) (hx : x.dst = some d) : hasN y.looks d = false ∧ y.dst ≠ some d := by
  simp only [Foot.apart, hx, Bool.and_eq_true, Bool.not_eq_true'] at h
  refine ⟨h.1.1.1.1, fun e => ?_⟩
  have := h.1.1.1.2
  rw [e] at this
  simp at this
theorem apart_ld {x y : Foot} {d : Nat} (h : x.apart y = true) (hy : y.dst = some d) : hasN x.looks d = false := by
  simp only [Foot.apart, hy, Bool.and_eq_true, Bool.not_eq_true'] at h
  exact h.1.1.2
theorem apart_wr {x y : Foot} {k : Nat} (h : x.apart y = true) (hx : k ∈ x.wr) : k ∉ y.rd ∧ k ∉ y.wr := by
  simp only [Foot.apart, Bool.and_eq_true, List.all_eq_true, Bool.not_eq_true'] at h
  have := h.1.2 k hx
  exact ⟨fun e => by rw [(hasN_mem _ _).2 e] at this; simp at this, fun e => by rw [(hasN_mem _ _).2 e] at this; simp at this⟩
theorem apart_rd {x y : Foot} {k : Nat} (h : x.apart y = true) (hx : k ∈ x.rd) : k ∉ y.wr := by
  simp only [Foot.apart, Bool.and_eq_true, List.all_eq_true, Bool.not_eq_true'] at h
  have := h.2 k hx
  exact fun e => by rw [(hasN_mem _ _).2 e] at this; simp at this
theorem instW_names (x : PW) (p : Nat → Pay) : (instW x p).map (·.1) = x.map (·.1) := by simp [instW, Function.comp_def]
theorem wrtS_some {p : Nat → Pay} {k j : Nat} (h : wrtS l V p k j ≠ none) : (footAt l rd W k).dst = some j ∧ wrtS l V p k j = some (some ((V.getD k fun _ => undef) p)) := by
  unfold wrtS at h ⊢
  cases hd : (l[k]?).bind (·.dst) with
  | none => rw [hd] at h; exact absurd rfl h
  | some d =>
    rw [hd] at h
    cases hb : Nat.beq d j with
    | false => simp [hb] at h
    | true =>
      have : d = j := Nat.eq_of_beq_eq_true hb
      subst this
      exact ⟨hd, by simp⟩
theorem wrtM_some {p : Nat → Pay} {k j : Nat} (h : wrtM W p k j ≠ none) : j ∈ (footAt l rd W k).wr := by
  unfold wrtM at h
  cases hb : hasM (instW (W.getD k []) p) j with
  | false => rw [hb] at h; exact absurd rfl h
  | true =>
    have := (hasM_mem _ _).1 hb
    rwa [instW_names] at this
theorem wrtM_of {p : Nat → Pay} {k j : Nat} (h : j ∈ (W.getD k []).map (·.1)) : wrtM W p k j = some (lookM (instW (W.getD k []) p) j) := by
  unfold wrtM
  rw [(hasM_mem _ _).2 (by rw [instW_names]; exact h)]
  rfl
theorem wrtM_not (l : List Oper) (rd : List (List Nat)) {p : Nat → Pay} {k j : Nat} (h : j ∉ (W.getD k []).map (·.1)) : wrtM W p k j = none := by
  cases hb : wrtM W p k j with
  | none => rfl
  | some x => exact absurd (wrtM_some (l := l) (rd := rd) (p := p) (k := k) (j := j) (by rw [hb]; simp)) h

structure SInv (listed : Array Bool) (p : Nat → Pay) (a : Act) (w : World) : Prop where
  size : a.tmps.size = n
  defers : a.defers = []
  slots : ∀ j v, lastW (wrtS l V p) (fun k => listed.getD k true) (look l0) l.length j = some v → a.tmps[j]? = some v
  mem : Stp olds w0 w (lastW (wrtM W p) (fun k => listed.getD k true) (lookM L0) l.length)
  closed : Closed l listed

theorem sepAny (hp : plainFrom .any n 0 l = true) (hsep : sepB l rd W = true) (hVl : V.length = l.length) (hdep : DepAll l V W 0) (hd : SDuties P l Q n olds w0 l0 L0 V W rd l 0)
    (he : ∀ p a' w', Env n (vlAt l V l0 p l.length) a' → Stp olds w0 w' (lookM (vmAt W L0 p l.length)) → Q .normal a' w') :
    ∀ (fuel : Nat) (listed : Array Bool) (p : Nat → Pay) (a' : Act) (w' : World), listed.size = l.length → listed.toList.count false = fuel → SInv (l := l) (n := n) (olds := olds) (w0 := w0) (l0 := l0) (L0 := L0) (V := V) (W := W) listed p a' w' →
      wpAny P .any l.toArray Q fuel listed a' w' := by
  have hdone : ∀ (listed : Array Bool) (p : Nat → Pay) (a' : Act) (w' : World), (∀ k, k < l.length → listed.getD k true = true) → SInv (l := l) (n := n) (olds := olds) (w0 := w0) (l0 := l0) (L0 := L0) (V := V) (W := W) listed p a' w' → Q .normal a' w' := by
    intro listed p a' w' hall hI
    refine he p a' w' ⟨hI.size, hI.defers, fun j v hj => hI.slots j v ?_⟩ (hI.mem.sub fun k c hk => ?_)
    · rw [look_vlAt] at hj
      rw [← hj]
      exact lastW_same _ fun k hk => ⟨fun _ => rfl, .inl (hall k hk)⟩
    · rw [lookM_vmAt] at hk
      rw [← hk]
      exact lastW_same _ fun k hk => ⟨fun _ => rfl, .inl (hall k hk)⟩
  intro fuel
  induction fuel with
  | zero =>
    intro listed p a' w' hs hc hI
    have hall : ∀ k, k < l.length → listed.getD k true = true := by
      intro k hkl
      have h0 : false ∉ listed.toList := List.count_eq_zero.1 hc
      have hlt : k < listed.size := by omega
      rw [getD_lt hlt]
      cases hb : listed[k]
      · exact absurd (by rw [← hb]; simp) h0
      · rfl
    refine ⟨?_, hdone listed p a' w' hall hI⟩
    apply List.eq_nil_iff_forall_not_mem.2
    intro i hi
    obtain ⟨h1, o, ho, _⟩ := mem_ready.1 hi
    have hlt : i < l.length := by simpa using (Array.getElem?_eq_some_iff.1 ho).1
    rw [hall i hlt] at h1
    cases h1
  | succ fuel ih =>
    intro listed p a' w' hs hc hI
    refine ⟨fun hr => hdone listed p a' w' (all_listed hp hs hr) hI, fun i hi => ?_⟩
    obtain ⟨hun, o, ho, hall⟩ := mem_ready.1 hi
    have ho' : l[i]? = some o := by simpa using ho
    have hlt : i < l.length := (List.getElem?_eq_some_iff.1 ho').1
    have hsp := plain_spec n 0 l i o hp ho'
    have hduty := SDuties.at_ 0 l i o hd ho'
    rw [Nat.zero_add] at hduty
    have hlate : ∀ k, i < k → k < l.length → listed.getD k true = true → (footAt l rd W i).apart (footAt l rd W k) = true := fun k hik hkl hk => by
      rcases sepB_spec hsep hik hkl with h | h
      · rw [anc_spec hI.closed h hk] at hun; cases hun
      · exact h
    have hearly : ∀ k, k < i → listed.getD k true = true ∨ (footAt l rd W k).apart (footAt l rd W i) = true := fun k hki => by
      rcases sepB_spec hsep hki hlt with h | h
      · refine .inl ?_
        have hup : Closed l (listed.setIfInBounds i true) ∧ True := ⟨?_, trivial⟩
        · have := anc_spec hup.1 h (by rw [getD_lt (by simpa using (by omega : i < listed.size))]; simp)
          rwa [show (listed.setIfInBounds i true).getD k true = listed.getD k true by
            rw [getD_lt (by simpa using (by omega : k < listed.size)), getD_lt (by omega), Array.getElem_setIfInBounds_ne (by omega) (by omega)]] at this
        · intro k' ok hok hlk e he1 he2
          by_cases hei : e.on = i
          · rw [hei, getD_lt (by simpa using (by omega : i < listed.size))]
            simp
          · have hkl' : k' < l.length := (List.getElem?_eq_some_iff.1 hok).1
            have hek := (plain_spec n 0 l k' ok hp hok).1 e he1 he2
            have h8 : listed.getD e.on true = true := by
              by_cases hki' : k' = i
              · subst hki'
                rw [ho'] at hok
                injection hok with hok
                subst hok
                have h6 := hall e he1 he2
                have hlt' : e.on < listed.size := by omega
                rw [getD_lt hlt'] at h6 ⊢
                exact h6
              · refine hI.closed k' ok hok ?_ e he1 he2
                rwa [getD_lt (by simpa using (by omega : k' < listed.size)), Array.getElem_setIfInBounds_ne (by omega) (Ne.symm hki'), ← getD_lt (by omega) true] at hlk
            rw [getD_lt (by simpa using (by omega : e.on < listed.size)), Array.getElem_setIfInBounds_ne (by omega) (Ne.symm hei), ← getD_lt (by omega) true]
            exact h8
      · exact .inr h
    have hS : ∀ j, hasN (o.looksAt l.toArray) j = true → look (vlAt l V l0 p i) j = lastW (wrtS l V p) (fun k => listed.getD k true) (look l0) l.length j := by
      intro j hj
      rw [look_vlAt, lastW_above (i := i) l.length (by omega) fun k h1 h2 h3 => ?_]
      · refine lastW_same _ fun k hk => ⟨fun _ => rfl, ?_⟩
        rcases hearly k hk with h | h
        · exact .inl h.symm
        · by_cases hw : wrtS l V p k j = none
          · exact .inr ⟨hw, hw⟩
          · have := (apart_dl h (wrtS_some (rd := rd) (W := W) hw).1).1
            rw [foot_looks ho', hj] at this
            cases this
      · by_cases hki : k = i
        · subst hki; rw [hun] at h3; cases h3
        · apply Classical.byContradiction
          intro hw
          have := apart_ld (hlate k (by omega) h2 h3) (wrtS_some (rd := rd) (W := W) hw).1
          rw [foot_looks ho', hj] at this
          cases this
    have hM : ∀ j, j ∈ rd.getD i [] ∨ j ∈ (W.getD i []).map (·.1) → lookM (vmAt W L0 p i) j = lastW (wrtM W p) (fun k => listed.getD k true) (lookM L0) l.length j := by
      intro j hj
      rw [lookM_vmAt, lastW_above (i := i) l.length (by omega) fun k h1 h2 h3 => ?_]
      · refine lastW_same _ fun k hk => ⟨fun _ => rfl, ?_⟩
        rcases hearly k hk with h | h
        · exact .inl h.symm
        · by_cases hw : wrtM W p k j = none
          · exact .inr ⟨hw, hw⟩
          · have := apart_wr h (wrtM_some (l := l) (rd := rd) hw)
            exact absurd hj (not_or.2 this)
      · by_cases hki : k = i
        · subst hki; rw [hun] at h3; cases h3
        · apply Classical.byContradiction
          intro hw
          have hwr := wrtM_some (l := l) (rd := rd) hw
          rcases hj with hj | hj
          · exact apart_rd (hlate k (by omega) h2 h3) hj hwr
          · exact (apart_wr (hlate k (by omega) h2 h3) hj).2 hwr
    have hview : View n (o.looksAt l.toArray) (rd.getD i [] ++ (W.getD i []).map (·.1)) (vlAt l V l0 p i) (vmAt W L0 p i) olds w0 a' w' :=
      ⟨hI.size, hI.defers, fun j v h1 h2 => hI.slots j v (by rw [← hS j h1]; exact h2), hI.mem.sub fun k c hk => by
        unfold restr at hk
        cases hb : hasN (rd.getD i [] ++ (W.getD i []).map (·.1)) k with
        | false => rw [hb] at hk; simp at hk
        | true =>
          rw [hb] at hk
          rw [← hM k (List.mem_append.1 ((hasN_mem _ _).1 hb))]
          exact hk⟩
    have hset : ∀ k, k < l.length → (listed.setIfInBounds i true).getD k true = (listed.getD k true || Nat.beq k i) := by
      intro k hkl
      by_cases hki : k = i
      · subst hki
        rw [getD_lt (by simpa using (by omega : k < listed.size))]
        simp
      · rw [getD_lt (by simpa using (by omega : k < listed.size)), Array.getElem_setIfInBounds_ne (by omega) (Ne.symm hki), getD_lt (by omega), show Nat.beq k i = false by
          cases hb : Nat.beq k i with
          | false => rfl
          | true => exact absurd (Nat.eq_of_beq_eq_true hb) hki]
        simp
    have hclosed : Closed l (listed.setIfInBounds i true) := by
      intro k ok hok hlk e he1 he2
      have hkl : k < l.length := (List.getElem?_eq_some_iff.1 hok).1
      have hek := (plain_spec n 0 l k ok hp hok).1 e he1 he2
      rw [hset _ hkl] at hlk
      rw [hset _ (by omega)]
      by_cases hki : k = i
      · subst hki
        rw [ho'] at hok
        injection hok with hok
        subst hok
        have h6 := hall e he1 he2
        have hlt' : e.on < listed.size := by omega
        rw [getD_lt hlt'] at h6 ⊢
        rw [h6]; rfl
      · rw [hI.closed k ok hok (by
          rw [show Nat.beq k i = false by
            cases hb : Nat.beq k i with
            | false => rfl
            | true => exact absurd (Nat.eq_of_beq_eq_true hb) hki] at hlk
          simpa using hlk) e he1 he2]
        rfl
    have hwp := hduty p a' w' hview (wpAny P .any l.toArray Q fuel (listed.setIfInBounds i true)) fun x w'' hst => by
      have hcnt := count_pos (listed := listed) (i := i) (by omega) hun
      refine ih (listed.setIfInBounds i true) (upd p i x) _ w'' (by simpa using hs) (by omega) ?_
      have hpay : ∀ k, k < l.length → listed.getD k true = true → (V.getD k fun _ => undef) (upd p i x) = (V.getD k fun _ => undef) p ∧ instW (W.getD k []) (upd p i x) = instW (W.getD k []) p := fun k hkl hk => by
        refine DepAll.at_ V W 0 k hdep _ _ (by omega) fun m hm => ?_
        rw [Nat.zero_add] at hm
        refine upd_ne _ _ _ _ fun e => ?_
        have : listed.getD m true = true := by
          rcases hm with hm | hm
          · rw [hm]; exact hk
          · exact anc_spec hI.closed hm hk
        rw [e, hun] at this
        cases this
      have hpS : ∀ k j, k < l.length → listed.getD k true = true → wrtS l V (upd p i x) k j = wrtS l V p k j := fun k j hkl hk => by
        unfold wrtS
        rw [(hpay k hkl hk).1]
      have hpM : ∀ k j, k < l.length → listed.getD k true = true → wrtM W (upd p i x) k j = wrtM W p k j := fun k j hkl hk => by
        unfold wrtM
        rw [(hpay k hkl hk).2]
      -- the sets as functions
      have hfun : ∀ {α : Type} (wrt : Nat → Nat → Option α) (init : Nat → α) (j : Nat), lastW wrt (fun k => (listed.setIfInBounds i true).getD k true) init l.length j = lastW wrt (fun k => listed.getD k true || Nat.beq k i) init l.length j := fun wrt init j =>
        lastW_same _ fun k hk => ⟨fun _ => rfl, .inl (hset k hk)⟩
      refine ⟨by rw [put_size]; exact hI.size, by rw [put_defers]; exact hI.defers, fun j v hj => ?_, ?_, hclosed⟩
      · rw [hfun, lastW_upd hlt (S := fun k => listed.getD k true) (fun k => rfl) hun fun k h1 h2 h3 h4 => ?_] at hj
        · cases hw : wrtS l V (upd p i x) i j with
          | some u =>
            have hne : wrtS l V (upd p i x) i j ≠ none := by rw [hw]; simp
            obtain ⟨h5, h6⟩ := wrtS_some (rd := rd) (W := W) hne
            rw [hw] at hj h6
            rw [foot_dst ho'] at h5
            injection h6 with h6
            rw [h5, put_at _ _ _ (by rw [hI.size]; exact hsp.2 j h5)]
            exact h6.symm.trans hj
          | none =>
            rw [hw] at hj
            have hd' : o.dst ≠ some j := fun e => by
              unfold wrtS at hw
              rw [ho'] at hw
              simp [e] at hw
            rw [put_ne _ _ _ _ hd']
            refine hI.slots j v ?_
            rw [← hj]
            refine lastW_same _ fun k hk => ⟨fun hk2 => (hpS k j hk (by simpa using hk2)).symm, .inl rfl⟩
        · apply Classical.byContradiction
          intro hw
          exact (apart_dl (hlate k h1 h2 h3) (wrtS_some (rd := rd) (W := W) h4).1).2 (wrtS_some (rd := rd) (W := W) hw).1
      · refine hI.mem.comp ((W.getD i []).map (·.1)) (hst.mono fun g hg => ?_) (fun k c hk => ?_) _ fun k => ?_
        · obtain ⟨k, hk, c, hc, hgc⟩ := hg
          exact ⟨k, hk, c, by rw [← hM k (.inr hk)]; exact hc, hgc⟩
        · have := (hasM_mem (instW (W.getD i []) (upd p i x)) k).1 (by
            cases hb : hasM (instW (W.getD i []) (upd p i x)) k with
            | true => rfl
            | false => rw [lookM_none _ _ hb] at hk; cases hk)
          rwa [instW_names] at this
        · rw [hfun, lastW_upd hlt (S := fun k => listed.getD k true) (fun k => rfl) hun fun k' h1 h2 h3 h4 => ?_]
          · by_cases hk : k ∈ (W.getD i []).map (·.1)
            · rw [if_pos hk, wrtM_of hk]
            · rw [if_neg hk, wrtM_not l rd hk]
              exact lastW_same _ fun k' hk' => ⟨fun hk2 => hpM k' k hk' (by simpa using hk2), .inl rfl⟩
          · apply Classical.byContradiction
            intro hw
            exact (apart_wr (hlate k' h1 h2 h3) (wrtM_some (l := l) (rd := rd) h4)).2 (wrtM_some (l := l) (rd := rd) hw)
    unfold wpOp
    rw [ho]
    show if Region.wanted o (yielded l.toArray a'.tmps) = true then _ else _
    split
    · rename_i hw
      rw [if_pos hw] at hwp
      exact .inl hwp
    · rename_i hw
      rw [if_neg hw] at hwp
      exact hwp

/-- **A REGION THAT DRAWS ITS ORDER, WALKED AS THE TEXT HAS IT.** -/
theorem wp_sep {id : Nat} (hE : Env n l0 a₀) (hS : Stp olds w0 w (lookM L0)) (V : List PV) (W : List PW) (rd : List (List Nat)) (hm : P.follows .mixedOrders = true) (hp : plainFrom .any n 0 l = true) (hsep : sepB l rd W = true) (hVl : V.length = l.length)
    (hdep : DepAll l V W 0) (hd : SDuties P l Q n olds w0 l0 L0 V W rd l 0)
    (he : ∀ p a' w', Env n (vlAt l V l0 p l.length) a' → Stp olds w0 w' (lookM (vmAt W L0 p l.length)) → Q .normal a' w') : (Code.region id l.toArray true).wp P Q a₀ w := by
  refine wp_region_any hm ?_
  have hno : ∀ k, k < l.length → (Array.replicate l.toArray.size false).getD k true = false := by
    intro k hkl
    rw [getD_lt (by simpa using hkl)]
    simp
  have hno2 : ∀ {α : Type} (wrt : Nat → Nat → Option α) (init : Nat → α) (j : Nat), lastW wrt (fun k => (Array.replicate l.toArray.size false).getD k true) init l.length j = init j := fun wrt init j =>
    lastW_above (i := 0) _ (Nat.zero_le _) fun k _ hk h => by rw [hno k hk] at h; cases h
  refine sepAny hp hsep hVl hdep hd he l.toArray.size (Array.replicate l.toArray.size false) (fun _ => pay0) a₀ _ (by simp) (by simp) ⟨hE.size, hE.defers, fun j v hj => ?_, ?_, fun i o ho hi => ?_⟩
  · rw [hno2] at hj
    exact hE.at_ j v hj
  · exact Stp.drew (w := w) (hS.sub fun k c hk => by rw [hno2] at hk; exact hk)
  · rw [hno i (List.getElem?_eq_some_iff.1 ho).1] at hi
    cases hi

theorem sduty_plain {i : Nat} {o : Oper} (hg : o.guard = none)
    (h : ∀ (p : Nat → Pay) (a : Act) (w : World), View n (o.looksAt l.toArray) (rd.getD i [] ++ (W.getD i []).map (·.1)) (vlAt l V l0 p i) (vmAt W L0 p i) olds w0 a w →
      ∀ K : Act → World → Prop, (∀ x w', Stp (blksOf (lookM (vmAt W L0 p i)) ((W.getD i []).map (·.1))) w w' (lookM (instW (W.getD i []) (upd p i x))) → K (a.put o.dst ((V.getD i fun _ => undef) (upd p i x))) w') → o.wp P a w K Q) : SDuty P l Q n olds w0 l0 L0 V W rd i o :=
  fun p a w hv K hK => by rw [if_pos (by simp [Region.wanted, hg])]; exact h p a w hv K hK
theorem sduty_guard {i : Nat} {o : Oper} (g : Nat) (want : Bool) (dg : Tmp) (hg : o.guard = some (g, want)) (hdg : (l[g]?).bind (·.dst) = some dg) (hl : hasN (o.looksAt l.toArray) dg = true) (hb : ∀ p, look (vlAt l V l0 p i) dg = some (.bool want))
    (h : ∀ (p : Nat → Pay) (a : Act) (w : World), View n (o.looksAt l.toArray) (rd.getD i [] ++ (W.getD i []).map (·.1)) (vlAt l V l0 p i) (vmAt W L0 p i) olds w0 a w →
      ∀ K : Act → World → Prop, (∀ x w', Stp (blksOf (lookM (vmAt W L0 p i)) ((W.getD i []).map (·.1))) w w' (lookM (instW (W.getD i []) (upd p i x))) → K (a.put o.dst ((V.getD i fun _ => undef) (upd p i x))) w') → o.wp P a w K Q) : SDuty P l Q n olds w0 l0 L0 V W rd i o :=
  fun p a w hv K hK => by
    have hy : yielded l.toArray a.tmps g = some want := by
      unfold yielded
      rw [show (l.toArray[g]?).bind (·.dst) = some dg by simpa using hdg]
      simp [hv.get dg hl (hb p)]
    rw [if_pos (by simp [Region.wanted, hg, hy])]
    exact h p a w hv K hK
theorem sduty_skip {i : Nat} {o : Oper} (g : Nat) (want : Bool) (dg : Tmp) (hg : o.guard = some (g, want)) (hdg : (l[g]?).bind (·.dst) = some dg) (hl : hasN (o.looksAt l.toArray) dg = true) (hb : ∀ p, look (vlAt l V l0 p i) dg = some (.bool !want))
    (hV : V.getD i (fun _ => undef) = fun _ => undef) (hW : W.getD i [] = []) : SDuty P l Q n olds w0 l0 L0 V W rd i o :=
  fun p a w hv K hK => by
    have hy : yielded l.toArray a.tmps g = some !want := by
      unfold yielded
      rw [show (l.toArray[g]?).bind (·.dst) = some dg by simpa using hdg]
      simp [hv.get dg hl (hb p)]
    rw [if_neg (by simp [Region.wanted, hg, hy])]
    have := hK pay0 w (by rw [hW]; exact stp_none w)
    rw [hV] at this
    exact this
end

/-- All that a list says of the pieces is so. -/
def AllM (M : Nat → Option Ck) : List (Nat × Option Ck) → Prop
  | [] => True
  | (k, v) :: l => M k = v ∧ AllM M l
theorem allM_look {M : Nat → Option Ck} : ∀ {l : List (Nat × Option Ck)} {n : Nat} {c : Ck}, AllM M l → lookM l n = some c → M n = some c
  | [], _, _, _, h => by cases h
  | (k, v) :: l, n, c, ha, h => by
    unfold lookM at h
    cases hb : Nat.beq k n with
    | true =>
      rw [hb] at h
      have : k = n := Nat.eq_of_beq_eq_true hb
      subst this
      exact ha.1.trans h
    | false => rw [hb] at h; exact allM_look ha.2 h
theorem Stp.keep {olds : Nat → Prop} {w0 w : World} {M : Nat → Option Ck} {L' : List (Nat × Option Ck)} (h : Stp olds w0 w M) (h' : AllM M L') : Stp olds w0 w (lookM L') := h.sub fun _ _ hc => allM_look h' hc
/-- A call that makes a row. -/
theorem stp_callR {olds : Nat → Prop} {w w' : World} (k : Nat) {e : TypeId} {size : Nat} {v : Value} {n : Nat} {xs : List Value} (h : w'.ownsRow w.heap.size e size v n xs) (hb : Below w.heap.size w w') : Stp olds w w' (lookM [(k, some (ckR w.heap.size e size v n xs))]) :=
  stp_row k h (.inl (grownBy_of_below hb none)) fun g hg => .inl (h.lt g hg).1
/-- The same with a base that was ahead. -/
theorem stp_callRB {olds : Nat → Prop} {w w' : World} (B : Nat) (hB : B ≤ w.heap.size) (k : Nat) {e : TypeId} {size : Nat} {v : Value} {n : Nat} {xs : List Value} (h : w'.ownsRow w.heap.size e size v n xs) (hb : Below w.heap.size w w') : Stp olds w w' (lookM [(k, some (ckR B e size v n xs))]) :=
  stp_row k (own_base h hB) (.inl (grownBy_of_below hb none)) fun g hg => .inl (h.lt g hg).1
theorem stp_callB {olds : Nat → Prop} {w w' : World} (k : Nat) {g : Nat} {t : TypeId} {cs : Array Value} (h : Blk w' g t cs) (hg : w.heap.size ≤ g) (hb : Below w.heap.size w w') : Stp olds w w' (lookM [(k, some (ckB g t cs))]) :=
  stp_blk k h (.inl (grownBy_of_below hb none)) (.inl hg)
end Go.Proofs.YtmmfpgoodfgkbaaGreat
/-
  OPERATIONS, EACH BY ONE WORD: in a region of the text's order and in one that draws its order: what computes, loads, stores and makes memory. No condition.
-/
namespace Go.Proofs.YtmmfpgoodfgkbaaGreat
open Go Go.RowKit
set_option linter.unusedVariables false

/-- Operands read off a list of slots. -/
def evalL (l : List (Nat × Value)) : Operand → Value
  | .tmp t => (look l t).getD undef
  | x => (⟨#[], []⟩ : Act).eval x
def known (l : List (Nat × Value)) (x : Operand) : Bool := match x with
  | .tmp t => (look l t).isSome
  | _ => true
def knownL (l : List (Nat × Value)) : List Operand → Bool
  | [] => true
  | x :: r => known l x && knownL l r
theorem knownL_mem {l : List (Nat × Value)} : ∀ {xs : List Operand} {x : Operand}, knownL l xs = true → x ∈ xs → known l x = true
  | y :: r, x, h, hx => by
    simp only [knownL, Bool.and_eq_true] at h
    rcases List.mem_cons.1 hx with e | e
    · rw [e]; exact h.1
    · exact knownL_mem h.2 e
def knownAll (l : List (Nat × Value)) (xs : Array Operand) : Bool := knownL l xs.toList
def noSel (o : Op) : Bool := match o with
  | .select _ _ => false
  | _ => true
theorem evalL_eq {l : List (Nat × Value)} {a : Act} {x : Operand} (h : ∀ t, x = .tmp t → ∀ v, look l t = some v → a.tmps[t]? = some v) (hk : known l x = true) : a.eval x = evalL l x := by
  cases x with
  | tmp t =>
    cases hl : look l t with
    | none => simp [known, hl] at hk
    | some v => simp [Act.eval, evalL, hl, h t rfl v hl]
  | _ => rfl
theorem execL {l : List (Nat × Value)} {a : Act} {o : Oper} (hs : noSel o.op = true) (hk : knownAll l o.op.operands = true) (h : ∀ t, .tmp t ∈ o.op.operands → ∀ v, look l t = some v → a.tmps[t]? = some v) : execOp a.eval o = execOp (evalL l) o := by
  refine execOp_congr o (fun cs b e => by rw [e] at hs; cases hs) fun x hx => evalL_eq (fun t ht v hv => h t (ht ▸ hx) v hv) ?_
  exact knownL_mem hk (by simpa using hx)
theorem tmp_looks {l : List Oper} {o : Oper} {t : Tmp} (h : .tmp t ∈ o.op.operands) : hasN (o.looksAt l.toArray) t = true := by
  refine (hasN_mem _ _).2 (List.mem_append_left _ (List.mem_filterMap.2 ⟨.tmp t, by simpa using h, rfl⟩))

section
variable {P : Program} {n : Nat} {l : List (Nat × Value)} {a : Act} {w w' : World} {Q : Exit → Act → World → Prop} {ops : Array Oper} {o : Oper} {rest : List Oper}
theorem exec_wp {K : Act → World → Prop} {v : Value} (h : (execOp a.eval o).run P w = .ok (.value v) w') (hK : K (a.put o.dst v) w') : o.wp P a w K Q := by
  unfold Oper.wp; rw [h]; exact hK
theorem exec_wp_skip {K : Act → World → Prop} (h : (execOp a.eval o).run P w = .ok .skip w') (hK : K (a.put o.dst undef) w') : o.wp P a w K Q := by
  unfold Oper.wp; rw [h]; exact hK
/-- An operation whose run is known where the slots are as the list has them. -/
theorem seq_op (hE : Env n l a) (d : Nat) (v : Value) (hg : o.guard = none) (hd : o.dst = some d) (hlt : Nat.blt d n = true) (hs : noSel o.op = true) (hk : knownAll l o.op.operands = true) (hr : (execOp (evalL l) o).run P w = .ok (.value v) w')
    (h : ∀ a', Env n ((d, v) :: l) a' → wpList P ops Q rest a' w') : wpList P ops Q (o :: rest) a w :=
  wpList_plain hg fun K hK => by
    refine exec_wp (a := a) (v := v) (w' := w') (by rw [execL hs hk fun t _ v hv => hE.at_ t v hv]; exact hr) (hK _ _ (h _ ?_))
    rw [hd]
    exact hE.put (by simpa [Nat.blt_eq] using hlt) v
theorem seq_skip (hE : Env n l a) (hg : o.guard = none) (hd : o.dst = none) (hs : noSel o.op = true) (hk : knownAll l o.op.operands = true) (hr : (execOp (evalL l) o).run P w = .ok .skip w')
    (h : wpList P ops Q rest a w') : wpList P ops Q (o :: rest) a w :=
  wpList_plain hg fun K hK => by
    refine exec_wp_skip (a := a) (w' := w') (by rw [execL hs hk fun t _ v hv => hE.at_ t v hv]; exact hr) (hK _ _ ?_)
    rw [hd]
    exact h
end

section
variable {P : Program} {w : World}
theorem run_load1 (t : TypeId) (g off : Nat) (T : TypeId) (cs : Array Value) (v : Value) (hagg : ∀ w, (isAgg t).run P w = .ok false w) (hb : Blk w g T cs) (hc : cs[off]? = some v) :
    (Instr.loadAt t (.pointer (some ⟨g, off, none⟩))).run P w = .ok v w := by
  have h1 : w.cell? ⟨g, off, none⟩ = some v := (hb.cell off).trans hc
  simp [Instr.loadAt, Instr.sureAddr, loadVar, hagg, run_load, h1]
theorem run_loadN (t : TypeId) (g : Nat) (T : TypeId) (cs : Array Value) (d : TypeDesc) (hb : Blk w g T cs) (hu : P.underlying t = some d) (hd : (match d with | .struct _ | .array _ _ => true | _ => false) = true) (hi : (P.info? t).map (·.size) = some cs.size) :
    (Instr.loadAt t (.pointer (some ⟨g, 0, none⟩))).run P w = .ok (.agg cs) w := by
  simp [Instr.loadAt, Instr.sureAddr, run_loadVar_row w g T t cs (0, 0) d hb hu hd hi]
theorem run_store1 (t : TypeId) (g off : Nat) (T : TypeId) (cs : Array Value) (v : Value) (hv : v.oneCell' = true) (hsz : ∀ w, (sizeOf t).run P w = .ok 1 w) (hb : Blk w g T cs) (hc : off < cs.size) :
    (Instr.storeAt t (.pointer (some ⟨g, off, none⟩)) v).run P w = .ok () (w.setCell ⟨g, off, none⟩ v) := by
  have h1 : w.cell? ⟨g, off, none⟩ = some cs[off] := (hb.cell off).trans (Array.getElem?_eq_getElem hc)
  have h2 := hb.frozen off
  have h4 : v.cells = #[v] := by cases v <;> first | rfl | (simp [Value.oneCell'] at hv)
  have h0 : (⟨g, off, none⟩ : Addr).add 0 = ⟨g, off, none⟩ := rfl
  simp [Instr.storeAt, Instr.sureAddr, storeVar, hsz, h4, storeCells, run_store P w _ v _ hv, h0, h1, h2]
end

theorem run_index1 {P : Program} {w : World} {T elem : TypeId} {size : Nat} (hu : P.underlying T = some (.slice elem)) (hsz : ∀ w, (sizeOf elem).run P w = .ok size w) (b off n c k : Nat) (hk : k < n) :
    (Instr.indexAt T (.slice (some ⟨b, off, none⟩) n c) (.int .i64 (k : Nat))).run P w = .ok (.pointer (some ⟨b, off + k * size, none⟩)) w := by
  simp [Instr.indexAt, asIntOf, run_underlying hu, hsz, Addr.add_lit, hk]
theorem reads_range {w : World} {B s n : Nat} {b off : Nat} {α : Type} {f : α → List Value} {l : List α} (h : Reads w B s (some ⟨b, off, none⟩) n (l.flatMap f)) (hs : ∀ x ∈ l, (f x).length = s) (k : Nat) (hk : k < l.length) : w.rangeAt b (off + k * s) (f l[k]) := fun j v hv => by
  have hj : j < s := by
    have := (List.getElem?_eq_some_iff.1 hv).1
    rwa [hs _ (List.getElem_mem _)] at this
  exact h.at2 hs k j hk hj hv

theorem blk_range {w : World} {g : Nat} {t : TypeId} {cs : Array Value} (hb : Blk w g t cs) (off : Nat) (sub : List Value) (h : (cs.toList.drop off).take sub.length = sub) : w.rangeAt g off sub := fun j v hv => by
  rw [hb.cell]
  rw [← h] at hv
  have hj : j < sub.length := by
    have := (List.getElem?_eq_some_iff.1 hv).1
    simp at this
    omega
  rw [List.getElem?_take_of_lt hj, List.getElem?_drop] at hv
  simpa using hv

/-! ## In the text's order, with pieces -/
section
variable {P : Program} {n : Nat} {l : List (Nat × Value)} {a : Act} {w0 w : World} {olds : Nat → Prop} {M : Nat → Option Ck} {L : List (Nat × Option Ck)} {Q : Exit → Act → World → Prop} {ops : Array Oper} {o : Oper} {rest : List Oper}
theorem seq_pure (hE : Env n l a) (d : Nat) (v : Value) (hr : ∀ w, (execOp (evalL l) o).run P w = .ok (.value v) w) (hg : o.guard = none) (hd : o.dst = some d) (hlt : Nat.blt d n = true) (hs : noSel o.op = true) (hk : knownAll l o.op.operands = true)
    (h : ∀ a', Env n ((d, v) :: l) a' → wpList P ops Q rest a' w) : wpList P ops Q (o :: rest) a w := seq_op hE d v hg hd hlt hs hk (hr w) h
theorem seq_load (hE : Env n l a) (hS : Stp olds w0 w M) (d : Nat) (k : Nat) (off : Nat) {v : Value} {t : TypeId} {x : Tmp} {g : Nat} {T : TypeId} {cs : Array Value} (hagg : ∀ w, (isAgg t).run P w = .ok false w) (ho : o.op = .load t (.tmp x)) (hx : look l x = some (.pointer (some ⟨g, off, none⟩))) (hM : M k = some (ckB g T cs)) (hc : cs[off]? = some v) (hg : o.guard = none) (hd : o.dst = some d) (hlt : Nat.blt d n = true)
    (h : ∀ a', Env n ((d, v) :: l) a' → wpList P ops Q rest a' w) : wpList P ops Q (o :: rest) a w :=
  seq_op (w' := w) hE d v hg hd hlt (by rw [ho]; rfl) (by rw [ho]; simp [knownAll, knownL, known, Op.operands, hx]) (by
    have := run_load1 (w := w) t g off T cs v hagg (hS.blk k hM) hc
    simp [execOp, ho, evalL, hx, this]) h
theorem seq_loadN (hE : Env n l a) (hS : Stp olds w0 w M) (d : Nat) (k : Nat) {t : TypeId} {x : Tmp} {g : Nat} {T : TypeId} {cs : Array Value} {D : TypeDesc} (hu : P.underlying t = some D) (hi : (P.info? t).map (·.size) = some cs.size) (ho : o.op = .load t (.tmp x)) (hx : look l x = some (.pointer (some ⟨g, 0, none⟩))) (hM : M k = some (ckB g T cs)) (hD : (match D with | .struct _ | .array _ _ => true | _ => false) = true) (hg : o.guard = none) (hd : o.dst = some d) (hlt : Nat.blt d n = true)
    (h : ∀ a', Env n ((d, .agg cs) :: l) a' → wpList P ops Q rest a' w) : wpList P ops Q (o :: rest) a w :=
  seq_op (w' := w) hE d (.agg cs) hg hd hlt (by rw [ho]; rfl) (by rw [ho]; simp [knownAll, knownL, known, Op.operands, hx]) (by
    have := run_loadN (w := w) t g T cs D (hS.blk k hM) hu hD hi
    simp [execOp, ho, evalL, hx, this]) h
theorem seq_store (hE : Env n l a) (hS : Stp olds w0 w (lookM L)) (k : Nat) (off : Nat) {v : Value} {t : TypeId} {x y : Operand} {g : Nat} {T : TypeId} {cs : Array Value} (hsz : ∀ w, (sizeOf t).run P w = .ok 1 w) (ho : o.op = .store t x y) (hx : evalL l x = .pointer (some ⟨g, off, none⟩)) (hy : evalL l y = v) (hM : lookM L k = some (ckB g T cs)) (hc : Nat.blt off cs.size = true) (hv : v.oneCell' = true) (hg : o.guard = none) (hd : o.dst = none) (hk : knownAll l #[x, y] = true)
    (h : ∀ w', Stp olds w0 w' (lookM ((k, some (ckB g T (cs.setIfInBounds off v))) :: L)) → wpList P ops Q rest a w') : wpList P ops Q (o :: rest) a w :=
  seq_skip (w' := w.setCell ⟨g, off, none⟩ v) hE hg hd (by rw [ho]; rfl) (by rw [ho]; exact hk) (by
    have := run_store1 (w := w) t g off T cs v hv hsz (hS.blk k hM) (by simpa [Nat.blt_eq] using hc)
    simp [execOp, ho, hx, hy, this]) (h _ (hS.set_ k hM off v))
theorem seq_new (hE : Env n l a) (hS : Stp olds w0 w (lookM L)) (d : Nat) (k : Nat) (v : Nat → Value) (T : TypeId) (cs : Array Value) (hr : ∀ w, (execOp (evalL l) o).run P w = .ok (.value (v w.heap.size)) (w.alloc (.cells cs T))) (hg : o.guard = none) (hd : o.dst = some d) (hlt : Nat.blt d n = true) (hs : noSel o.op = true) (hk : knownAll l o.op.operands = true)
    (h : ∀ a' w' g, Env n ((d, v g) :: l) a' → Stp olds w0 w' (lookM ((k, some (ckB g T cs)) :: L)) → wpList P ops Q rest a' w') : wpList P ops Q (o :: rest) a w :=
  seq_op (w' := w.alloc (.cells cs T)) hE d _ hg hd hlt hs hk (hr w) fun a' hE' => h a' _ _ hE' (hS.alloc k T cs)
end

section
variable {P : Program} {n : Nat} {l : List (Nat × Value)} {a : Act} {w0 w : World} {olds : Nat → Prop} {M : Nat → Option Ck} {L : List (Nat × Option Ck)} {Q : Exit → Act → World → Prop} {ops : Array Oper} {o : Oper} {rest : List Oper}
theorem seq_index (hE : Env n l a) (d : Nat) {T elem : TypeId} {x i : Tmp} (size b off m c k : Nat) (hu : P.underlying T = some (.slice elem)) (hsz : ∀ w, (sizeOf elem).run P w = .ok size w) (hk : k < m) (ho : o.op = .indexAddr T (.tmp x) (.tmp i)) (hx : look l x = some (.slice (some ⟨b, off, none⟩) m c)) (hi : look l i = some (.int .i64 (k : Nat))) (hg : o.guard = none) (hd : o.dst = some d) (hlt : Nat.blt d n = true)
    (h : ∀ a', Env n ((d, .pointer (some ⟨b, off + k * size, none⟩)) :: l) a' → wpList P ops Q rest a' w) : wpList P ops Q (o :: rest) a w :=
  seq_op (w' := w) hE d _ hg hd hlt (by rw [ho]; rfl) (by rw [ho]; simp [knownAll, knownL, known, Op.operands, hx, hi]) (by
    have := run_index1 (w := w) hu hsz b off m c k hk
    simp [execOp, ho, evalL, hx, hi, this]) h
theorem seq_loadAt (hE : Env n l a) (d : Nat) {t : TypeId} {x : Tmp} {b off : Nat} (cs : List Value) {D : TypeDesc} (hr : w.rangeAt b off cs) (hu : P.underlying t = some D) (hi : (P.info? t).map (·.size) = some cs.length) (ho : o.op = .load t (.tmp x)) (hx : look l x = some (.pointer (some ⟨b, off, none⟩))) (hD : D.isRow = true) (hg : o.guard = none) (hd : o.dst = some d) (hlt : Nat.blt d n = true)
    (h : ∀ a', Env n ((d, .agg cs.toArray) :: l) a' → wpList P ops Q rest a' w) : wpList P ops Q (o :: rest) a w :=
  seq_op (w' := w) hE d (.agg cs.toArray) hg hd hlt (by rw [ho]; rfl) (by rw [ho]; simp [knownAll, knownL, known, Op.operands, hx]) (by
    have := run_loadAt_mid (P := P) w b off t cs D hr hu hD hi
    simp [execOp, ho, evalL, hx, this]) h
theorem seq_storeN (hE : Env n l a) (hS : Stp olds w0 w (lookM L)) (k : Nat) {new old : Array Value} {t : TypeId} {x y : Operand} {g : Nat} {T : TypeId} (h1 : new.all (·.oneCell') = true) (ho : o.op = .store t x y) (hx : evalL l x = .pointer (some ⟨g, 0, none⟩)) (hy : evalL l y = .agg new) (hM : lookM L k = some (ckB g T old)) (hs : old.size = new.size) (hi : (P.info? t).map (·.size) = some new.size) (hg : o.guard = none) (hd : o.dst = none) (hk : knownAll l #[x, y] = true)
    (h : ∀ w', Stp olds w0 w' (lookM ((k, some (ckB g T new)) :: L)) → wpList P ops Q rest a w') : wpList P ops Q (o :: rest) a w := by
  have hb := hS.blk k hM
  have hbk := blk_setCells new.toList 0 hb
  rw [setFrom_whole old new hs] at hbk
  have hgr := grown_setCells g new.toList w 0
  have hrun : (Instr.storeAt t (.pointer (some ⟨g, 0, none⟩)) (.agg new)).run P w = .ok () (w.setCells g 0 new.toList) := by
    simp [Instr.storeAt, Instr.sureAddr, run_storeVar_mid (P := P) w g 0 t new (fun j hj => ⟨by rw [Nat.zero_add, hb.cell j, Array.getElem?_eq_getElem (by omega)]; rfl, hb.frozen _⟩) hi h1]
  refine seq_skip (w' := w.setCells g 0 new.toList) hE hg hd (by rw [ho]; rfl) (by rw [ho]; exact hk) (by simp [execOp, ho, hx, hy, hrun]) (h _ ?_)
  exact hS.step_ k _ _ hM hgr.1 (fun g' hg' => by injection hg' with hg'; exact hg'.symm) hbk fun g' hg' => by
    have : g' = g := hg'
    subst this
    exact ⟨hbk.lt, .inr rfl⟩
end

/-! ## In a region that draws its order -/
section
variable {P : Program} {l : List Oper} {Q : Exit → Act → World → Prop} {n : Nat} {olds : Nat → Prop} {w0 w : World} {l0 : List (Nat × Value)} {L0 : List (Nat × Option Ck)} {V : List PV} {W : List PW} {rd : List (List Nat)} {i : Nat} {o : Oper}
/-- An operation that is carried out: unguarded, or guarded by what holds. -/
def Runs (l : List Oper) (V : List PV) (l0 : List (Nat × Value)) (i : Nat) (o : Oper) : Prop :=
  o.guard = none ∨ ∃ g want dg, o.guard = some (g, want) ∧ (l[g]?).bind (·.dst) = some dg ∧ hasN (o.looksAt l.toArray) dg = true ∧ ∀ p, look (vlAt l V l0 p i) dg = some (.bool want)
theorem runs_g (g : Nat) (want : Bool) (dg : Tmp) (hg : o.guard = some (g, want)) (hdg : (l[g]?).bind (·.dst) = some dg) (hl : hasN (o.looksAt l.toArray) dg = true) (hb : ∀ p, look (vlAt l V l0 p i) dg = some (.bool want)) : Runs l V l0 i o := .inr ⟨g, want, dg, hg, hdg, hl, hb⟩
theorem sduty_runs (hR : Runs l V l0 i o)
    (h : ∀ (p : Nat → Pay) (a : Act) (w : World), View n (o.looksAt l.toArray) (rd.getD i [] ++ (W.getD i []).map (·.1)) (vlAt l V l0 p i) (vmAt W L0 p i) olds w0 a w →
      ∀ K : Act → World → Prop, (∀ x w', Stp (blksOf (lookM (vmAt W L0 p i)) ((W.getD i []).map (·.1))) w w' (lookM (instW (W.getD i []) (upd p i x))) → K (a.put o.dst ((V.getD i fun _ => undef) (upd p i x))) w') → o.wp P a w K Q) : SDuty P l Q n olds w0 l0 L0 V W rd i o := by
  rcases hR with hg | ⟨g, want, dg, hg, hdg, hl, hb⟩
  · exact sduty_plain hg h
  · exact sduty_guard g want dg hg hdg hl hb h
theorem upd_same (p : Nat → Pay) (i : Nat) : upd p i (p i) = p := by
  funext k
  by_cases h : k = i
  · subst h; exact upd_at ..
  · exact upd_ne _ _ _ _ h
theorem View.exec {looks fp : List Nat} {vl : List (Nat × Value)} {vm : List (Nat × Option Ck)} {a : Act} (hv : View n looks fp vl vm olds w0 a w) (hl : looks = o.looksAt l.toArray) (hs : noSel o.op = true) (hk : knownAll vl o.op.operands = true) : execOp a.eval o = execOp (evalL vl) o :=
  execL hs hk fun t ht v h => hv.at_ t v (by rw [hl]; exact tmp_looks ht) h
theorem sd_pure (hR : Runs l V l0 i o) (hr : ∀ p w, (execOp (evalL (vlAt l V l0 p i)) o).run P w = .ok (.value ((V.getD i fun _ => undef) p)) w) (hs : noSel o.op = true) (hk : ∀ p, knownAll (vlAt l V l0 p i) o.op.operands = true) (hW : W.getD i [] = []) : SDuty P l Q n olds w0 l0 L0 V W rd i o :=
  sduty_runs hR fun p a w hv K hK => by
    have h := hK (p i) w (by rw [hW]; exact stp_none w)
    rw [upd_same] at h
    exact exec_wp (by rw [hv.exec rfl hs (hk p)]; exact hr p w) h
theorem restr_blk {fp : List Nat} {M : Nat → Option Ck} {k : Nat} {c : Ck} (h : restr fp M k = some c) : M k = some c := by
  unfold restr at h
  cases hb : hasN fp k with
  | false => rw [hb] at h; cases h
  | true => rw [hb] at h; exact h
theorem sd_load (k off : Nat) {t : TypeId} {x : Tmp} {g : (Nat → Pay) → Nat} {T : TypeId} {cs : (Nat → Pay) → Array Value} (hR : Runs l V l0 i o) (hagg : ∀ w, (isAgg t).run P w = .ok false w) (ho : o.op = .load t (.tmp x)) (hx : ∀ p, look (vlAt l V l0 p i) x = some (.pointer (some ⟨g p, off, none⟩)))
    (hM : ∀ p, restr (rd.getD i [] ++ (W.getD i []).map (·.1)) (lookM (vmAt W L0 p i)) k = some (ckB (g p) T (cs p))) (hc : ∀ p, (cs p)[off]? = some ((V.getD i fun _ => undef) p)) (hW : W.getD i [] = []) : SDuty P l Q n olds w0 l0 L0 V W rd i o :=
  sduty_runs hR fun p a w hv K hK => by
    have h := hK (p i) w (by rw [hW]; exact stp_none w)
    rw [upd_same] at h
    refine exec_wp (by
      rw [hv.exec rfl (by rw [ho]; rfl) (by rw [ho]; simp [knownAll, knownL, known, Op.operands, hx])]
      have := run_load1 (w := w) t (g p) off T (cs p) _ hagg (hv.mem.blk k (hM p)) (hc p)
      simp only [execOp, ho, evalL, hx, Option.getD_some, Sem.run_bind, this, Result.andThen_ok, Sem.run_pure]) h
theorem sd_loadN (k : Nat) {t : TypeId} {x : Tmp} {g : (Nat → Pay) → Nat} {T : TypeId} {cs : (Nat → Pay) → Array Value} {D : TypeDesc} (hR : Runs l V l0 i o) (hu : P.underlying t = some D) (hi : ∀ p, (P.info? t).map (·.size) = some (cs p).size) (ho : o.op = .load t (.tmp x)) (hx : ∀ p, look (vlAt l V l0 p i) x = some (.pointer (some ⟨g p, 0, none⟩)))
    (hM : ∀ p, restr (rd.getD i [] ++ (W.getD i []).map (·.1)) (lookM (vmAt W L0 p i)) k = some (ckB (g p) T (cs p))) (hc : ∀ p, .agg (cs p) = (V.getD i fun _ => undef) p) (hD : (match D with | .struct _ | .array _ _ => true | _ => false) = true) (hW : W.getD i [] = []) : SDuty P l Q n olds w0 l0 L0 V W rd i o :=
  sduty_runs hR fun p a w hv K hK => by
    have h := hK (p i) w (by rw [hW]; exact stp_none w)
    rw [upd_same, ← hc p] at h
    refine exec_wp (by
      rw [hv.exec rfl (by rw [ho]; rfl) (by rw [ho]; simp [knownAll, knownL, known, Op.operands, hx])]
      have := run_loadN (w := w) t (g p) T (cs p) D (hv.mem.blk k (hM p)) hu hD (hi p)
      simp only [execOp, ho, evalL, hx, Option.getD_some, Sem.run_bind, this, Result.andThen_ok, Sem.run_pure]) h
theorem sd_store (k off : Nat) {t : TypeId} {x y : Operand} {v : (Nat → Pay) → Value} {g : (Nat → Pay) → Nat} {T : TypeId} {cs : (Nat → Pay) → Array Value} (hR : Runs l V l0 i o) (hsz : ∀ w, (sizeOf t).run P w = .ok 1 w) (ho : o.op = .store t x y) (hx : ∀ p, evalL (vlAt l V l0 p i) x = .pointer (some ⟨g p, off, none⟩)) (hy : ∀ p, evalL (vlAt l V l0 p i) y = v p)
    (hM : ∀ p, restr (rd.getD i [] ++ (W.getD i []).map (·.1)) (lookM (vmAt W L0 p i)) k = some (ckB (g p) T (cs p))) (hc : ∀ p, Nat.blt off (cs p).size = true) (hv1 : ∀ p, (v p).oneCell' = true) (hk : ∀ p, knownAll (vlAt l V l0 p i) #[x, y] = true) (hW : ∀ p, instW (W.getD i []) p = [(k, some (ckB (g p) T ((cs p).setIfInBounds off (v p))))]) (hV : ∀ p, (V.getD i fun _ => undef) p = undef) : SDuty P l Q n olds w0 l0 L0 V W rd i o :=
  sduty_runs hR fun p a w hv K hK => by
    have hb := hv.mem.blk k (hM p)
    have hkw : k ∈ (W.getD i []).map (·.1) := by rw [← instW_names _ p, hW]; simp
    have h := hK (p i) (w.setCell ⟨g p, off, none⟩ (v p)) (by
      rw [upd_same, hW]
      exact stp_set k hb ⟨k, hkw, _, restr_blk (hM p), rfl⟩ off (v p))
    rw [upd_same, hV] at h
    refine exec_wp_skip (by
      rw [hv.exec rfl (by rw [ho]; rfl) (by rw [ho]; exact hk p)]
      have := run_store1 (w := w) t (g p) off T (cs p) (v p) (hv1 p) hsz hb (by simpa [Nat.blt_eq] using hc p)
      simp only [execOp, ho, hx, hy, Sem.run_bind, this, Result.andThen_ok, Sem.run_pure]) h
/-- A new block. -/
theorem sd_new (k : Nat) {v : (Nat → Pay) → Nat → Value} {T : TypeId} {cs : (Nat → Pay) → Array Value} (hR : Runs l V l0 i o) (hr : ∀ p w, (execOp (evalL (vlAt l V l0 p i)) o).run P w = .ok (.value (v p w.heap.size)) (w.alloc (.cells (cs p) T))) (hs : noSel o.op = true) (hk : ∀ p, knownAll (vlAt l V l0 p i) o.op.operands = true)
    (hV : ∀ p x, (V.getD i fun _ => undef) (upd p i x) = v p x.g) (hW : ∀ p x, instW (W.getD i []) (upd p i x) = [(k, some (ckB x.g T (cs p)))]) : SDuty P l Q n olds w0 l0 L0 V W rd i o :=
  sduty_runs hR fun p a w hv K hK => by
    have h := hK ⟨w.heap.size, 0, undef, none⟩ (w.alloc (.cells (cs p) T)) (by rw [hW]; exact stp_alloc k w T (cs p))
    rw [hV] at h
    exact exec_wp (by rw [hv.exec rfl hs (hk p)]; exact hr p w) h
end

/-! ## Rows that grow, and rows of rows -/
section
variable {olds : Nat → Prop} {w0 w w' : World} {L : List (Nat × Option Ck)}
theorem Stp.app (h : Stp olds w0 w (lookM L)) (k : Nat) {base : Nat} {e : TypeId} {size : Nat} {v v' : Value} {n n' : Nat} {xs xs' : List Value} (hk : lookM L k = some (ckR base e size v n xs)) (ho : w'.ownsRow base e size v' n' xs') (hg : w.grownBy w' v.ownBlock) (hor : ∀ g, v'.ownBlock = some g → v.ownBlock = some g ∨ w.heap.size ≤ g) :
    Stp olds w0 w' (lookM ((k, some (ckR base e size v' n' xs')) :: L)) :=
  h.step_ k _ _ hk hg (fun g e => e) ho fun g hgb => ⟨(ho.lt g hgb).2, (hor g hgb).symm⟩
theorem stp_app (k : Nat) {base : Nat} {e : TypeId} {size : Nat} {v v' : Value} {n' : Nat} {xs' : List Value} (ho : w'.ownsRow base e size v' n' xs') (hg : w.grownBy w' v.ownBlock) (hold : ∀ g, v.ownBlock = some g → olds g) (hor : ∀ g, v'.ownBlock = some g → v.ownBlock = some g ∨ w.heap.size ≤ g) :
    Stp olds w w' (lookM [(k, some (ckR base e size v' n' xs'))]) := by
  refine stp_row k ho ?_ fun g hgb => (hor g hgb).symm.imp id (hold g)
  cases hv : v.ownBlock with
  | none => rw [hv] at hg; exact .inl hg
  | some g => rw [hv] at hg; exact .inr ⟨g, hold g hv, hg⟩
theorem own_or {g n cap : Nat} {p : Nat → Prop} (h : p g) : ∀ x, (Value.slice (some ⟨g, 0, none⟩) n cap).ownBlock = some x → p x := fun x hx => by
  have : g = x := by simpa [Value.ownBlock] using hx
  subst this; exact h
/-- Many rows at once. -/
def ckRs (base : Nat) (e : TypeId) (size : Nat) {α : Type} (val : α → Value) (xs : α → List Value) (len : α → Nat) (l : List α) : Ck :=
  ⟨fun g => ∃ x ∈ l, (val x).ownBlock = some g, fun w => ∀ x ∈ l, w.ownsRow base e size (val x) (len x) (xs x), fun w w' h ho x hx => (ckR base e size (val x) (len x) (xs x)).st w w' (fun g hg => h g ⟨x, hx, hg⟩) (ho x hx)⟩
theorem Stp.merge {α : Type} {base : Nat} {e : TypeId} {size : Nat} {val : α → Value} {xs : α → List Value} {len : α → Nat} {l : List α} (h : Stp olds w0 w (lookM L)) (k k' : Nat) (x : α) (hk : lookM L k = some (ckRs base e size val xs len l)) (hk' : lookM L k' = some (ckR base e size (val x) (len x) (xs x))) (hne : k ≠ k') :
    Stp olds w0 w (lookM ((k, some (ckRs base e size val xs len (l ++ [x]))) :: (k', none) :: L)) := by
  have hb1 : Nat.beq k k' = false := by
    cases hb : Nat.beq k k' with
    | false => rfl
    | true => exact absurd (Nat.eq_of_beq_eq_true hb) hne
  have key : ∀ n c, lookM ((k, some (ckRs base e size val xs len (l ++ [x]))) :: (k', none) :: L) n = some c → (n = k ∧ c = ckRs base e size val xs len (l ++ [x])) ∨ (n ≠ k ∧ n ≠ k' ∧ lookM L n = some c) := fun n c hc => by
    unfold lookM at hc
    cases hb : Nat.beq k n with
    | true => rw [hb] at hc; simp only [cond_true, Option.some.injEq] at hc; exact .inl ⟨(Nat.eq_of_beq_eq_true hb).symm, hc.symm⟩
    | false =>
      rw [hb] at hc
      simp only [cond_false] at hc
      unfold lookM at hc
      cases hb2 : Nat.beq k' n with
      | true => rw [hb2] at hc; cases hc
      | false => rw [hb2] at hc; exact .inr ⟨(fun e => by rw [e, Nat.beq_refl] at hb; cases hb), (fun e => by rw [e, Nat.beq_refl] at hb2; cases hb2), hc⟩
  have hb : ∀ g, (ckRs base e size val xs len (l ++ [x])).blks g → (ckRs base e size val xs len l).blks g ∨ (ckR base e size (val x) (len x) (xs x)).blks g := fun g ⟨y, hy, hg⟩ => by
    rcases List.mem_append.1 hy with hy | hy
    · exact .inl ⟨y, hy, hg⟩
    · rw [List.mem_singleton] at hy; subst hy; exact .inr hg
  refine ⟨h.os, h.tape, h.output, h.size, h.kept, fun n c hc => ?_, fun n c hc g hg => ?_, fun n n' c c' hc hc' hnn g hg hg' => ?_⟩
  · rcases key n c hc with ⟨rfl, rfl⟩ | ⟨_, _, hc⟩
    · intro y hy
      rcases List.mem_append.1 hy with hy | hy
      · exact h.ok _ _ hk y hy
      · rw [List.mem_singleton] at hy; subst hy; exact h.ok _ _ hk'
    · exact h.ok n c hc
  · rcases key n c hc with ⟨rfl, rfl⟩ | ⟨_, _, hc⟩
    · rcases hb g hg with hg | hg
      · exact h.lt _ _ hk g hg
      · exact h.lt _ _ hk' g hg
    · exact h.lt n c hc g hg
  · rcases key n c hc with ⟨rfl, rfl⟩ | ⟨h1, h2, hc2⟩ <;> rcases key n' c' hc' with ⟨rfl, rfl⟩ | ⟨h3, h4, hc3⟩
    · exact hnn rfl
    · rcases hb g hg with hg | hg
      · exact h.apart _ _ _ _ hk hc3 hnn g hg hg'
      · exact h.apart _ _ _ _ hk' hc3 (Ne.symm h4) g hg hg'
    · rcases hb g hg' with hg' | hg'
      · exact h.apart _ _ _ _ hc2 hk hnn g hg hg'
      · exact h.apart _ _ _ _ hc2 hk' h2 g hg hg'
    · exact h.apart n n' c c' hc2 hc3 hnn g hg hg'
theorem ckRs_nil (h : Stp olds w0 w (lookM L)) (k : Nat) (base : Nat) (e : TypeId) (size : Nat) {α : Type} (val : α → Value) (xs : α → List Value) (len : α → Nat) : Stp olds w0 w (lookM ((k, some (ckRs base e size val xs len [])) :: L)) :=
  h.then_ (NL := [(k, _)]) (stp_one k _ (.inl (World.grownBy.refl w _)) (fun x hx => by cases hx) fun g ⟨x, hx, _⟩ => by cases hx)
theorem ckR_nil (h : Stp olds w0 w (lookM L)) (k : Nat) (base : Nat) (e : TypeId) (size : Nat) : Stp olds w0 w (lookM ((k, some (ckR base e size (.slice none 0 0) 0 [])) :: L)) :=
  h.then_ (NL := [(k, _)]) (stp_one k _ (.inl (World.grownBy.refl w _)) (World.ownsRow_nil _ _ _ _) fun g hg => by
    have : (Value.slice none 0 0).ownBlock = some g := hg
    simp [Value.ownBlock] at this)
end

/-! ## Short forms: what is always so is found by itself -/
section
variable {P : Program} {n : Nat} {l : List (Nat × Value)} {a : Act} {w0 w : World} {olds : Nat → Prop} {M : Nat → Option Ck} {Q : Exit → Act → World → Prop} {ops : Array Oper} {o : Oper} {rest : List Oper}
theorem sp (hE : Env n l a) (d : Nat) (v : Value) (h : ∀ a', Env n ((d, v) :: l) a' → wpList P ops Q rest a' w) (hr : ∀ w, (execOp (evalL l) o).run P w = .ok (.value v) w := by intro w; kernel_rfl) (hg : o.guard = none := by rfl) (hd : o.dst = some d := by rfl) (hlt : Nat.blt d n = true := by rfl) (hs : noSel o.op = true := by rfl) (hk : knownAll l o.op.operands = true := by rfl) : wpList P ops Q (o :: rest) a w := seq_pure hE d v hr hg hd hlt hs hk h
theorem sl (hE : Env n l a) (hS : Stp olds w0 w M) (d : Nat) (k : Nat) (off : Nat) {v : Value} {t : TypeId} {x : Tmp} {g : Nat} {T : TypeId} {cs : Array Value} (h : ∀ a', Env n ((d, v) :: l) a' → wpList P ops Q rest a' w) (hagg : ∀ w, (isAgg t).run P w = .ok false w := by intro w; kernel_rfl) (ho : o.op = .load t (.tmp x) := by rfl) (hx : look l x = some (.pointer (some ⟨g, off, none⟩)) := by rfl) (hM : M k = some (ckB g T cs) := by rfl) (hc : cs[off]? = some v := by rfl) (hg : o.guard = none := by rfl) (hd : o.dst = some d := by rfl) (hlt : Nat.blt d n = true := by rfl) : wpList P ops Q (o :: rest) a w := seq_load hE hS d k off hagg ho hx hM hc hg hd hlt h
end
end Go.Proofs.YtmmfpgoodfgkbaaGreat
/-
  OPERATIONS, EACH BY ONE WORD: more of them. No condition.
-/
namespace Go.Proofs.YtmmfpgoodfgkbaaGreat
open Go Go.RowKit
set_option linter.unusedVariables false

section
variable {P : Program} {l : List Oper} {Q : Exit → Act → World → Prop} {n : Nat} {olds : Nat → Prop} {w0 w : World} {l0 : List (Nat × Value)} {L0 : List (Nat × Option Ck)} {V : List PV} {W : List PW} {rd : List (List Nat)} {i : Nat} {o : Oper}
theorem sd_storeN (k : Nat) {t : TypeId} {x y : Operand} {new old : (Nat → Pay) → Array Value} {g : (Nat → Pay) → Nat} {T : TypeId} (hR : Runs l V l0 i o) (h1 : ∀ p, (new p).all (·.oneCell') = true) (ho : o.op = .store t x y) (hx : ∀ p, evalL (vlAt l V l0 p i) x = .pointer (some ⟨g p, 0, none⟩)) (hy : ∀ p, evalL (vlAt l V l0 p i) y = .agg (new p))
    (hM : ∀ p, restr (rd.getD i [] ++ (W.getD i []).map (·.1)) (lookM (vmAt W L0 p i)) k = some (ckB (g p) T (old p))) (hs : ∀ p, (old p).size = (new p).size) (hi : ∀ p, (P.info? t).map (·.size) = some (new p).size) (hk : ∀ p, knownAll (vlAt l V l0 p i) #[x, y] = true) (hW : ∀ p, instW (W.getD i []) p = [(k, some (ckB (g p) T (new p)))]) (hV : ∀ p, (V.getD i fun _ => undef) p = undef) : SDuty P l Q n olds w0 l0 L0 V W rd i o :=
  sduty_runs hR fun p a w hv K hK => by
    have hb := hv.mem.blk k (hM p)
    have hkw : k ∈ (W.getD i []).map (·.1) := by rw [← instW_names _ p, hW]; simp
    have hbk := blk_setCells (new p).toList 0 hb
    rw [setFrom_whole (old p) (new p) (hs p)] at hbk
    have hgr := grown_setCells (g p) (new p).toList w 0
    have hrun : (Instr.storeAt t (.pointer (some ⟨g p, 0, none⟩)) (.agg (new p))).run P w = .ok () (w.setCells (g p) 0 (new p).toList) := by
      simp [Instr.storeAt, Instr.sureAddr, run_storeVar_mid (P := P) w (g p) 0 t (new p) (fun j hj => ⟨by rw [Nat.zero_add, hb.cell j, Array.getElem?_eq_getElem (by have := hs p; omega)]; rfl, hb.frozen _⟩) (hi p) (h1 p)]
    have ho2 : blksOf (lookM (vmAt W L0 p i)) ((W.getD i []).map (·.1)) (g p) := ⟨k, hkw, _, restr_blk (hM p), rfl⟩
    have h := hK (p i) (w.setCells (g p) 0 (new p).toList) (by
      rw [upd_same, hW]
      exact stp_blk k hbk (.inr ⟨_, ho2, hgr.1⟩) (.inr ho2))
    rw [upd_same, hV] at h
    refine exec_wp_skip (by
      rw [hv.exec rfl (by rw [ho]; rfl) (by rw [ho]; exact hk p)]
      simp only [execOp, ho, hx, hy, Sem.run_bind, hrun, Result.andThen_ok, Sem.run_pure]) h
end

theorem run_index0 {P : Program} {w : World} {T elem : TypeId} {size : Nat} (hu : P.underlying T = some (.slice elem)) (hsz : ∀ w, (sizeOf elem).run P w = .ok size w) (ad r : Addr) (n c k : Nat) (i : Int) (hi : i = (k : Nat)) (hk : k < n) (hr : ad.add (k * size) = r) :
    (Instr.indexAt T (.slice (some ad) n c) (.int .i64 i)).run P w = .ok (.pointer (some r)) w := by
  subst hi; subst hr
  simp [Instr.indexAt, asIntOf, run_underlying hu, hsz, hk]
theorem results_cell_tmp1 {P : Program} {fn : Func} {p q : Tmp} {ty : TypeId} (h : fn.results = #[.cell p ty, .tmp q]) (tmps : Array Value) (w : World) (g : Nat) (t : TypeId) (cs : Array Value) (d : TypeDesc)
    (hp : tmps[p]? = some (.pointer (some ⟨g, 0, none⟩))) (hb : Blk w g t cs) (hu : P.underlying ty = some d) (hd : (match d with | .struct _ | .array _ _ => true | _ => false) = true) (hi : (P.info? ty).map (·.size) = some cs.size)
    {v1 : Value} (hq : tmps[q]? = some v1) : (results fn tmps).run P w = .ok (.tuple #[.agg cs, v1]) w := by
  simp [results, h, hp, hq, asAddr, run_loadVar_row w g t ty cs (0, 0) d hb hu hd hi]

end Go.Proofs.YtmmfpgoodfgkbaaGreat
