/-
  REGIONS THAT DRAW THEIR ORDER, EACH OPERATION LOOKED AT ONCE: what an operation leaves is a property of its value and of memory; no other operation undoes it; so whatever order is drawn, behind the region all these properties hold. The frame is a variable. Condition: all operations write slots of their own, and each waits only for earlier ones.
-/
import Derived.Test.YtmmfpgoodfgkbaaGreatKit
import Derived.Deep.LoopGhost
import Derived.Test.YtmmfpgoodfgkbaaGreatMPkt
import Derived.Laws.Rows
import Derived.Deep.MidRow
import Derived.Laws.Tables
namespace Go.Proofs.YtmmfpgoodfgkbaaGreat
open Go Go.RowKit

/-- The operations' values laid into their slots, in the order of the text. -/
def putFrom : Nat → List Oper → (Nat → Value) → Act → Act
  | _, [], _, a => a
  | k, o :: l, vs, a => putFrom (k + 1) l vs (a.put o.dst (vs k))

theorem put_size (a : Act) (d : Option Tmp) (v : Value) : (a.put d v).tmps.size = a.tmps.size := by
  cases d <;> simp [Act.put]
theorem put_defers (a : Act) (d : Option Tmp) (v : Value) : (a.put d v).defers = a.defers := by
  cases d <;> rfl
theorem put_at (a : Act) (d : Tmp) (v : Value) (h : d < a.tmps.size) : (a.put (some d) v).tmps[d]? = some v := by
  simp [Act.put, h]
theorem put_ne (a : Act) (d : Option Tmp) (v : Value) (j : Nat) (h : d ≠ some j) : (a.put d v).tmps[j]? = a.tmps[j]? := by
  cases d with
  | none => rfl
  | some d => 
    have hne : d ≠ j := fun e => h (by rw [e])
    simp [Act.put, Array.getElem?_setIfInBounds_ne hne]

theorem putFrom_size : ∀ (l : List Oper) (k : Nat) (vs : Nat → Value) (a : Act), (putFrom k l vs a).tmps.size = a.tmps.size
  | [], _, _, _ => rfl
  | o :: l, k, vs, a => by simp only [putFrom]; rw [putFrom_size l, put_size]
theorem putFrom_defers : ∀ (l : List Oper) (k : Nat) (vs : Nat → Value) (a : Act), (putFrom k l vs a).defers = a.defers
  | [], _, _, _ => rfl
  | o :: l, k, vs, a => by simp only [putFrom]; rw [putFrom_defers l, put_defers]
theorem putFrom_ne : ∀ (l : List Oper) (k : Nat) (vs : Nat → Value) (a : Act) (j : Nat), (∀ o ∈ l, o.dst ≠ some j) → (putFrom k l vs a).tmps[j]? = a.tmps[j]?
  | [], _, _, _, _, _ => rfl
  | o :: l, k, vs, a, j, h => by
    simp only [putFrom]
    rw [putFrom_ne l _ _ _ j (fun o' ho' => h o' (List.mem_cons_of_mem _ ho')), put_ne _ _ _ _ (h o (List.mem_cons_self ..))]

/-- No two operations write one slot. -/
def apartList : List Oper → Bool
  | [] => true
  | o :: l => (match o.dst with | some d => l.all fun o' => o'.dst != some d | none => true) && apartList l

theorem putFrom_at : ∀ (l : List Oper) (k : Nat) (vs : Nat → Value) (a : Act) (i : Nat) (o : Oper) (d : Tmp), apartList l = true → l[i]? = some o → o.dst = some d → d < a.tmps.size → (putFrom k l vs a).tmps[d]? = some (vs (k + i))
  | [], _, _, _, i, _, _, _, h, _, _ => by simp at h
  | o' :: l, k, vs, a, 0, o, d, hap, h, hd, hlt => by
    simp only [List.getElem?_cons_zero, Option.some.injEq] at h
    subst h
    simp only [apartList, hd, Bool.and_eq_true, List.all_eq_true, bne_iff_ne] at hap
    simp only [putFrom]
    rw [putFrom_ne l _ _ _ d (fun o hm => hap.1 o hm), hd, put_at _ _ _ hlt]
    rfl
  | o' :: l, k, vs, a, i + 1, o, d, hap, h, hd, hlt => by
    simp only [List.getElem?_cons_succ] at h
    simp only [apartList, Bool.and_eq_true] at hap
    simp only [putFrom]
    rw [putFrom_at l (k + 1) vs _ i o d hap.2 h hd (by rw [put_size]; exact hlt), show k + 1 + i = k + (i + 1) by omega]

theorem apart_ne : ∀ (l : List Oper) (i j : Nat) (o o' : Oper) (d : Tmp), apartList l = true → l[i]? = some o → l[j]? = some o' → o.dst = some d → i ≠ j → o'.dst ≠ some d
  | [], i, _, _, _, _, _, h, _, _, _ => by simp at h
  | x :: l, 0, 0, _, _, _, _, _, _, _, hne => absurd rfl hne
  | x :: l, 0, j + 1, o, o', d, hap, h, h', hd, _ => by
    simp only [List.getElem?_cons_zero, Option.some.injEq] at h
    subst h
    simp only [List.getElem?_cons_succ] at h'
    simp only [apartList, hd, Bool.and_eq_true, List.all_eq_true, bne_iff_ne] at hap
    exact hap.1 o' (List.mem_of_getElem? h')
  | x :: l, i + 1, 0, o, o', d, hap, h, h', hd, _ => by
    simp only [List.getElem?_cons_zero, Option.some.injEq] at h'
    subst h'
    simp only [List.getElem?_cons_succ] at h
    intro he
    simp only [apartList, he, Bool.and_eq_true, List.all_eq_true, bne_iff_ne] at hap
    exact hap.1 o (List.mem_of_getElem? h) hd
  | x :: l, i + 1, j + 1, o, o', d, hap, h, h', hd, hne => by
    simp only [List.getElem?_cons_succ] at h h'
    simp only [apartList, Bool.and_eq_true] at hap
    exact apart_ne l i j o o' d hap.2 h h' hd (by omega)

/-- All slots below n; each waits only for earlier ones. -/
def plainFrom (md : Region.Mode) (n : Nat) : Nat → List Oper → Bool
  | _, [] => true
  | k, o :: l => o.after.all (fun e => !Region.binds md e || decide (e.on < k)) && (match o.dst with | some d => decide (d < n) | none => true) && plainFrom md n (k + 1) l

theorem plain_spec {md : Region.Mode} : ∀ (n k : Nat) (l : List Oper) (i : Nat) (o : Oper), plainFrom md n k l = true → l[i]? = some o → (∀ e ∈ o.after, Region.binds md e = true → e.on < k + i) ∧ (∀ d, o.dst = some d → d < n)
  | _, _, [], i, _, _, h => by simp at h
  | n, k, x :: l, 0, o, hp, h => by
    simp only [List.getElem?_cons_zero, Option.some.injEq] at h
    subst h
    simp only [plainFrom, Bool.and_eq_true, Array.all_eq_true', Bool.or_eq_true, Bool.not_eq_true', decide_eq_true_eq] at hp
    refine ⟨fun e he hb => (hp.1.1 e he).resolve_left (by rw [hb]; decide), fun d hd => ?_⟩
    have := hp.1.2
    rw [hd] at this
    simpa using this
  | n, k, x :: l, i + 1, o, hp, h => by
    simp only [List.getElem?_cons_succ] at h
    simp only [plainFrom, Bool.and_eq_true] at hp
    have := plain_spec n (k + 1) l i o hp.2 h
    exact ⟨fun e he hb => by have := this.1 e he hb; omega, this.2⟩

/-- An edge by which an operation learns what the other left (not one that merely parts two phases). -/
def tells (e : Edge) : Bool := match e.ground with
  | .phase => false
  | _ => true
/-- What is known of the operations that an operation waits for. -/
def Deps (l : List Oper) (md : Region.Mode) (R : Nat → Value → World → Prop) (vs : Nat → Value) (a : Act) (w : World) : List Edge → Prop
  | [] => True
  | e :: es => ((Region.binds md e && tells e) = true → (match (l[e.on]?).bind (·.dst) with | some d => a.tmps[d]? = some (vs e.on) | none => True) ∧ R e.on (vs e.on) w) ∧ Deps l md R vs a w es

/-- A slot that operation i finds as it was ahead of the region: whoever writes it waits for i. -/
def oldB (l : List Oper) (md : Region.Mode) (i : Nat) (j : Tmp) : Bool := l.all fun o => o.dst != some j || o.after.any fun e => Region.binds md e && e.on == i
/-- Operation k waits for operation i. -/
def waitsN (l : List Oper) (md : Region.Mode) : Nat → Nat → Nat → Bool
  | 0, _, _ => false
  | f + 1, k, i => ((l[k]?).map fun o => o.after.any fun e => Region.binds md e && (e.on == i || waitsN l md f e.on i)).getD false
def waitsB (l : List Oper) (md : Region.Mode) (k i : Nat) : Bool := waitsN l md 3 k i
/-- What operation i undoes nobody but i still wants: whoever waits for it comes ahead of i. -/
def deadB (l : List Oper) (md : Region.Mode) (dead : List (Nat × Nat)) : Bool :=
  dead.all fun x => (List.range l.length).all fun j => j == x.1 || !((l[j]?).map fun o => o.after.any fun e => Region.binds md e && tells e && e.on == x.2).getD false ||
    waitsN l md 3 x.1 j

theorem waits_listed {l : List Oper} {md : Region.Mode} {listed : Array Bool} (hdc : ∀ (i : Nat) (o : Oper), l[i]? = some o → listed.getD i true = true → ∀ e ∈ o.after, Region.binds md e = true → listed.getD e.on true = true) :
    ∀ (f k i : Nat), waitsN l md f k i = true → listed.getD k true = true → listed.getD i true = true
  | 0, _, _, h, _ => by simp [waitsN] at h
  | f + 1, k, i, h, hk => by
    unfold waitsN at h
    cases ho : l[k]? with
    | none => rw [ho] at h; simp at h
    | some o =>
      rw [ho] at h
      simp only [Option.map_some, Option.getD_some, Array.any_eq_true', Bool.and_eq_true, Bool.or_eq_true, beq_iff_eq] at h
      obtain ⟨e, h1, h2, h3⟩ := h
      have h4 := hdc k o ho hk e h1 h2
      rcases h3 with h3 | h3
      · rw [← h3]; exact h4
      · exact waits_listed hdc f e.on i h3 h4

/-- All of some operations wait for operation i. -/
def earlyB (l : List Oper) (md : Region.Mode) (brk : List Nat) (i : Nat) : Bool := brk.all fun k => k == i || waitsB l md k i
theorem waits_no {l : List Oper} {md : Region.Mode} {k i : Nat} {p : Prop} (h : waitsB l md k i = true) (hw : waitsB l md k i = false) : p := by rw [h] at hw; cases hw

/-- One operation waits for another, over whatever many steps. -/
inductive Waits (l : List Oper) (md : Region.Mode) : Nat → Nat → Prop
  | step {i j : Nat} (h : waitsB l md i j = true) : Waits l md i j
  | trans {i k j : Nat} (h1 : Waits l md i k) (h2 : Waits l md k j) : Waits l md i j
theorem waits_all {l : List Oper} {md : Region.Mode} {listed : Array Bool}
    (hdc : ∀ (i : Nat) (o : Oper), l[i]? = some o → listed.getD i true = true → ∀ e ∈ o.after, Region.binds md e = true → listed.getD e.on true = true) {i j : Nat} (h : Waits l md i j) : listed.getD i true = true → listed.getD j true = true := by
  induction h with
  | step h => exact fun hi => waits_listed hdc 3 _ _ h hi
  | trans _ _ h1 h2 => exact fun hi => h2 (h1 hi)

/-- One operation's duty. -/
def DutyJ (P : Program) (l : List Oper) (md : Region.Mode) (Q : Exit → Act → World → Prop) (a₀ : Act) (J : Nat → World → Prop) (C : World → Prop) (R : Nat → Value → World → Prop) (T : Nat → World → World → Prop) (i : Nat) (o : Oper) : Prop :=
  ∀ (vs : Nat → Value) (a : Act) (w : World), (∀ j, oldB l md i j = true → a.tmps[j]? = a₀.tmps[j]?) → J i w → C w → Deps l md R vs a w o.after.toList →
    ∀ K : Act → World → Prop, (∀ v w', C w' → R i v w' → T i w w' → K (a.put o.dst v) w') → if Region.wanted o (yielded l.toArray a.tmps) = true then o.wp P a w K Q else K (a.put o.dst undef) w
def DutiesJ (P : Program) (l : List Oper) (md : Region.Mode) (Q : Exit → Act → World → Prop) (a₀ : Act) (J : Nat → World → Prop) (C : World → Prop) (R : Nat → Value → World → Prop) (T : Nat → World → World → Prop) : Nat → List Oper → Prop
  | _, [] => True
  | i, o :: os => DutyJ P l md Q a₀ J C R T i o ∧ DutiesJ P l md Q a₀ J C R T (i + 1) os

section
variable {P : Program} {l : List Oper} {md : Region.Mode} {Q : Exit → Act → World → Prop} {a₀ : Act} {J : Nat → World → Prop} {C : World → Prop} {R : Nat → Value → World → Prop} {T : Nat → World → World → Prop}
theorem DutiesJ.at_ : ∀ (k : Nat) (os : List Oper) (i : Nat) (o : Oper), DutiesJ P l md Q a₀ J C R T k os → os[i]? = some o → DutyJ P l md Q a₀ J C R T (k + i) o
  | _, [], i, _, _, h => by simp at h
  | k, x :: os, 0, o, hd, h => by
    simp only [List.getElem?_cons_zero, Option.some.injEq] at h
    subst h
    exact hd.1
  | k, x :: os, i + 1, o, hd, h => by
    simp only [List.getElem?_cons_succ] at h
    have := DutiesJ.at_ (k + 1) os i o hd.2 h
    rwa [show k + 1 + i = k + (i + 1) by omega] at this

theorem deps_of {vs : Nat → Value} {a : Act} {w : World} : ∀ (es : List Edge), (∀ e ∈ es, (Region.binds md e && tells e) = true → (∀ (o : Oper) d, l[e.on]? = some o → o.dst = some d → a.tmps[d]? = some (vs e.on)) ∧ R e.on (vs e.on) w) → Deps l md R vs a w es
  | [], _ => trivial
  | e :: es, h => by
    refine ⟨fun hb => ⟨?_, (h e (List.mem_cons_self ..) hb).2⟩, deps_of es fun e' he' => h e' (List.mem_cons_of_mem _ he')⟩
    cases ho : l[e.on]? with
    | none => simp
    | some o =>
      cases hd : o.dst with
      | none => simp [hd]
      | some d =>
        have := (h e (List.mem_cons_self ..) hb).1 o d ho hd
        simp [hd, this]

theorem duty_plainJ {i : Nat} {o : Oper} (hg : o.guard = none)
    (h : ∀ (vs : Nat → Value) (a : Act) (w : World), (∀ j, oldB l md i j = true → a.tmps[j]? = a₀.tmps[j]?) → J i w → C w → Deps l md R vs a w o.after.toList → ∀ K : Act → World → Prop, (∀ v w', C w' → R i v w' → T i w w' → K (a.put o.dst v) w') → o.wp P a w K Q) : DutyJ P l md Q a₀ J C R T i o :=
  fun vs a w hF hI hC hD K hK => by rw [if_pos (by simp [Region.wanted, hg])]; exact h vs a w hF hI hC hD K hK
/-- A guarded operation: the guarding one has left a Bool. -/
theorem duty_guardedJ {i : Nat} {o : Oper} (g : Nat) (want : Bool) (dg : Tmp) (hg : o.guard = some (g, want)) (hdg : (l[g]?).bind (·.dst) = some dg)
    (h : ∀ (vs : Nat → Value) (a : Act) (w : World), (∀ j, oldB l md i j = true → a.tmps[j]? = a₀.tmps[j]?) → J i w → C w → Deps l md R vs a w o.after.toList → ∃ b, a.tmps[dg]? = some (.bool b) ∧
      ∀ K : Act → World → Prop, (∀ v w', C w' → R i v w' → T i w w' → K (a.put o.dst v) w') → if b = want then o.wp P a w K Q else K (a.put o.dst undef) w) : DutyJ P l md Q a₀ J C R T i o :=
  fun vs a w hF hI hC hD K hK => by
    obtain ⟨b, hb, h2⟩ := h vs a w hF hI hC hD
    have hy : yielded l.toArray a.tmps g = some b := by
      unfold yielded
      rw [show (l.toArray[g]?).bind (·.dst) = some dg by simpa using hdg]
      simp [hb]
    have := h2 K hK
    by_cases hbw : b = want
    · rw [if_pos hbw] at this
      rw [if_pos (by simp [Region.wanted, hg, hy, hbw])]
      exact this
    · rw [if_neg hbw] at this
      rw [if_neg (by simp [Region.wanted, hg, hy, hbw])]
      exact this

/-- What the frame is behind the operations that have come up. -/
structure Mid (l : List Oper) (vs : Nat → Value) (listed : Array Bool) (a a' : Act) : Prop where
  size : a'.tmps.size = a.tmps.size
  defers : a'.defers = a.defers
  at_ : ∀ (k : Nat) (o : Oper) d, l[k]? = some o → o.dst = some d → listed.getD k true = true → a'.tmps[d]? = some (vs k)
  ne : ∀ j, (∀ (k : Nat) (o : Oper), l[k]? = some o → listed.getD k true = true → o.dst ≠ some j) → a'.tmps[j]? = a.tmps[j]?

theorem getD_lt {listed : Array Bool} {k : Nat} (h : k < listed.size) (b : Bool) : listed.getD k b = listed[k] := by
  simp [Array.getD, h]

theorem count_pos {listed : Array Bool} {i : Nat} (hi : i < listed.size) (h : listed.getD i true = false) : (listed.setIfInBounds i true).toList.count false + 1 = listed.toList.count false := by
  have hg : listed.toList[i]'(by simpa using hi) = false := by simpa [getD_lt hi] using h
  have := List.count_set (a := true) (b := false) (l := listed.toList) (i := i) (by simpa using hi)
  have hpos : 0 < listed.toList.count false := List.count_pos_iff.2 (by rw [← hg]; exact List.getElem_mem _)
  rw [Array.toList_setIfInBounds, this, hg]
  have e1 : (if (true == false) = true then 1 else 0) = 0 := rfl
  have e2 : (if (false == false) = true then 1 else 0) = 1 := rfl
  rw [e1, e2]
  omega

theorem all_listed {n : Nat} {listed : Array Bool} (hp : plainFrom md n 0 l = true) (hs : listed.size = l.length) (hr : Region.ready md l.toArray listed = []) : ∀ k, k < l.length → listed.getD k true = true := by
  intro k
  induction k using Nat.strongRecOn with
  | _ k ih =>
    intro hk
    by_cases hl : listed.getD k true = true
    · exact hl
    · exfalso
      have hl : listed.getD k true = false := by simpa using hl
      have ho : l[k]? = some l[k] := List.getElem?_eq_getElem hk
      have hsp := plain_spec n 0 l k _ hp ho
      have hm : k ∈ Region.ready md l.toArray listed := by
        refine mem_ready.2 ⟨?_, l[k], by simp, fun e he hb => ?_⟩
        · exact hl
        · have h1 := hsp.1 e he hb
          have h2 := ih e.on (by omega) (by omega)
          have h3 : e.on < listed.size := by omega
          rw [getD_lt h3] at h2 ⊢
          exact h2
      rw [hr] at hm
      cases hm

/-- All have come up: the frame is known. -/
theorem Mid.put {n : Nat} {vs : Nat → Value} {a a' : Act} (hp : plainFrom md n 0 l = true) (hap : apartList l = true) (hn : a.tmps.size = n) (hm : Mid l vs (Array.replicate l.length true) a a') : a' = putFrom 0 l vs a := by
  have h1 : a'.tmps = (putFrom 0 l vs a).tmps := by
    apply Array.ext_getElem?
    intro j
    by_cases hj : ∃ (k : Nat) (o : Oper), l[k]? = some o ∧ o.dst = some j
    · obtain ⟨k, o, ho, hdst⟩ := hj
      have hkl : k < l.length := (List.getElem?_eq_some_iff.1 ho).1
      rw [hm.at_ k o j ho hdst (by rw [getD_lt (by simpa using hkl)]; simp), putFrom_at l 0 vs a k o j hap ho hdst (by rw [hn]; exact (plain_spec n 0 l k o hp ho).2 j hdst), Nat.zero_add]
    · have hj' : ∀ (k : Nat) (o : Oper), l[k]? = some o → o.dst ≠ some j := fun k o ho he => hj ⟨k, o, ho, he⟩
      rw [hm.ne j (fun k o ho _ => hj' k o ho), putFrom_ne l 0 vs a j (fun o ho => by obtain ⟨k, hk⟩ := List.mem_iff_getElem?.1 ho; exact hj' k o hk)]
  have h2 : a'.defers = (putFrom 0 l vs a).defers := by rw [hm.defers, putFrom_defers]
  cases a'
  cases hput : putFrom 0 l vs a
  rw [hput] at h1 h2
  simp only at h1 h2
  subst h1 h2
  rfl
theorem Mid.slot {vs : Nat → Value} {a a' : Act} (hm : Mid l vs (Array.replicate l.length true) a a') (k : Nat) (d : Tmp) (h : (l[k]?).bind (·.dst) = some d) : a'.tmps[d]? = some (vs k) := by
  cases ho : l[k]? with
  | none => rw [ho] at h; cases h
  | some o =>
    rw [ho] at h
    have hkl : k < l.length := (List.getElem?_eq_some_iff.1 ho).1
    exact hm.at_ k o d ho h (by rw [getD_lt (by simpa using hkl)]; simp)
theorem Mid.old {vs : Nat → Value} {a a' : Act} {b : Array Bool} (hm : Mid l vs b a a') (j : Nat) (h : (l.all fun o => o.dst != some j) = true) : a'.tmps[j]? = a.tmps[j]? := hm.ne j fun _ o ho _ => by
  have := (List.all_eq_true.1 h) o (List.mem_of_getElem? ho)
  simpa using this

theorem wpAny_inv {n : Nat} {dead : List (Nat × Nat)} (hp : plainFrom md n 0 l = true) (hap : apartList l = true) (hdead : deadB l md dead = true) (hn : a₀.tmps.size = n)
    (hk : ∀ i k v w w', i ≠ k → (i, k) ∉ dead → ¬ Waits l md k i → C w → T i w w' → R k v w → R k v w')
    (hkI : ∀ i j w w', i ≠ j → ¬ Waits l md i j → C w → T i w w' → J j w → J j w')
    (hd : DutiesJ P l md Q a₀ J C R T 0 l)
    (he : ∀ vs a' w', C w' → Mid l vs (Array.replicate l.length true) a₀ a' → (∀ k, k < l.length → (∀ i, (i, k) ∉ dead) → R k (vs k) w') → Q .normal a' w') :
    ∀ (fuel : Nat) (listed : Array Bool) (vs : Nat → Value) (a' : Act) (w' : World), listed.size = l.length → listed.toList.count false = fuel → Mid l vs listed a₀ a' → C w' → (∀ j, j < l.length → listed.getD j true = false → J j w') →
      (∀ (i : Nat) (o : Oper), l[i]? = some o → listed.getD i true = true → ∀ e ∈ o.after, Region.binds md e = true → listed.getD e.on true = true) →
      (∀ k, k < l.length → listed.getD k true = true → (∀ i, i < l.length → listed.getD i true = true → (i, k) ∉ dead) → R k (vs k) w') →
      wpAny P md l.toArray Q fuel listed a' w' := by
  have hdead' : ∀ (i k j : Nat) (o : Oper), (i, k) ∈ dead → l[j]? = some o → j ≠ i → (∃ e ∈ o.after, (Region.binds md e && tells e) = true ∧ e.on = k) → waitsN l md 3 i j = true := by
    intro i k j o hm ho hji ⟨e, he1, he2, he3⟩
    have h1 := (List.all_eq_true.1 hdead) (i, k) hm
    have h2 := (List.all_eq_true.1 h1) j (by simpa using (List.getElem?_eq_some_iff.1 ho).1)
    simp only [Bool.or_eq_true, beq_iff_eq, hji, false_or, ho, Option.map_some, Option.getD_some, Bool.not_eq_true', Array.any_eq_false'] at h2
    rcases h2 with h2 | h2
    · exact absurd (by simp [he2, he3]) (h2 e he1)
    · exact h2
  have hdone : ∀ (listed : Array Bool) (vs : Nat → Value) (a' : Act) (w' : World), listed.size = l.length → (∀ k, k < l.length → listed.getD k true = true) → Mid l vs listed a₀ a' → C w' →
      (∀ k, k < l.length → listed.getD k true = true → (∀ i, i < l.length → listed.getD i true = true → (i, k) ∉ dead) → R k (vs k) w') → Q .normal a' w' := by
    intro listed vs a' w' hs hall hm hC hR
    exact he vs a' w' hC ⟨hm.size, hm.defers, fun k o d h1 h2 _ => hm.at_ k o d h1 h2 (hall k (List.getElem?_eq_some_iff.1 h1).1), fun j hj => hm.ne j fun k o h1 _ => hj k o h1 (by rw [getD_lt (by simpa using (List.getElem?_eq_some_iff.1 h1).1)]; simp)⟩
      fun k hkl hno => hR k hkl (hall k hkl) fun i _ _ => hno i
  intro fuel
  induction fuel with
  | zero =>
    intro listed vs a' w' hs hc hm hC hIw hdc hR
    have hall : ∀ k, k < l.length → listed.getD k true = true := by
      intro k hkl
      have h0 : false ∉ listed.toList := List.count_eq_zero.1 hc
      have hlt : k < listed.size := by omega
      rw [getD_lt hlt]
      cases hb : listed[k]
      · exact absurd (by rw [← hb]; simp) h0
      · rfl
    refine ⟨?_, hdone listed vs a' w' hs hall hm hC hR⟩
    apply List.eq_nil_iff_forall_not_mem.2
    intro i hi
    obtain ⟨h1, o, ho, _⟩ := mem_ready.1 hi
    have hlt : i < l.length := by simpa using (Array.getElem?_eq_some_iff.1 ho).1
    rw [hall i hlt] at h1
    cases h1
  | succ fuel ih =>
    intro listed vs a' w' hs hc hm hC hIw hdc hR
    refine ⟨fun hr => hdone listed vs a' w' hs (all_listed hp hs hr) hm hC hR, fun i hi => ?_⟩
    obtain ⟨hun, o, ho, hall⟩ := mem_ready.1 hi
    have ho' : l[i]? = some o := by simpa using ho
    have hlt : i < l.length := (List.getElem?_eq_some_iff.1 ho').1
    have hsp := plain_spec n 0 l i o hp ho'
    have hduty := DutiesJ.at_ 0 l i o hd ho'
    rw [Nat.zero_add] at hduty
    have hset : ∀ k, k < l.length → k ≠ i → ((listed.setIfInBounds i true).getD k true = true ↔ listed.getD k true = true) := by
      intro k hkl hki
      have hks : k < listed.size := by omega
      rw [getD_lt hks, getD_lt (by simpa using hks), Array.getElem_setIfInBounds_ne hks (Ne.symm hki)]
    have hF' : ∀ j, oldB l md i j = true → a'.tmps[j]? = a₀.tmps[j]? := by
      intro j hj
      refine hm.ne j fun k ok hok hlk hdst => ?_
      have h1 := (List.all_eq_true.1 hj) ok (List.mem_of_getElem? hok)
      simp only [hdst, bne_self_eq_false, Bool.false_or, Array.any_eq_true', Bool.and_eq_true, beq_iff_eq] at h1
      obtain ⟨e, h2, h3, h4⟩ := h1
      have h5 := hdc k ok hok hlk e h2 h3
      rw [h4] at h5
      rw [h5] at hun
      cases hun
    have hdeps : Deps l md R vs a' w' o.after.toList := by
      refine deps_of _ fun e hem hbt => ?_
      have hb : Region.binds md e = true := by simp only [Bool.and_eq_true] at hbt; exact hbt.1
      have hem' : e ∈ o.after := by simpa using hem
      have hon := hsp.1 e hem' hb
      have hl := hall e hem' hb
      have hlt' : e.on < listed.size := by omega
      have hl' : listed.getD e.on true = true := by rw [getD_lt hlt'] at hl ⊢; exact hl
      refine ⟨fun o' d h1 h2 => hm.at_ e.on o' d h1 h2 hl', hR e.on (by omega) hl' fun x hx hlx hmem => ?_⟩
      have hxi : i ≠ x := fun e' => by rw [← e'] at hlx; rw [hlx] at hun; cases hun
      have h5 := waits_listed hdc 3 x i (hdead' x e.on i o hmem ho' hxi ⟨e, hem', hbt, rfl⟩) hlx
      rw [h5] at hun
      cases hun
    have hI' : J i w' := hIw i hlt hun
    have hdc' : ∀ (k : Nat) (ok : Oper), l[k]? = some ok → (listed.setIfInBounds i true).getD k true = true → ∀ e ∈ ok.after, Region.binds md e = true → (listed.setIfInBounds i true).getD e.on true = true := by
      intro k ok hok hlk e he1 he2
      by_cases hei : e.on = i
      · rw [hei, getD_lt (by simpa using (by omega : i < listed.size))]
        simp
      · have hkl : k < l.length := (List.getElem?_eq_some_iff.1 hok).1
        have hek := (plain_spec n 0 l k ok hp hok).1 e he1 he2
        refine (hset e.on (by omega) hei).2 ?_
        by_cases hki : k = i
        · subst hki
          rw [ho'] at hok
          injection hok with hok
          subst hok
          have h6 := hall e he1 he2
          have hlt' : e.on < listed.size := by omega
          rw [getD_lt hlt'] at h6 ⊢
          exact h6
        · exact hdc k ok hok ((hset k hkl hki).1 hlk) e he1 he2
    have hwp := hduty vs a' w' hF' hI' hC hdeps (wpAny P md l.toArray Q fuel (listed.setIfInBounds i true)) fun v w'' hC'' hRi hT => by
      refine ih (listed.setIfInBounds i true) (fun k => if k = i then v else vs k) _ w'' (by simpa using hs) ?_ ?_ hC'' ?_ ?_ ?_
      · have := count_pos (listed := listed) (i := i) (by omega) hun
        omega
      · refine ⟨by rw [put_size]; exact hm.size, by rw [put_defers]; exact hm.defers, fun k o' d h1 h2 h3 => ?_, fun j hj => ?_⟩
        · by_cases hki : k = i
          · subst hki
            rw [ho'] at h1
            injection h1 with h1
            subst h1
            rw [if_pos rfl, h2, put_at _ _ _ (by rw [hm.size, hn]; exact hsp.2 d h2)]
          · rw [if_neg hki]
            have h4 : o.dst ≠ some d := apart_ne l k i o' o d hap h1 ho' h2 hki
            rw [put_ne _ _ _ _ h4]
            exact hm.at_ k o' d h1 h2 ((hset k (List.getElem?_eq_some_iff.1 h1).1 hki).1 h3)
        · have hii : (listed.setIfInBounds i true).getD i true = true := by
            rw [getD_lt (by simpa using (by omega : i < listed.size))]
            simp
          rw [put_ne _ _ _ _ (hj i o ho' hii)]
          refine hm.ne j fun k ok hok hlk => ?_
          by_cases hki : k = i
          · subst hki
            exact hj k ok hok hii
          · exact hj k ok hok ((hset k (List.getElem?_eq_some_iff.1 hok).1 hki).2 hlk)
      · intro j hjl hju
        have hji : j ≠ i := by
          intro e
          rw [e, getD_lt (by simpa using (by omega : i < listed.size))] at hju
          simp at hju
        have hju0 : listed.getD j true = false := by
          cases hb : listed.getD j true with
          | false => rfl
          | true => rw [(hset j hjl hji).2 hb] at hju; cases hju
        refine hkI i j w' w'' (Ne.symm hji) ?_ hC hT (hIw j hjl hju0)
        intro hb
        have hii : (listed.setIfInBounds i true).getD i true = true := by
          rw [getD_lt (by simpa using (by omega : i < listed.size))]
          simp
        rw [waits_all hdc' hb hii] at hju
        cases hju
      · exact hdc'
      · intro k hkl h3 hno
        by_cases hki : k = i
        · subst hki
          rw [if_pos rfl]
          exact hRi
        · rw [if_neg hki]
          have hii : (listed.setIfInBounds i true).getD i true = true := by
            rw [getD_lt (by simpa using (by omega : i < listed.size))]
            simp
          have hnw : ¬ Waits l md k i := fun hb => by
            have h5 := waits_all hdc hb ((hset k hkl hki).1 h3)
            rw [h5] at hun
            cases hun
          refine hk i k _ w' w'' (Ne.symm hki) (hno i hlt hii) hnw hC hT (hR k hkl ((hset k hkl hki).1 h3) fun x hx hlx => ?_)
          refine hno x hx ?_
          by_cases hxi : x = i
          · rw [hxi]; exact hii
          · exact (hset x hx hxi).2 hlx
    unfold wpOp
    rw [ho]
    show if Region.wanted o (yielded l.toArray a'.tmps) = true then _ else _
    split
    · rename_i hw
      rw [if_pos hw] at hwp
      exact .inl hwp
    · rename_i hw
      rw [if_neg hw] at hwp
      exact hwp

/-- **A REGION THAT DRAWS ITS ORDER.** C: what is known of memory throughout; R i v: what operation i leaves; T i: how operation i turns memory; dead: (i, k): operation i undoes what k left. -/
theorem wp_region_midJ {id : Nat} {n : Nat} {w : World} (dead : List (Nat × Nat)) (hm : P.follows .mixedOrders = true) (hp : plainFrom .any n 0 l = true) (hap : apartList l = true) (hdead : deadB l .any dead = true) (hn : a₀.tmps.size = n)
    (J : Nat → World → Prop) (C : World → Prop) (R : Nat → Value → World → Prop) (T : Nat → World → World → Prop)
    (hI : ∀ i, J i w.drew) (hC : C w.drew)
    (hk : ∀ i k v w w', i ≠ k → (i, k) ∉ dead → ¬ Waits l .any k i → C w → T i w w' → R k v w → R k v w')
    (hkI : ∀ i j w w', i ≠ j → ¬ Waits l .any i j → C w → T i w w' → J j w → J j w')
    (hd : DutiesJ P l .any Q a₀ J C R T 0 l)
    (he : ∀ vs a' w', C w' → Mid l vs (Array.replicate l.length true) a₀ a' → (∀ k, k < l.length → (∀ i, (i, k) ∉ dead) → R k (vs k) w') → Q .normal a' w') : (Code.region id l.toArray true).wp P Q a₀ w := by
  refine wp_region_any hm ?_
  have hno : ∀ k, k < l.length → (Array.replicate l.toArray.size false).getD k true = true → False := by
    intro k hkl h3
    rw [getD_lt (by simpa using hkl)] at h3
    simp at h3
  refine wpAny_inv hp hap hdead hn hk hkI hd he l.toArray.size (Array.replicate l.toArray.size false) (fun _ => undef) a₀ _ (by simp) (by simp) ⟨rfl, rfl, fun k o d h1 _ h3 => ?_, fun _ _ => rfl⟩ hC (fun j _ _ => hI j) (fun k o h1 h3 => ?_) fun k hkl h3 => ?_
  · exact (hno k (List.getElem?_eq_some_iff.1 h1).1 h3).elim
  · exact (hno k (List.getElem?_eq_some_iff.1 h1).1 h3).elim
  · exact (hno k hkl h3).elim
/-- The same, the frame behind it written out. -/
theorem wp_region_invJ {id : Nat} {n : Nat} {w : World} (dead : List (Nat × Nat)) (hm : P.follows .mixedOrders = true) (hp : plainFrom .any n 0 l = true) (hap : apartList l = true) (hdead : deadB l .any dead = true) (hn : a₀.tmps.size = n)
    (J : Nat → World → Prop) (C : World → Prop) (R : Nat → Value → World → Prop) (T : Nat → World → World → Prop)
    (hI : ∀ i, J i w.drew) (hC : C w.drew)
    (hk : ∀ i k v w w', i ≠ k → (i, k) ∉ dead → ¬ Waits l .any k i → C w → T i w w' → R k v w → R k v w')
    (hkI : ∀ i j w w', i ≠ j → ¬ Waits l .any i j → C w → T i w w' → J j w → J j w')
    (hd : DutiesJ P l .any Q a₀ J C R T 0 l)
    (he : ∀ vs w', C w' → (∀ k, k < l.length → (∀ i, (i, k) ∉ dead) → R k (vs k) w') → Q .normal (putFrom 0 l vs a₀) w') : (Code.region id l.toArray true).wp P Q a₀ w :=
  wp_region_midJ dead hm hp hap hdead hn J C R T hI hC hk hkI hd fun vs a' w' h1 h2 h3 => by rw [h2.put hp hap hn]; exact he vs w' h1 h3
end


/-- The same, one fact of the beginning that some operations break. -/
def Early (l : List Oper) (md : Region.Mode) (brk : List Nat) (I : World → Prop) (i : Nat) (w : World) : Prop := earlyB l md brk i = true → I w
abbrev Duty (P : Program) (l : List Oper) (md : Region.Mode) (Q : Exit → Act → World → Prop) (a₀ : Act) (brk : List Nat) (I C : World → Prop) (R : Nat → Value → World → Prop) (T : Nat → World → World → Prop) (i : Nat) (o : Oper) : Prop := DutyJ P l md Q a₀ (Early l md brk I) C R T i o
abbrev Duties (P : Program) (l : List Oper) (md : Region.Mode) (Q : Exit → Act → World → Prop) (a₀ : Act) (brk : List Nat) (I C : World → Prop) (R : Nat → Value → World → Prop) (T : Nat → World → World → Prop) (i : Nat) (os : List Oper) : Prop := DutiesJ P l md Q a₀ (Early l md brk I) C R T i os
section
variable {P : Program} {l : List Oper} {md : Region.Mode} {Q : Exit → Act → World → Prop} {a₀ : Act} {brk : List Nat} {I C : World → Prop} {R : Nat → Value → World → Prop} {T : Nat → World → World → Prop}
theorem duty_plain {i : Nat} {o : Oper} (hg : o.guard = none)
    (h : ∀ (vs : Nat → Value) (a : Act) (w : World), (∀ j, oldB l md i j = true → a.tmps[j]? = a₀.tmps[j]?) → (earlyB l md brk i = true → I w) → C w → Deps l md R vs a w o.after.toList → ∀ K : Act → World → Prop, (∀ v w', C w' → R i v w' → T i w w' → K (a.put o.dst v) w') → o.wp P a w K Q) : Duty P l md Q a₀ brk I C R T i o := duty_plainJ hg h
theorem duty_guarded {i : Nat} {o : Oper} (g : Nat) (want : Bool) (dg : Tmp) (hg : o.guard = some (g, want)) (hdg : (l[g]?).bind (·.dst) = some dg)
    (h : ∀ (vs : Nat → Value) (a : Act) (w : World), (∀ j, oldB l md i j = true → a.tmps[j]? = a₀.tmps[j]?) → (earlyB l md brk i = true → I w) → C w → Deps l md R vs a w o.after.toList → ∃ b, a.tmps[dg]? = some (.bool b) ∧
      ∀ K : Act → World → Prop, (∀ v w', C w' → R i v w' → T i w w' → K (a.put o.dst v) w') → if b = want then o.wp P a w K Q else K (a.put o.dst undef) w) : Duty P l md Q a₀ brk I C R T i o := duty_guardedJ g want dg hg hdg h
theorem keep_of {dead : List (Nat × Nat)} (hk : ∀ i k v w w', i ≠ k → (i, k) ∉ dead → waitsB l md k i = false → C w → T i w w' → R k v w → R k v w') : ∀ i k v w w', i ≠ k → (i, k) ∉ dead → ¬ Waits l md k i → C w → T i w w' → R k v w → R k v w' :=
  fun i k v w w' h1 h2 h3 => hk i k v w w' h1 h2 (by
    cases hb : waitsB l md k i with
    | false => rfl
    | true => exact absurd (.step hb) h3)
theorem early_keep (hkI : ∀ i w w', i ∉ brk → C w → T i w w' → I w → I w') : ∀ i j w w', i ≠ j → ¬ Waits l md i j → C w → T i w w' → Early l md brk I j w → Early l md brk I j w' := by
  intro i j w w' hij hw hC hT hJ he
  refine hkI i w w' (fun hib => ?_) hC hT (hJ he)
  have h1 := (List.all_eq_true.1 he) i hib
  simp only [Bool.or_eq_true, beq_iff_eq, hij, false_or] at h1
  exact hw (.step h1)
theorem wp_region_mid {id : Nat} {n : Nat} {w : World} (dead : List (Nat × Nat)) (hm : P.follows .mixedOrders = true) (hp : plainFrom .any n 0 l = true) (hap : apartList l = true) (hdead : deadB l .any dead = true) (hn : a₀.tmps.size = n)
    (brk : List Nat) (I C : World → Prop) (R : Nat → Value → World → Prop) (T : Nat → World → World → Prop)
    (hI : I w.drew) (hC : C w.drew)
    (hk : ∀ i k v w w', i ≠ k → (i, k) ∉ dead → waitsB l .any k i = false → C w → T i w w' → R k v w → R k v w')
    (hkI : ∀ i w w', i ∉ brk → C w → T i w w' → I w → I w')
    (hd : Duties P l .any Q a₀ brk I C R T 0 l)
    (he : ∀ vs a' w', C w' → Mid l vs (Array.replicate l.length true) a₀ a' → (∀ k, k < l.length → (∀ i, (i, k) ∉ dead) → R k (vs k) w') → Q .normal a' w') : (Code.region id l.toArray true).wp P Q a₀ w :=
  wp_region_midJ dead hm hp hap hdead hn (Early l .any brk I) C R T (fun _ _ => hI) hC (keep_of hk) (early_keep hkI) hd he
theorem wp_region_inv {id : Nat} {n : Nat} {w : World} (dead : List (Nat × Nat)) (hm : P.follows .mixedOrders = true) (hp : plainFrom .any n 0 l = true) (hap : apartList l = true) (hdead : deadB l .any dead = true) (hn : a₀.tmps.size = n)
    (brk : List Nat) (I C : World → Prop) (R : Nat → Value → World → Prop) (T : Nat → World → World → Prop)
    (hI : I w.drew) (hC : C w.drew)
    (hk : ∀ i k v w w', i ≠ k → (i, k) ∉ dead → waitsB l .any k i = false → C w → T i w w' → R k v w → R k v w')
    (hkI : ∀ i w w', i ∉ brk → C w → T i w w' → I w → I w')
    (hd : Duties P l .any Q a₀ brk I C R T 0 l)
    (he : ∀ vs w', C w' → (∀ k, k < l.length → (∀ i, (i, k) ∉ dead) → R k (vs k) w') → Q .normal (putFrom 0 l vs a₀) w') : (Code.region id l.toArray true).wp P Q a₀ w :=
  wp_region_invJ dead hm hp hap hdead hn (Early l .any brk I) C R T (fun _ _ => hI) hC (keep_of hk) (early_keep hkI) hd he
end

/-- Memory is kept but for some blocks, and may grow. -/
def Kept (S : Nat → Prop) (w w' : World) : Prop := w.heap.size ≤ w'.heap.size ∧ ∀ g, g < w.heap.size → ¬ S g → w'.heap[g]? = w.heap[g]?
theorem Kept.refl (S : Nat → Prop) (w : World) : Kept S w w := ⟨Nat.le_refl _, fun _ _ _ => rfl⟩
theorem Kept.alloc (S : Nat → Prop) (w : World) (o : Obj) : Kept S w (w.alloc o) := ⟨by simp, fun g h _ => Below.heap_alloc w o g h⟩
theorem Kept.set_ {S : Nat → Prop} {w w' : World} (h : Kept S w w') (p : Addr) (hp : S p.block) (u : Value) : Kept S w (w'.setCell p u) :=
  ⟨by rw [show (w'.setCell p u).heap.size = w'.heap.size by simp [World.setCell]]; exact h.1, fun g hg hs => (Below.heap_setCell w' p u g (fun e => hs (by rw [e]; exact hp))).trans (h.2 g hg hs)⟩
theorem Kept.of_grown {S : Nat → Prop} {w w' : World} {row : Option Nat} (hg : w.grownBy w' row) (h : ∀ k, row = some k → S k) : Kept S w w' := ⟨hg.size, fun g hl hs => hg.block g hl (fun e => hs (h g e.symm))⟩
theorem Blk.kept {S : Nat → Prop} {w w' : World} {g : Nat} {t : TypeId} {cs : Array Value} (h : Blk w g t cs) (hk : Kept S w w') (hs : ¬ S g) : Blk w' g t cs := (hk.2 g h.lt hs).trans h
end Go.Proofs.YtmmfpgoodfgkbaaGreat
/-
  WALKING WITH A FRAME THAT IS A VARIABLE: of the frame only a list of slots with what they hold is known, the newest first. A walk then costs the same in a frame of ten slots and in one of five hundred. No condition.
-/
namespace Go.Proofs.YtmmfpgoodfgkbaaGreat
open Go Go.RowKit
set_option linter.unusedVariables false

/-- What the list says of a slot. -/
def look : List (Nat × Value) → Nat → Option Value
  | [], _ => none
  | (k, v) :: l, j => bif Nat.beq k j then some v else look l j

def AllAt (a : Act) : List (Nat × Value) → Prop
  | [] => True
  | (j, v) :: l => a.tmps[j]? = some v ∧ AllAt a l

/-- A frame of n slots without deferred calls, of which the list holds. -/
structure Env (n : Nat) (l : List (Nat × Value)) (a : Act) : Prop where
  size : a.tmps.size = n
  defers : a.defers = []
  at_ : ∀ j v, look l j = some v → a.tmps[j]? = some v

section
variable {P : Program} {n : Nat} {l l' : List (Nat × Value)} {a a' : Act} {w : World} {Q : Exit → Act → World → Prop}
theorem Env.get (h : Env n l a) (j : Nat) {v : Value} (hl : look l j = some v) : a.tmps[j]? = some v := h.at_ j v hl
theorem Env.ev (h : Env n l a) (j : Nat) {v : Value} (hl : look l j = some v) : a.eval (.tmp j) = v := by
  simp [Act.eval, h.at_ j v hl]
theorem look_mem : ∀ {l : List (Nat × Value)} {j : Nat} {v : Value}, AllAt a l → look l j = some v → a.tmps[j]? = some v
  | [], _, _, _, h => by simp [look] at h
  | (k, x) :: l, j, v, ha, h => by
    unfold look at h
    cases hb : Nat.beq k j with
    | true =>
      rw [hb] at h
      simp only [cond_true, Option.some.injEq] at h
      have : k = j := Nat.eq_of_beq_eq_true hb
      subst this
      subst h
      exact ha.1
    | false =>
      rw [hb] at h
      exact look_mem ha.2 h
theorem Env.mk' (h1 : a.tmps.size = n) (h2 : a.defers = []) (h3 : AllAt a l) : Env n l a := ⟨h1, h2, fun _ _ h => look_mem h3 h⟩
theorem Env.keep (h : Env n l a) (h3 : AllAt a l') : Env n l' a := Env.mk' h.size h.defers h3
theorem Env.put (h : Env n l a) {d : Nat} (hd : d < n) (v : Value) : Env n ((d, v) :: l) (a.put (some d) v) := by
  refine ⟨by rw [put_size]; exact h.size, by rw [put_defers]; exact h.defers, fun j u hj => ?_⟩
  unfold look at hj
  cases hb : Nat.beq d j with
  | true =>
    rw [hb] at hj
    simp only [cond_true, Option.some.injEq] at hj
    have : d = j := Nat.eq_of_beq_eq_true hb
    subst this
    subst hj
    exact put_at _ _ _ (by rw [h.size]; exact hd)
  | false =>
    rw [hb] at hj
    rw [put_ne _ _ _ _ (fun e => by injection e with e; subst e; simp at hb)]
    exact h.at_ j u hj
theorem Env.enter (args : Array Value) (hn : args.size ≤ n) (h : AllAt ⟨args ++ Array.replicate (n - args.size) undef, []⟩ l) : Env n l ⟨args ++ Array.replicate (n - args.size) undef, []⟩ :=
  Env.mk' (by simp; omega) rfl h

/-- One operation that writes a slot. -/
theorem wpList_val {ops : Array Oper} {o : Oper} {rest : List Oper} (hE : Env n l a) (d : Nat) (hg : o.guard = none) (hlt : Nat.blt d n = true)
    (h : ∀ K : Act → World → Prop, (∀ v w', (∀ a', Env n ((d, v) :: l) a' → wpList P ops Q rest a' w') → K (a.put (some d) v) w') → o.wp P a w K Q) : wpList P ops Q (o :: rest) a w := by
  refine wpList_plain hg fun K hK => h K fun v w' h2 => hK _ _ (h2 _ (hE.put (by simpa [Nat.blt_eq] using hlt) v))
theorem wv {ops : Array Oper} {o : Oper} {rest : List Oper} (hE : Env n l a) (d : Nat)
    (h : ∀ K : Act → World → Prop, (∀ v w', (∀ a', Env n ((d, v) :: l) a' → wpList P ops Q rest a' w') → K (a.put (some d) v) w') → o.wp P a w K Q) (hg : o.guard = none := by rfl) (hlt : Nat.blt d n = true := by rfl) : wpList P ops Q (o :: rest) a w := wpList_val hE d hg hlt h
/-- One operation that writes no slot. -/
theorem wpList_none {ops : Array Oper} {o : Oper} {rest : List Oper} (hg : o.guard = none)
    (h : ∀ K : Act → World → Prop, (∀ v w', wpList P ops Q rest a w' → K (a.put none v) w') → o.wp P a w K Q) : wpList P ops Q (o :: rest) a w :=
  wpList_plain hg fun K hK => h K fun v w' h2 => hK _ _ h2
/-- A guarded operation that is carried out, and one that is passed over. -/
theorem wpList_gval {ops : Array Oper} {o : Oper} {rest : List Oper} (hE : Env n l a) (d : Nat) (g : Nat) (want : Bool) (dg : Nat) (hg : o.guard = some (g, want)) (hdg : (ops[g]?).bind (·.dst) = some dg) (hl : look l dg = some (.bool want)) (hlt : Nat.blt d n = true)
    (h : ∀ K : Act → World → Prop, (∀ v w', (∀ a', Env n ((d, v) :: l) a' → wpList P ops Q rest a' w') → K (a.put (some d) v) w') → o.wp P a w K Q) : wpList P ops Q (o :: rest) a w := by
  have hy : yielded ops a.tmps g = some want := by
    unfold yielded
    rw [hdg]
    simp [hE.get dg hl]
  refine wpList_step fun K hK => ?_
  rw [if_pos (by simp [Region.wanted, hg, hy])]
  exact h K fun v w' h2 => hK _ _ (h2 _ (hE.put (by simpa [Nat.blt_eq] using hlt) v))
theorem wpList_gskip {ops : Array Oper} {o : Oper} {rest : List Oper} (hE : Env n l a) (d : Nat) (g : Nat) (want : Bool) (dg : Nat) (hg : o.guard = some (g, want)) (hd : o.dst = some d) (hdg : (ops[g]?).bind (·.dst) = some dg) (hl : look l dg = some (.bool !want)) (hlt : Nat.blt d n = true)
    (h : ∀ a', Env n ((d, undef) :: l) a' → wpList P ops Q rest a' w) : wpList P ops Q (o :: rest) a w := by
  have hy : yielded ops a.tmps g = some !want := by
    unfold yielded
    rw [hdg]
    simp [hE.get dg hl]
  refine wpList_skip (by simp [Region.wanted, hg, hy]) ?_
  rw [hd]
  exact h _ (hE.put (by simpa [Nat.blt_eq] using hlt) undef)
theorem wp_if {x y : Code} (hE : Env n l a) (j : Nat) {t : Bool} (hl : look l j = some (.bool t)) (h : (if t then x else y).wp P Q a w) : (Code.cond (.tmp j) x y).wp P Q a w := wp_cond (hE.ev j hl) h
theorem wp_if_t {x y : Code} (hE : Env n l a) (j : Nat) (hl : look l j = some (.bool true)) (h : x.wp P Q a w) : (Code.cond (.tmp j) x y).wp P Q a w := wp_cond (hE.ev j hl) h
theorem wp_if_f {x y : Code} (hE : Env n l a) (j : Nat) (hl : look l j = some (.bool false)) (h : y.wp P Q a w) : (Code.cond (.tmp j) x y).wp P Q a w := wp_cond (hE.ev j hl) h

/-- A loop whose relation bears the number of rounds done, at most N. -/
theorem wp_loop_up {c : Code} (N : Nat) (I : Nat → Act → World → Prop) (h0 : I 0 a w)
    (round : ∀ k a w, k ≤ N → I k a w → ∀ K : Act → World → Prop, (∀ a' w', k < N → I (k + 1) a' w' → K a' w') → c.wp P (Exit.then K Q) a w) : (Code.loop c).wp P Q a w :=
  wp_loop_ghost (fun m a w => ∃ k, k ≤ N ∧ m = N - k ∧ I k a w) N ⟨0, Nat.zero_le _, rfl, h0⟩ fun m a w ⟨k, hk, hm, hI⟩ =>
    round k a w hk hI _ fun a' w' hlt hI' => ⟨N - (k + 1), by omega, k + 1, by omega, rfl, hI'⟩
end
end Go.Proofs.YtmmfpgoodfgkbaaGreat
/-
  WORDS FOR WALKS WITH AN OPAQUE FRAME: a whole struct loaded, stored and handed back; append of a source that reads as a list. No condition.
-/
namespace Go.Proofs.YtmmfpgoodfgkbaaGreat
open Go Go.RowKit
set_option linter.unusedVariables false

def setFrom : Array Value → Nat → List Value → Array Value
  | cs, _, [] => cs
  | cs, o, v :: r => setFrom (cs.setIfInBounds o v) (o + 1) r
theorem setFrom_at : ∀ (vs : List Value) (cs : Array Value) (o j : Nat), (setFrom cs o vs)[j]? = if o ≤ j ∧ j < o + vs.length ∧ j < cs.size then vs[j - o]? else cs[j]?
  | [], cs, o, j => by
    simp only [setFrom, List.length_nil]
    rw [if_neg (by omega)]
  | v :: r, cs, o, j => by
    simp only [setFrom]
    rw [setFrom_at r]
    simp only [Array.size_setIfInBounds, List.length_cons]
    by_cases h : o + 1 ≤ j ∧ j < o + 1 + r.length ∧ j < cs.size
    · rw [if_pos h, if_pos (by omega), show j - o = (j - (o + 1)) + 1 by omega, List.getElem?_cons_succ]
    · rw [if_neg h]
      by_cases hj : j = o
      · subst hj
        by_cases hs : j < cs.size
        · rw [if_pos (by omega)]
          simp [hs]
        · rw [if_neg (by omega)]
          simp [hs]
      · rw [if_neg (by omega), Array.getElem?_setIfInBounds_ne (Ne.symm hj)]
theorem setFrom_whole (cs new : Array Value) (h : cs.size = new.size) : setFrom cs 0 new.toList = new := by
  apply Array.ext_getElem?
  intro j
  rw [setFrom_at]
  by_cases hj : j < new.size
  · rw [if_pos (by simp; omega)]
    simp
  · rw [if_neg (by simp; omega)]
    rw [Array.getElem?_eq_none (by omega), Array.getElem?_eq_none (by omega)]
theorem blk_setCells : ∀ (vs : List Value) {w : World} {g : Nat} {t : TypeId} {cs : Array Value} (o : Nat), Blk w g t cs → Blk (w.setCells g o vs) g t (setFrom cs o vs)
  | [], _, _, _, _, _, h => h
  | v :: r, _, _, _, _, o, h => blk_setCells r (o + 1) (h.set_ o v)
theorem grown_setCells (g : Nat) : ∀ (vs : List Value) (w : World) (o : Nat), w.grownBy (w.setCells g o vs) (some g) ∧ (w.setCells g o vs).heap.size = w.heap.size
  | [], w, _ => ⟨World.grownBy.refl w _, rfl⟩
  | v :: r, w, o => by
    have h := grown_setCells g r (w.setCell ⟨g, o, none⟩ v) (o + 1)
    exact ⟨grownBy_trans (grownBy_setCell w ⟨g, o, none⟩ v) h.1 (.inl rfl), by rw [show (w.setCells g o (v :: r)) = (w.setCell ⟨g, o, none⟩ v).setCells g (o + 1) r from rfl, h.2]; simp [World.setCell]⟩

section
variable {P : Program} {op : Oper} {a : Act} {w : World} {K : Act → World → Prop} {Q : Exit → Act → World → Prop}
/-- A whole struct stored over a block of its own. -/
theorem wp_store_blk (ty : TypeId) (x y : Operand) (ho : op.op = .store ty x y) (g : Nat) (old new : Array Value) (t : TypeId) (hx : a.eval x = .pointer (some ⟨g, 0, none⟩)) (hy : a.eval y = .agg new)
    (hb : Blk w g t old) (hs : old.size = new.size) (hi : (P.info? ty).map (·.size) = some new.size) (h1 : new.all (·.oneCell') = true)
    (h : ∀ w', Blk w' g t new → w.grownBy w' (some g) → w'.heap.size = w.heap.size → K (a.put op.dst undef) w') : op.wp P a w K Q := by
  refine wp_store_mid ty x y ho g 0 new hx hy (fun j hj => ⟨?_, hb.frozen _⟩) hi h1 ?_
  · rw [Nat.zero_add, hb.cell j, Array.getElem?_eq_getElem (by omega)]
    rfl
  · have hbk := blk_setCells new.toList 0 hb
    rw [setFrom_whole old new hs] at hbk
    exact h _ hbk (grown_setCells g _ _ _).1 (grown_setCells g _ _ _).2
/-- A whole struct loaded from a block of its own. -/
theorem wp_load_blk (ty : TypeId) (x : Operand) (ho : op.op = .load ty x) (g : Nat) (hx : a.eval x = .pointer (some ⟨g, 0, none⟩)) (t : TypeId) (cs : Array Value) (d : TypeDesc) (hb : Blk w g t cs)
    (hu : P.underlying ty = some d) (hd : (match d with | .struct _ | .array _ _ => true | _ => false) = true) (hi : (P.info? ty).map (·.size) = some cs.size)
    (h : K (a.put op.dst (.agg cs)) w) : op.wp P a w K Q := wp_load_row ty x ho g hx t cs (0, 0) d hb hu hd hi h
/-- 'append(s, x...)', the source read as a list; something is there behind it. -/
theorem wp_app_src (s x : Operand) (t : TypeId) (ho : op.op = .call { callee := .builtin .append, args := #[s, x], argTypes := #[t, t] })
    {e : TypeId} {z : Value} {size bytes : Nat} (E : Elem P t e z size bytes) (base : Nat) (v : Value) (n : Nat) (xs : List Value) (B : Nat) (A : Option Addr) (m c : Nat) (news : List Value)
    (hown : w.ownsRow base e size v n xs) (hs : a.eval s = v) (hx : a.eval x = .slice A m c)
    (hr : Reads w B size A m news) (h1 : ∀ u ∈ news, u.oneCell' = true) (hbytes : (n + m) * bytes ≤ 140737488355328) (hbase : base ≤ w.heap.size) (hpos : 0 < n + m)
    (h : ∀ g cap w', w'.ownsRow base e size (.slice (some ⟨g, 0, none⟩) (n + m) cap) (n + m) (xs ++ news) → w.grownBy w' v.ownBlock → (v.ownBlock = some g ∨ w.heap.size ≤ g) → K (a.put op.dst (.slice (some ⟨g, 0, none⟩) (n + m) cap)) w') :
    op.wp P a w K Q := by
  obtain ⟨i, hi, hz, hsz, hby⟩ := info_parts E.info
  have hle : n + m ≤ maxLen := by
    have := Nat.le_trans (Nat.le_mul_of_pos_right (n + m) E.bpos) hbytes
    simp only [maxLen]; omega
  refine wp_append_any w s x t ho base e i z size bytes E.und hi hz hsz hby E.zs E.pos v n xs hs hown B A m c news hx hr h1 hle hbytes hbase fun v' w' h2 h3 h4 => ?_
  obtain ⟨g, cap, hv, _, _⟩ := h2.form hpos
  rw [hv] at h2 h4 ⊢
  refine h g cap w' h2 h3 ?_
  rcases h4 with h4 | h4
  · exact .inl h4.symm
  · right; have : g = w.heap.size := by simpa [Value.ownBlock] using h4
    omega
/-- A struct built of many parts. -/
theorem wp_build (ty : TypeId) (ps : Array (Nat × Operand)) (ho : op.op = .build ty ps) (vals : Array (Nat × Value)) (cells : Array Value) (hv : (ps.map fun x => (x.1, a.eval x.2)) = vals)
    (hc : P.built ty vals.toList = some cells) (h : K (a.put op.dst (.agg cells)) w) : op.wp P a w K Q := by
  unfold Oper.wp execOp
  simp only [ho]
  have hv' : (ps.map fun (i, x) => (i, a.eval x)) = vals := hv
  rw [hv']
  simp only [Sem.run_bind, run_build w ty vals cells hc, Result.andThen_ok, Sem.run_pure]
  exact h
/-- A struct in memory and two slots handed back. -/
theorem results_cell_tmp2 {fn : Func} {p q r : Tmp} {ty : TypeId} (h : fn.results = #[.cell p ty, .tmp q, .tmp r]) (tmps : Array Value) (w : World) (g : Nat) (t : TypeId) (cs : Array Value) (d : TypeDesc)
    (hp : tmps[p]? = some (.pointer (some ⟨g, 0, none⟩))) (hb : Blk w g t cs) (hu : P.underlying ty = some d) (hd : (match d with | .struct _ | .array _ _ => true | _ => false) = true) (hi : (P.info? ty).map (·.size) = some cs.size)
    {v1 v2 : Value} (hq : tmps[q]? = some v1) (hr : tmps[r]? = some v2) : (results fn tmps).run P w = .ok (.tuple #[.agg cs, v1, v2]) w := by
  simp [results, h, hp, hq, hr, asAddr, run_loadVar_row w g t ty cs (0, 0) d hb hu hd hi]
end
end Go.Proofs.YtmmfpgoodfgkbaaGreat
