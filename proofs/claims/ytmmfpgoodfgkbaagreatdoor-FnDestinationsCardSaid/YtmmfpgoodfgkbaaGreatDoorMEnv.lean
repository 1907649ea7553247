/-
  REGIONS THAT DRAW THEIR ORDER, EACH OPERATION LOOKED AT ONCE: what an operation leaves is a property of its value and of memory; no other operation undoes it; so whatever order is drawn, behind the region all these properties hold. The frame is a variable. Condition: all operations write slots of their own, and each waits only for earlier ones.
-/
import Derived.Test.YtmmfpgoodfgkbaaGreatDoorKit
import Derived.Deep.LoopGhost
import Derived.Test.YtmmfpgoodfgkbaaGreatDoorMPkt
import Derived.Laws.Rows
import Derived.Deep.MidRow
import Derived.Laws.Tables
namespace Go.Proofs.YtmmfpgoodfgkbaaGreatDoor
open Go Go.RowKit

def putFrom : Nat → List Oper → (Nat → Value) → Act → Act
 | _, [], _, a => a
 | k, o :: l, vs, a => putFrom (k + 1) l vs (a.put o.dst (vs k))

theorem put_size (a : Act) (d : Option Tmp) (v : Value) : (a.put d v).tmps.size = a.tmps.size := by
 cases d <;> simp [Act.put]
theorem put_defers (a : Act) (d : Option Tmp) (v : Value) : (a.put d v).defers = a.defers := by
 cases d <;> rfl
theorem put_at (a : Act) (d : Tmp) (v : Value) (h : d < a.tmps.size) : (a.put (some d) v).tmps[d]? = some v := by
 simp [Act.put, h]
theorem put_ne (a : Act) (d : Option Tmp) (v : Value) (j : Nat) (h : d ≠ some j) : (a.put d v).tmps[j]? = a.tmps[j]? := by
 cases d with
 | none => rfl
 | some d => 
  have hne : d ≠ j := fun e => h (by rw [e])
  simp [Act.put, Array.getElem?_setIfInBounds_ne hne]

theorem putFrom_defers : ∀ (l : List Oper) (k : Nat) (vs : Nat → Value) (a : Act), (putFrom k l vs a).defers = a.defers
 | [], _, _, _ => rfl
 | o :: l, k, vs, a => by simp only [putFrom]; rw [putFrom_defers l, put_defers]
theorem putFrom_ne : ∀ (l : List Oper) (k : Nat) (vs : Nat → Value) (a : Act) (j : Nat), (∀ o ∈ l, o.dst ≠ some j) → (putFrom k l vs a).tmps[j]? = a.tmps[j]?
 | [], _, _, _, _, _ => rfl
 | o :: l, k, vs, a, j, h => by
  simp only [putFrom]
  rw [putFrom_ne l _ _ _ j (fun o' ho' => h o' (List.mem_cons_of_mem _ ho')), put_ne _ _ _ _ (h o (List.mem_cons_self ..))]

def apartList : List Oper → Bool
 | [] => true
 | o :: l => (match o.dst with | some d => l.all fun o' => o'.dst != some d | none => true) && apartList l

theorem putFrom_at : ∀ (l : List Oper) (k : Nat) (vs : Nat → Value) (a : Act) (i : Nat) (o : Oper) (d : Tmp), apartList l = true → l[i]? = some o → o.dst = some d → d < a.tmps.size → (putFrom k l vs a).tmps[d]? = some (vs (k + i))
 | [], _, _, _, i, _, _, _, h, _, _ => by simp at h
 | o' :: l, k, vs, a, 0, o, d, hap, h, hd, hlt => by
  simp only [List.getElem?_cons_zero, Option.some.injEq] at h
  subst h
  simp only [apartList, hd, Bool.and_eq_true, List.all_eq_true, bne_iff_ne] at hap
  simp only [putFrom]
  rw [putFrom_ne l _ _ _ d (fun o hm => hap.1 o hm), hd, put_at _ _ _ hlt]
  rfl
 | o' :: l, k, vs, a, i + 1, o, d, hap, h, hd, hlt => by
  simp only [List.getElem?_cons_succ] at h
  simp only [apartList, Bool.and_eq_true] at hap
  simp only [putFrom]
  rw [putFrom_at l (k + 1) vs _ i o d hap.2 h hd (by rw [put_size]; exact hlt), show k + 1 + i = k + (i + 1) by omega]

def plainFrom (md : Region.Mode) (n : Nat) : Nat → List Oper → Bool
 | _, [] => true
 | k, o :: l => o.after.all (fun e => !Region.binds md e || decide (e.on < k)) && (match o.dst with | some d => decide (d < n) | none => true) && plainFrom md n (k + 1) l

theorem plain_spec {md : Region.Mode} : ∀ (n k : Nat) (l : List Oper) (i : Nat) (o : Oper), plainFrom md n k l = true → l[i]? = some o → (∀ e ∈ o.after, Region.binds md e = true → e.on < k + i) ∧ (∀ d, o.dst = some d → d < n)
 | _, _, [], i, _, _, h => by simp at h
 | n, k, x :: l, 0, o, hp, h => by
  simp only [List.getElem?_cons_zero, Option.some.injEq] at h
  subst h
  simp only [plainFrom, Bool.and_eq_true, Array.all_eq_true', Bool.or_eq_true, Bool.not_eq_true', decide_eq_true_eq] at hp
  refine ⟨fun e he hb => (hp.1.1 e he).resolve_left (by rw [hb]; decide), fun d hd => ?_⟩
  have := hp.1.2
  rw [hd] at this
  simpa using this
 | n, k, x :: l, i + 1, o, hp, h => by
  simp only [List.getElem?_cons_succ] at h
  simp only [plainFrom, Bool.and_eq_true] at hp
  have := plain_spec n (k + 1) l i o hp.2 h
  exact ⟨fun e he hb => by have := this.1 e he hb; omega, this.2⟩

def tells (e : Edge) : Bool := match e.ground with
 | .phase => false
 | _ => true
def Deps (l : List Oper) (md : Region.Mode) (R : Nat → Value → World → Prop) (vs : Nat → Value) (a : Act) (w : World) : List Edge → Prop
 | [] => True
 | e :: es => ((Region.binds md e && tells e) = true → (match (l[e.on]?).bind (·.dst) with | some d => a.tmps[d]? = some (vs e.on) | none => True) ∧ R e.on (vs e.on) w) ∧ Deps l md R vs a w es

def oldB (l : List Oper) (md : Region.Mode) (i : Nat) (j : Tmp) : Bool := l.all fun o => o.dst != some j || o.after.any fun e => Region.binds md e && e.on == i
def DutyJ (P : Program) (l : List Oper) (md : Region.Mode) (Q : Exit → Act → World → Prop) (a₀ : Act) (J : Nat → World → Prop) (C : World → Prop) (R : Nat → Value → World → Prop) (T : Nat → World → World → Prop) (i : Nat) (o : Oper) : Prop :=
 ∀ (vs : Nat → Value) (a : Act) (w : World), (∀ j, oldB l md i j = true → a.tmps[j]? = a₀.tmps[j]?) → J i w → C w → Deps l md R vs a w o.after.toList →
  ∀ K : Act → World → Prop, (∀ v w', C w' → R i v w' → T i w w' → K (a.put o.dst v) w') → if Region.wanted o (yielded l.toArray a.tmps) = true then o.wp P a w K Q else K (a.put o.dst undef) w
def DutiesJ (P : Program) (l : List Oper) (md : Region.Mode) (Q : Exit → Act → World → Prop) (a₀ : Act) (J : Nat → World → Prop) (C : World → Prop) (R : Nat → Value → World → Prop) (T : Nat → World → World → Prop) : Nat → List Oper → Prop
 | _, [] => True
 | i, o :: os => DutyJ P l md Q a₀ J C R T i o ∧ DutiesJ P l md Q a₀ J C R T (i + 1) os

section
variable {P : Program} {l : List Oper} {md : Region.Mode} {Q : Exit → Act → World → Prop} {a₀ : Act} {J : Nat → World → Prop} {C : World → Prop} {R : Nat → Value → World → Prop} {T : Nat → World → World → Prop}
theorem DutiesJ.at_ : ∀ (k : Nat) (os : List Oper) (i : Nat) (o : Oper), DutiesJ P l md Q a₀ J C R T k os → os[i]? = some o → DutyJ P l md Q a₀ J C R T (k + i) o
 | _, [], i, _, _, h => by simp at h
 | k, x :: os, 0, o, hd, h => by
  simp only [List.getElem?_cons_zero, Option.some.injEq] at h
  subst h
  exact hd.1
 | k, x :: os, i + 1, o, hd, h => by
  simp only [List.getElem?_cons_succ] at h
  have := DutiesJ.at_ (k + 1) os i o hd.2 h
  rwa [show k + 1 + i = k + (i + 1) by omega] at this

structure Mid (l : List Oper) (vs : Nat → Value) (listed : Array Bool) (a a' : Act) : Prop where
 size : a'.tmps.size = a.tmps.size
 defers : a'.defers = a.defers
 at_ : ∀ (k : Nat) (o : Oper) d, l[k]? = some o → o.dst = some d → listed.getD k true = true → a'.tmps[d]? = some (vs k)
 ne : ∀ j, (∀ (k : Nat) (o : Oper), l[k]? = some o → listed.getD k true = true → o.dst ≠ some j) → a'.tmps[j]? = a.tmps[j]?

theorem getD_lt {listed : Array Bool} {k : Nat} (h : k < listed.size) (b : Bool) : listed.getD k b = listed[k] := by
 simp [Array.getD, h]

theorem count_pos {listed : Array Bool} {i : Nat} (hi : i < listed.size) (h : listed.getD i true = false) : (listed.setIfInBounds i true).toList.count false + 1 = listed.toList.count false := by
 have hg : listed.toList[i]'(by simpa using hi) = false := by simpa [getD_lt hi] using h
 have := List.count_set (a := true) (b := false) (l := listed.toList) (i := i) (by simpa using hi)
 have hpos : 0 < listed.toList.count false := List.count_pos_iff.2 (by rw [← hg]; exact List.getElem_mem _)
 rw [Array.toList_setIfInBounds, this, hg]
 have e1 : (if (true == false) = true then 1 else 0) = 0 := rfl
 have e2 : (if (false == false) = true then 1 else 0) = 1 := rfl
 rw [e1, e2]
 omega

theorem all_listed {n : Nat} {listed : Array Bool} (hp : plainFrom md n 0 l = true) (hs : listed.size = l.length) (hr : Region.ready md l.toArray listed = []) : ∀ k, k < l.length → listed.getD k true = true := by
 intro k
 induction k using Nat.strongRecOn with
 | _ k ih =>
  intro hk
  by_cases hl : listed.getD k true = true
  ·exact hl
  ·exfalso
   have hl : listed.getD k true = false := by simpa using hl
   have ho : l[k]? = some l[k] := List.getElem?_eq_getElem hk
   have hsp := plain_spec n 0 l k _ hp ho
   have hm : k ∈ Region.ready md l.toArray listed := by
    refine mem_ready.2 ⟨?_, l[k], by simp, fun e he hb => ?_⟩
    ·exact hl
    ·have h1 := hsp.1 e he hb
     have h2 := ih e.on (by omega) (by omega)
     have h3 : e.on < listed.size := by omega
     rw [getD_lt h3] at h2 ⊢
     exact h2
   rw [hr] at hm
   cases hm

theorem Mid.put {n : Nat} {vs : Nat → Value} {a a' : Act} (hp : plainFrom md n 0 l = true) (hap : apartList l = true) (hn : a.tmps.size = n) (hm : Mid l vs (Array.replicate l.length true) a a') : a' = putFrom 0 l vs a := by
 have h1 : a'.tmps = (putFrom 0 l vs a).tmps := by
  apply Array.ext_getElem?
  intro j
  by_cases hj : ∃ (k : Nat) (o : Oper), l[k]? = some o ∧ o.dst = some j
  ·obtain ⟨k, o, ho, hdst⟩ := hj
   have hkl : k < l.length := (List.getElem?_eq_some_iff.1 ho).1
   rw [hm.at_ k o j ho hdst (by rw [getD_lt (by simpa using hkl)]; simp), putFrom_at l 0 vs a k o j hap ho hdst (by rw [hn]; exact (plain_spec n 0 l k o hp ho).2 j hdst), Nat.zero_add]
  ·have hj' : ∀ (k : Nat) (o : Oper), l[k]? = some o → o.dst ≠ some j := fun k o ho he => hj ⟨k, o, ho, he⟩
   rw [hm.ne j (fun k o ho _ => hj' k o ho), putFrom_ne l 0 vs a j (fun o ho => by obtain ⟨k, hk⟩ := List.mem_iff_getElem?.1 ho; exact hj' k o hk)]
 have h2 : a'.defers = (putFrom 0 l vs a).defers := by rw [hm.defers, putFrom_defers]
 cases a'
 cases hput : putFrom 0 l vs a
 rw [hput] at h1 h2
 simp only at h1 h2
 subst h1 h2
 rfl
theorem Mid.old {vs : Nat → Value} {a a' : Act} {b : Array Bool} (hm : Mid l vs b a a') (j : Nat) (h : (l.all fun o => o.dst != some j) = true) : a'.tmps[j]? = a.tmps[j]? := hm.ne j fun _ o ho _ => by
 have := (List.all_eq_true.1 h) o (List.mem_of_getElem? ho)
 simpa using this

end


section
variable {P : Program} {l : List Oper} {md : Region.Mode} {Q : Exit → Act → World → Prop} {a₀ : Act} {brk : List Nat} {I C : World → Prop} {R : Nat → Value → World → Prop} {T : Nat → World → World → Prop}
end

def Kept (S : Nat → Prop) (w w' : World) : Prop := w.heap.size ≤ w'.heap.size ∧ ∀ g, g < w.heap.size → ¬ S g → w'.heap[g]? = w.heap[g]?
theorem Kept.refl (S : Nat → Prop) (w : World) : Kept S w w := ⟨Nat.le_refl _, fun _ _ _ => rfl⟩
theorem Kept.alloc (S : Nat → Prop) (w : World) (o : Obj) : Kept S w (w.alloc o) := ⟨by simp, fun g h _ => Below.heap_alloc w o g h⟩
theorem Kept.set_ {S : Nat → Prop} {w w' : World} (h : Kept S w w') (p : Addr) (hp : S p.block) (u : Value) : Kept S w (w'.setCell p u) :=
 ⟨by rw [show (w'.setCell p u).heap.size = w'.heap.size by simp [World.setCell]]; exact h.1, fun g hg hs => (Below.heap_setCell w' p u g (fun e => hs (by rw [e]; exact hp))).trans (h.2 g hg hs)⟩
theorem Blk.kept {S : Nat → Prop} {w w' : World} {g : Nat} {t : TypeId} {cs : Array Value} (h : Blk w g t cs) (hk : Kept S w w') (hs : ¬ S g) : Blk w' g t cs := (hk.2 g h.lt hs).trans h
end Go.Proofs.YtmmfpgoodfgkbaaGreatDoor
namespace Go.Proofs.YtmmfpgoodfgkbaaGreatDoor
open Go Go.RowKit
set_option linter.unusedVariables false

def look : List (Nat × Value) → Nat → Option Value
 | [], _ => none
 | (k, v) :: l, j => bif Nat.beq k j then some v else look l j

def AllAt (a : Act) : List (Nat × Value) → Prop
 | [] => True
 | (j, v) :: l => a.tmps[j]? = some v ∧ AllAt a l

structure Env (n : Nat) (l : List (Nat × Value)) (a : Act) : Prop where
 size : a.tmps.size = n
 defers : a.defers = []
 at_ : ∀ j v, look l j = some v → a.tmps[j]? = some v

section
variable {P : Program} {n : Nat} {l l' : List (Nat × Value)} {a a' : Act} {w : World} {Q : Exit → Act → World → Prop}
theorem Env.get (h : Env n l a) (j : Nat) {v : Value} (hl : look l j = some v) : a.tmps[j]? = some v := h.at_ j v hl
theorem Env.ev (h : Env n l a) (j : Nat) {v : Value} (hl : look l j = some v) : a.eval (.tmp j) = v := by
 simp [Act.eval, h.at_ j v hl]
theorem look_mem : ∀ {l : List (Nat × Value)} {j : Nat} {v : Value}, AllAt a l → look l j = some v → a.tmps[j]? = some v
 | [], _, _, _, h => by simp [look] at h
 | (k, x) :: l, j, v, ha, h => by
  unfold look at h
  cases hb : Nat.beq k j with
  | true =>
   rw [hb] at h
   simp only [cond_true, Option.some.injEq] at h
   have : k = j := Nat.eq_of_beq_eq_true hb
   subst this
   subst h
   exact ha.1
  | false =>
   rw [hb] at h
   exact look_mem ha.2 h
theorem Env.mk' (h1 : a.tmps.size = n) (h2 : a.defers = []) (h3 : AllAt a l) : Env n l a := ⟨h1, h2, fun _ _ h => look_mem h3 h⟩
theorem Env.keep (h : Env n l a) (h3 : AllAt a l') : Env n l' a := Env.mk' h.size h.defers h3
theorem Env.put (h : Env n l a) {d : Nat} (hd : d < n) (v : Value) : Env n ((d, v) :: l) (a.put (some d) v) := by
 refine ⟨by rw [put_size]; exact h.size, by rw [put_defers]; exact h.defers, fun j u hj => ?_⟩
 unfold look at hj
 cases hb : Nat.beq d j with
 | true =>
  rw [hb] at hj
  simp only [cond_true, Option.some.injEq] at hj
  have : d = j := Nat.eq_of_beq_eq_true hb
  subst this
  subst hj
  exact put_at _ _ _ (by rw [h.size]; exact hd)
 | false =>
  rw [hb] at hj
  rw [put_ne _ _ _ _ (fun e => by injection e with e; subst e; simp at hb)]
  exact h.at_ j u hj
theorem Env.enter (args : Array Value) (hn : args.size ≤ n) (h : AllAt ⟨args ++ Array.replicate (n - args.size) undef, []⟩ l) : Env n l ⟨args ++ Array.replicate (n - args.size) undef, []⟩ :=
 Env.mk' (by simp; omega) rfl h

theorem wp_if_t {x y : Code} (hE : Env n l a) (j : Nat) (hl : look l j = some (.bool true)) (h : x.wp P Q a w) : (Code.cond (.tmp j) x y).wp P Q a w := wp_cond (hE.ev j hl) h
theorem wp_if_f {x y : Code} (hE : Env n l a) (j : Nat) (hl : look l j = some (.bool false)) (h : y.wp P Q a w) : (Code.cond (.tmp j) x y).wp P Q a w := wp_cond (hE.ev j hl) h

theorem wp_loop_up {c : Code} (N : Nat) (I : Nat → Act → World → Prop) (h0 : I 0 a w)
  (round : ∀ k a w, k ≤ N → I k a w → ∀ K : Act → World → Prop, (∀ a' w', k < N → I (k + 1) a' w' → K a' w') → c.wp P (Exit.then K Q) a w) : (Code.loop c).wp P Q a w :=
 wp_loop_ghost (fun m a w => ∃ k, k ≤ N ∧ m = N - k ∧ I k a w) N ⟨0, Nat.zero_le _, rfl, h0⟩ fun m a w ⟨k, hk, hm, hI⟩ =>
  round k a w hk hI _ fun a' w' hlt hI' => ⟨N - (k + 1), by omega, k + 1, by omega, rfl, hI'⟩
end
end Go.Proofs.YtmmfpgoodfgkbaaGreatDoor
namespace Go.Proofs.YtmmfpgoodfgkbaaGreatDoor
open Go Go.RowKit
set_option linter.unusedVariables false

def setFrom : Array Value → Nat → List Value → Array Value
 | cs, _, [] => cs
 | cs, o, v :: r => setFrom (cs.setIfInBounds o v) (o + 1) r
theorem setFrom_at : ∀ (vs : List Value) (cs : Array Value) (o j : Nat), (setFrom cs o vs)[j]? = if o ≤ j ∧ j < o + vs.length ∧ j < cs.size then vs[j - o]? else cs[j]?
 | [], cs, o, j => by
  simp only [setFrom, List.length_nil]
  rw [if_neg (by omega)]
 | v :: r, cs, o, j => by
  simp only [setFrom]
  rw [setFrom_at r]
  simp only [Array.size_setIfInBounds, List.length_cons]
  by_cases h : o + 1 ≤ j ∧ j < o + 1 + r.length ∧ j < cs.size
  ·rw [if_pos h, if_pos (by omega), show j - o = (j - (o + 1)) + 1 by omega, List.getElem?_cons_succ]
  ·rw [if_neg h]
   by_cases hj : j = o
   ·subst hj
    by_cases hs : j < cs.size
    ·rw [if_pos (by omega)]
     simp [hs]
    ·rw [if_neg (by omega)]
     simp [hs]
   ·rw [if_neg (by omega), Array.getElem?_setIfInBounds_ne (Ne.symm hj)]
theorem setFrom_whole (cs new : Array Value) (h : cs.size = new.size) : setFrom cs 0 new.toList = new := by
 apply Array.ext_getElem?
 intro j
 rw [setFrom_at]
 by_cases hj : j < new.size
 ·rw [if_pos (by simp; omega)]
  simp
 ·rw [if_neg (by simp; omega)]
  rw [Array.getElem?_eq_none (by omega), Array.getElem?_eq_none (by omega)]
theorem blk_setCells : ∀ (vs : List Value) {w : World} {g : Nat} {t : TypeId} {cs : Array Value} (o : Nat), Blk w g t cs → Blk (w.setCells g o vs) g t (setFrom cs o vs)
 | [], _, _, _, _, _, h => h
 | v :: r, _, _, _, _, o, h => blk_setCells r (o + 1) (h.set_ o v)
theorem grown_setCells (g : Nat) : ∀ (vs : List Value) (w : World) (o : Nat), w.grownBy (w.setCells g o vs) (some g) ∧ (w.setCells g o vs).heap.size = w.heap.size
 | [], w, _ => ⟨World.grownBy.refl w _, rfl⟩
 | v :: r, w, o => by
  have h := grown_setCells g r (w.setCell ⟨g, o, none⟩ v) (o + 1)
  exact ⟨grownBy_trans (grownBy_setCell w ⟨g, o, none⟩ v) h.1 (.inl rfl), by rw [show (w.setCells g o (v :: r)) = (w.setCell ⟨g, o, none⟩ v).setCells g (o + 1) r from rfl, h.2]; simp [World.setCell]⟩

section
variable {P : Program} {op : Oper} {a : Act} {w : World} {K : Act → World → Prop} {Q : Exit → Act → World → Prop}
end
end Go.Proofs.YtmmfpgoodfgkbaaGreatDoor
