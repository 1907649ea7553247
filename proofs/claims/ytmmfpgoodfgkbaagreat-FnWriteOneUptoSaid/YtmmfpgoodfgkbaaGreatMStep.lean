/-
  STEPS THAT ARE COMPUTED: each operation of a region is a step that says by itself what it leaves in its slot and in memory, what is to be looked up for it, and what must hold; a region is then walked by one equation. No condition.
-/
import Derived.Test.YtmmfpgoodfgkbaaGreatMSep
import Derived.Lib.AppendStr
import Derived.Lib.BufferWrite
namespace Go.Proofs.YtmmfpgoodfgkbaaGreat
open Go Go.RowKit
set_option linter.unusedVariables false

/-- Pieces of memory by their shape: a block; a row that the walk owns; a range that lay there at the beginning; any other. -/
inductive Pc where
  | blk (g : Nat) (T : TypeId) (cs : Array Value)
  | row (base : Nat) (e : TypeId) (size : Nat) (v : Value) (n : Nat) (xs : List Value)
  | old (b off : Nat) (cs : List Value)
  | el (A : Option Addr) (o : Nat) (cs : List Value)
  | rd (A : Option Addr) (l : List Int)
  | buf (g : Nat) (bs : List Int)
  | bytes (base : Nat) (v : Value) (l : List Int)
  | txt (g : Nat) (l : List Int)
  | ck (c : Ck)
def OldAt (olds : Nat → Prop) (w0 : World) (b off : Nat) (cs : List Value) : Prop := w0.rangeAt b off cs ∧ (cs ≠ [] → b < w0.heap.size ∧ ¬ olds b)
/-- What lies o cells behind an address, in memory that was there. -/
def ElAt (olds : Nat → Prop) (w0 : World) (A : Option Addr) (o : Nat) (cs : List Value) : Prop := ∃ b off, A = some ⟨b, off, none⟩ ∧ OldAt olds w0 b (off + o) cs
/-- Bytes that are read in memory that was there. -/
def RdAt (olds : Nat → Prop) (w0 : World) (A : Option Addr) (l : List Int) : Prop := ∃ B, Reads w0 B 1 A l.length (u8s l) ∧ ∀ g, g < B → g < w0.heap.size ∧ ¬ olds g
/-- Bytes at the beginning of a block, of which nothing else is known. -/
def ckT (g : Nat) (l : List Int) : Ck :=
  ⟨fun x => x = g, fun w => ∃ cs fz, w.heap[g]? = some (.cells cs 5 fz) ∧ cs.toList.take l.length = u8s l, fun _ _ h ⟨cs, fz, h1, h2⟩ => ⟨cs, fz, (h g rfl).trans h1, h2⟩⟩
def Pc.den (olds : Nat → Prop) (w0 : World) : Pc → Ck
  | .blk g T cs => ckB g T cs
  | .row base e size v n xs => ckR base e size v n xs
  | .old b off cs => ckP (OldAt olds w0 b off cs)
  | .el A o cs => ckP (ElAt olds w0 A o cs)
  | .rd A l => ckP (RdAt olds w0 A l)
  | .buf g bs => ckB g 5 (u8s bs).toArray
  | .bytes base v l => ckR base 5 1 v l.length (u8s l)
  | .txt g l => ckT g l
  | .ck c => c
abbrev PL := List (Nat × Option Pc)
def den (olds : Nat → Prop) (w0 : World) : PL → List (Nat × Option Ck)
  | [] => []
  | (k, c) :: l => (k, c.map (Pc.den olds w0)) :: den olds w0 l
def lookP : PL → Nat → Option Pc
  | [], _ => none
  | (k, v) :: l, j => bif Nat.beq k j then v else lookP l j
section
variable {olds : Nat → Prop} {w0 : World}
theorem lookM_den : ∀ (L : PL) (j : Nat), lookM (den olds w0 L) j = (lookP L j).map (Pc.den olds w0)
  | [], _ => rfl
  | (k, v) :: l, j => by
    simp only [den, lookM, lookP]
    cases Nat.beq k j
    · exact lookM_den l j
    · rfl
theorem den_app : ∀ (L L' : PL), den olds w0 (L ++ L') = den olds w0 L ++ den olds w0 L'
  | [], _ => rfl
  | (k, v) :: l, L' => by simp only [List.cons_append, den, den_app l L']
theorem den_names : ∀ (L : PL), (den olds w0 L).map (·.1) = L.map (·.1)
  | [] => rfl
  | (k, v) :: l => by simp only [den, List.map_cons, den_names l]
end

/-- What is compared. -/
inductive U where
  | v (x : Value)
  | n (x : Nat)
  | b (x : Bool)
  | r (x : World → Result Next)
  | d (x : Option TypeDesc)
  | c (x : Array Value)
  | o (x : Option Nat)
  | p (x : Option Pc)
  | ov (x : Option Value)
  | s (x : World → Result Nat)
/-- What an operation has to go by: itself, its meaning, the values of its operands, the pieces that it names. -/
structure In where
  o : Oper
  sem : Sem Next
  vals : List Value
  ps : List (Option Pc)
def zipW : List Nat → List (Option Pc) → PL
  | [], _ => []
  | k :: ks, ws => (k, ws.head?.join) :: zipW ks ws.tail
theorem zipW_names : ∀ (ks : List Nat) (ws : List (Option Pc)), (zipW ks ws).map (·.1) = ks
  | [], _ => rfl
  | k :: ks, ws => by simp only [zipW, List.map_cons, zipW_names ks]
/-- **A STEP**: the pieces that it reads and writes, what it leaves in its slot and in the pieces, what is compared, what must hold. -/
structure Step (P : Program) (olds : Nat → Prop) (w0 : World) where
  rd : List Nat
  wr : List Nat
  skip : Bool
  must : Bool
  und : Bool := false
  V : In → Pay → Value
  W : In → Pay → List (Option Pc)
  chk : In → List (U × U)
  pre : In → Prop
  ok : skip = false → ∀ (i : In) (L : PL) (a : Act) (w : World) (K : Act → World → Prop) (Q : Exit → Act → World → Prop), (∀ c ∈ chk i, c.1 = c.2) → (must = true → pre i) →
    execOp a.eval i.o = i.sem → i.o.op.operands.toList.map a.eval = i.vals → i.ps = (rd ++ wr).map (lookP L) → Stp olds w0 w (restr (rd ++ wr) (lookM (den olds w0 L))) →
    (∀ x w', Stp (blksOf (lookM (den olds w0 L)) wr) w w' (lookM (den olds w0 (zipW wr (W i x)))) → K (a.put i.o.dst (V i x)) w') → i.o.wp P a w K Q

/-- Slots and pieces as they are known. -/
structure St where
  l : List (Nat × Value)
  L : PL
section
variable {P : Program} {olds : Nat → Prop} {w0 : World}
def inAt (s : St) (o : Oper) (q : Step P olds w0) : In := ⟨o, execOp (evalL s.l) o, o.op.operands.toList.map (evalL s.l), (q.rd ++ q.wr).map (lookP s.L)⟩
def stepV (s : St) (o : Oper) (q : Step P olds w0) (x : Pay) : Value := bif q.skip then undef else q.V (inAt s o q) x
def stepW (s : St) (o : Oper) (q : Step P olds w0) (x : Pay) : List (Option Pc) := bif q.skip then [] else q.W (inAt s o q) x
def stepN (q : Step P olds w0) : List Nat := bif q.skip then [] else q.wr
def putL (l : List (Nat × Value)) (v : Value) : Option Tmp → List (Nat × Value)
  | some d => (d, v) :: l
  | none => l
def next (s : St) (o : Oper) (q : Step P olds w0) (x : Pay) : St :=
  ⟨putL s.l (stepV s o q x) o.dst, zipW (stepN q) (stepW s o q x) ++ s.L⟩
/-- Behind the first k operations. -/
def stN (l : List Oper) (qs : List (Step P olds w0)) (s0 : St) (p : Nat → Pay) : Nat → St
  | 0 => s0
  | k + 1 => match l[k]?, qs[k]? with
    | some o, some q => next (stN l qs s0 p k) o q (p k)
    | _, _ => stN l qs s0 p k
def guardChk (l : List Oper) (s : St) (o : Oper) (q : Step P olds w0) : List (U × U) :=
  match o.guard with
  | none => [(.b q.skip, .b false)]
  | some (g, want) => match (l[g]?).bind (·.dst) with
    | some dg => [(.ov (look s.l dg), .ov (some (bif q.skip && q.und then undef else .bool (bif q.skip then !want else want)))), (.b (hasN (o.looksAt l.toArray) dg), .b true)]
    | none => [(.b true, .b false)]
def dstOk (n : Nat) : Option Tmp → Bool
  | some d => Nat.blt d n
  | none => true
/-- What is compared for one operation. -/
def chk1 (n : Nat) (l : List Oper) (s : St) (o : Oper) (q : Step P olds w0) : List (U × U) :=
  guardChk l s o q ++ (.b (dstOk n o.dst), .b true) :: (bif q.skip then [] else (.b (noSel o.op && knownAll s.l o.op.operands), .b true) :: q.chk (inAt s o q))
def chkN (n : Nat) (l : List Oper) (qs : List (Step P olds w0)) (s0 : St) (p : Nat → Pay) : Nat → List (U × U)
  | 0 => []
  | k + 1 => match l[k]?, qs[k]? with
    | some o, some q => chkN n l qs s0 p k ++ chk1 n l (stN l qs s0 p k) o q
    | _, _ => chkN n l qs s0 p k ++ [(.b true, .b false)]
def preG (l : List Oper) (qs : List (Step P olds w0)) (s0 : St) (p : Nat → Pay) : List Oper → List (Step P olds w0) → Nat → Prop
  | o :: os, q :: rs, k => match q.must with
    | true => q.pre (inAt (stN l qs s0 p k) o q) ∧ preG l qs s0 p os rs (k + 1)
    | false => preG l qs s0 p os rs (k + 1)
  | _, _, _ => True
def preAll (l : List Oper) (qs : List (Step P olds w0)) (s0 : St) (p : Nat → Pay) : Prop := preG l qs s0 p l qs 0
/-- What is known at the end, as it is to be said. -/
def endChk (s : St) (s' : St) : List (U × U) := s'.l.map (fun x => (.ov (look s.l x.1), .ov (some x.2))) ++ s'.L.map (fun x => (.p (lookP s.L x.1), .p x.2))
theorem fst_snd {α : Type} : ∀ {l : List (α × α)}, l.map (·.1) = l.map (·.2) → ∀ c ∈ l, c.1 = c.2
  | [], _, _, h => by cases h
  | x :: l, h, c, hc => by
    simp only [List.map_cons, List.cons.injEq] at h
    rcases List.mem_cons.1 hc with e | e
    · rw [e]; exact h.1
    · exact fst_snd h.2 c e
variable {n : Nat} {l : List Oper} {qs : List (Step P olds w0)} {s0 : St} {p : Nat → Pay}
theorem chkN_at : ∀ (m k : Nat), k < m → (∀ c ∈ chkN n l qs s0 p m, c.1 = c.2) → ∃ o q, l[k]? = some o ∧ qs[k]? = some q ∧ ∀ c ∈ chk1 n l (stN l qs s0 p k) o q, c.1 = c.2
  | 0, k, hk, _ => absurd hk (Nat.not_lt_zero _)
  | m + 1, k, hk, h => by
    cases ho : l[m]? with
    | none =>
      have := h (.b true, .b false) (by simp [chkN, ho])
      cases this
    | some o =>
      cases hq : qs[m]? with
      | none =>
        have := h (.b true, .b false) (by simp [chkN, ho, hq])
        cases this
      | some q =>
        have e : chkN n l qs s0 p (m + 1) = chkN n l qs s0 p m ++ chk1 n l (stN l qs s0 p m) o q := by simp only [chkN, ho, hq]
        rw [e] at h
        by_cases hkm : k = m
        · subst hkm
          exact ⟨o, q, ho, hq, fun c hc => h c (List.mem_append_right _ hc)⟩
        · exact chkN_at m k (by omega) fun c hc => h c (List.mem_append_left _ hc)
theorem preG_at : ∀ (os : List Oper) (rs : List (Step P olds w0)) (k j : Nat) (o : Oper) (q : Step P olds w0), preG l qs s0 p os rs k → os[j]? = some o → rs[j]? = some q → q.must = true → q.pre (inAt (stN l qs s0 p (k + j)) o q)
  | [], _, _, _, _, _, _, h, _, _ => by simp at h
  | _ :: _, [], _, _, _, _, _, _, h, _ => by simp at h
  | o' :: os, q' :: rs, k, 0, o, q, hp, ho, hq, hm => by
    simp only [List.getElem?_cons_zero, Option.some.injEq] at ho hq
    subst ho hq
    simp only [preG, hm] at hp
    exact hp.1
  | o' :: os, q' :: rs, k, j + 1, o, q, hp, ho, hq, hm => by
    simp only [List.getElem?_cons_succ] at ho hq
    have hp' : preG l qs s0 p os rs (k + 1) := by
      cases hb : q'.must with
      | true => simp only [preG, hb] at hp; exact hp.2
      | false => simp only [preG, hb] at hp; exact hp
    have := preG_at os rs (k + 1) j o q hp' ho hq hm
    rwa [show k + 1 + j = k + (j + 1) by omega] at this
/-- What one operation does where slots and pieces are as the list has them; the rest of the proof does not look into the step. -/
theorem step_wp {s : St} {o : Oper} {q : Step P olds w0} {a : Act} {w : World} {K : Act → World → Prop} {Q : Exit → Act → World → Prop} (hc : ∀ c ∈ chk1 n l s o q, c.1 = c.2) (hp : q.must = true → q.pre (inAt s o q))
    (hs : a.tmps.size = n) (hat : ∀ j v, hasN (o.looksAt l.toArray) j = true → look s.l j = some v → a.tmps[j]? = some v) (hm : Stp olds w0 w (restr ((bif q.skip then [] else q.rd) ++ stepN q) (lookM (den olds w0 s.L))))
    (hK : ∀ x w', Stp (blksOf (lookM (den olds w0 s.L)) (stepN q)) w w' (lookM (den olds w0 (zipW (stepN q) (stepW s o q x)))) → K (a.put o.dst (stepV s o q x)) w') :
    if Region.wanted o (yielded l.toArray a.tmps) = true then o.wp P a w K Q else K (a.put o.dst undef) w := by
  have hg : ∀ c ∈ guardChk l s o q, c.1 = c.2 := fun c h => hc c (List.mem_append_left _ h)
  have hwant : Region.wanted o (yielded l.toArray a.tmps) = !q.skip := by
    unfold guardChk at hg
    cases hgd : o.guard with
    | none =>
      rw [hgd] at hg
      have := hg _ (List.mem_singleton.2 rfl)
      injection this with this
      simp [Region.wanted, hgd, this]
    | some gw =>
      obtain ⟨g, want⟩ := gw
      rw [hgd] at hg
      simp only at hg
      cases hd : (l[g]?).bind (·.dst) with
      | none =>
        rw [hd] at hg
        have := hg _ (List.mem_singleton.2 rfl)
        injection this with this
        cases this
      | some dg =>
        rw [hd] at hg
        have h1 := hg _ (List.mem_cons_self ..)
        have h2 := hg _ (List.mem_cons_of_mem _ (List.mem_singleton.2 rfl))
        injection h1 with h1
        injection h2 with h2
        have hat2 := hat dg _ h2 h1
        have hd2 : (l.toArray[g]?).bind (·.dst) = some dg := by simpa using hd
        cases hb : q.skip with
        | true =>
          cases hu : q.und with
          | true =>
            rw [hb, hu] at hat2
            have hy : yielded l.toArray a.tmps g = none := by
              unfold yielded
              rw [hd2]
              simp [hat2]
              rfl
            simp [Region.wanted, hgd, hy]
          | false =>
            rw [hb, hu] at hat2
            have hy : yielded l.toArray a.tmps g = some (!want) := by
              unfold yielded
              rw [hd2]
              simp [hat2]
            simp [Region.wanted, hgd, hy]
        | false =>
          rw [hb] at hat2
          have hy : yielded l.toArray a.tmps g = some want := by
            unfold yielded
            rw [hd2]
            simp [hat2]
          simp [Region.wanted, hgd, hy]
  cases hb : q.skip with
  | true =>
    rw [if_neg (by rw [hwant, hb]; simp)]
    have := hK pay0 w (by simp only [stepN, hb, cond_true, zipW, den]; exact stp_none w)
    simpa [stepV, hb] using this
  | false =>
    rw [if_pos (by rw [hwant, hb]; rfl)]
    have hr : ∀ c ∈ (U.b (noSel o.op && knownAll s.l o.op.operands), U.b true) :: q.chk (inAt s o q), c.1 = c.2 := fun c h => hc c (List.mem_append_right _ (List.mem_cons_of_mem _ (by rw [hb]; exact h)))
    have hk := hr _ (List.mem_cons_self ..)
    injection hk with hk
    rw [Bool.and_eq_true] at hk
    have hev : ∀ x ∈ o.op.operands.toList, a.eval x = evalL s.l x := fun x hx => evalL_eq (fun t ht v hv => hat t v (tmp_looks (by rw [← ht]; simpa using hx)) hv) (knownL_mem hk.2 hx)
    simp only [stepN, stepW, stepV, hb, cond_false] at hm hK
    exact q.ok hb (inAt s o q) s.L a w K Q (fun c h => hr c (List.mem_cons_of_mem _ h)) hp (execL hk.1 hk.2 fun t ht v hv => hat t v (tmp_looks ht) hv) (List.map_congr_left hev) rfl hm hK
end

/-! ## In the text's order -/
section
variable {P : Program} {olds : Nat → Prop} {w0 : World} {n : Nat} {l : List Oper} {qs : List (Step P olds w0)} {s0 : St}
theorem stN_congr {p p' : Nat → Pay} : ∀ k, (∀ j, j < k → p j = p' j) → stN l qs s0 p k = stN l qs s0 p' k
  | 0, _ => rfl
  | k + 1, h => by
    simp only [stN]
    rw [stN_congr k fun j hj => h j (by omega), h k (by omega)]
theorem restr_sub {fp : List Nat} {M : Nat → Option Ck} {w : World} (h : Stp olds w0 w M) : Stp olds w0 w (restr fp M) := h.sub fun k c hk => by
  unfold restr at hk
  cases hb : hasN fp k with
  | true => rw [hb] at hk; exact hk
  | false => rw [hb] at hk; cases hk
theorem put_env {l0 : List (Nat × Value)} {a : Act} (hE : Env n l0 a) (d : Option Tmp) (v : Value) (hd : dstOk n d = true) : Env n (putL l0 v d) (a.put d v) := by
  cases d with
  | none => exact hE
  | some d => exact hE.put (by simpa [dstOk, Nat.blt_eq] using hd) v
theorem chk1_dst {s : St} {o : Oper} {q : Step P olds w0} (h : ∀ c ∈ chk1 n l s o q, c.1 = c.2) : dstOk n o.dst = true := by
  have := h (.b (dstOk n o.dst), .b true) (List.mem_append_right _ (List.mem_cons_self ..))
  injection this
theorem seq_go {Q : Exit → Act → World → Prop} (hchk : ∀ p, ∀ c ∈ chkN n l qs s0 p l.length, c.1 = c.2) (hpre : ∀ p, preAll l qs s0 p)
    (he : ∀ p a' w', Env n (stN l qs s0 p l.length).l a' → Stp olds w0 w' (lookM (den olds w0 (stN l qs s0 p l.length).L)) → Q .normal a' w') :
    ∀ (rest : List Oper) (k : Nat), l.drop k = rest → k ≤ l.length → ∀ (p : Nat → Pay) (a : Act) (w : World), Env n (stN l qs s0 p k).l a → Stp olds w0 w (lookM (den olds w0 (stN l qs s0 p k).L)) → wpList P l.toArray Q rest a w
  | [], k, hd, hk, p, a, w, hE, hS => by
    have : k = l.length := by
      have := congrArg List.length hd
      simp at this
      omega
    subst this
    exact wpList_nil (he p a w hE hS)
  | o :: os, k, hd, hk, p, a, w, hE, hS => by
    have hlt : k < l.length := by
      have := congrArg List.length hd
      simp at this
      omega
    have ho : l[k]? = some o := by
      have := congrArg (fun x => x[0]?) hd
      simpa using this
    obtain ⟨o', q, ho', hq, hc⟩ := chkN_at (n := n) (p := p) l.length k hlt (hchk p)
    rw [ho] at ho'
    injection ho' with ho'
    subst ho'
    refine wpList_step fun K hK => step_wp (q := q) hc (fun hm => by have := preG_at l qs 0 k o q (hpre p) ho hq hm; rwa [Nat.zero_add] at this) hE.size (fun j v _ hv => hE.at_ j v hv) (restr_sub hS) fun x w' hst => hK _ _ ?_
    have hn : stN l qs s0 (upd p k x) (k + 1) = next (stN l qs s0 p k) o q x := by
      simp only [stN, ho, hq]
      rw [stN_congr (p := upd p k x) (p' := p) k fun j hj => upd_ne _ _ _ _ (by omega), upd_at]
    refine seq_go hchk hpre he os (k + 1) (by rw [← List.drop_drop, hd]; rfl) hlt (upd p k x) _ w' ?_ ?_
    · rw [hn]
      exact put_env hE o.dst _ (chk1_dst hc)
    · rw [hn]
      show Stp olds w0 w' (lookM (den olds w0 (zipW (stepN q) (stepW (stN l qs s0 p k) o q x) ++ (stN l qs s0 p k).L)))
      rw [den_app]
      refine hS.then_ (NL := den olds w0 (zipW (stepN q) (stepW (stN l qs s0 p k) o q x))) ?_
      rw [den_names, zipW_names]
      exact hst
theorem end_env {s s' : St} {a : Act} (h : ∀ c ∈ endChk s s', c.1 = c.2) (hE : Env n s.l a) : Env n s'.l a := by
  refine hE.keep ?_
  have : ∀ x ∈ s'.l, look s.l x.1 = some x.2 := fun x hx => by
    have := h (.ov (look s.l x.1), .ov (some x.2)) (List.mem_append_left _ (List.mem_map.2 ⟨x, hx, rfl⟩))
    injection this
  clear h
  revert this
  generalize s'.l = l'
  intro h
  induction l' with
  | nil => trivial
  | cons x l' ih => exact ⟨hE.at_ _ _ (h x (List.mem_cons_self ..)), ih fun y hy => h y (List.mem_cons_of_mem _ hy)⟩
theorem end_mem {s s' : St} {w : World} (h : ∀ c ∈ endChk s s', c.1 = c.2) (hS : Stp olds w0 w (lookM (den olds w0 s.L))) : Stp olds w0 w (lookM (den olds w0 s'.L)) := by
  refine hS.keep ?_
  have : ∀ x ∈ s'.L, lookP s.L x.1 = x.2 := fun x hx => by
    have := h (.p (lookP s.L x.1), .p x.2) (List.mem_append_right _ (List.mem_map.2 ⟨x, hx, rfl⟩))
    injection this
  clear h
  revert this
  generalize s'.L = L'
  intro h
  induction L' with
  | nil => trivial
  | cons x L' ih => exact ⟨by rw [lookM_den, h x (List.mem_cons_self ..)], ih fun y hy => h y (List.mem_cons_of_mem _ hy)⟩
/-- All comparisons of a region at once. -/
def allChk (n : Nat) (l : List Oper) (qs : List (Step P olds w0)) (s0 : St) (s' : (Nat → Pay) → St) (p : Nat → Pay) : List (U × U) := chkN n l qs s0 p l.length ++ endChk (stN l qs s0 p l.length) (s' p)
/-- **A REGION OF THE TEXT'S ORDER, WALKED BY ITS STEPS.** -/
theorem wp_reg {Q : Exit → Act → World → Prop} {id : Nat} {a : Act} {w : World} {l0 : List (Nat × Value)} {L0 : PL} (hE : Env n l0 a) (hS : Stp olds w0 w (lookM (den olds w0 L0))) (qs : List (Step P olds w0)) (s' : (Nat → Pay) → St)
    (hchk : ∀ p, (allChk n l qs ⟨l0, L0⟩ s' p).map (·.1) = (allChk n l qs ⟨l0, L0⟩ s' p).map (·.2)) (hpre : ∀ p, preAll l qs ⟨l0, L0⟩ p)
    (he : ∀ p a' w', Env n (s' p).l a' → Stp olds w0 w' (lookM (den olds w0 (s' p).L)) → Q .normal a' w') : (Code.region id l.toArray false).wp P Q a w :=
  wp_region_lit (seq_go (s0 := ⟨l0, L0⟩) (fun p c hc => fst_snd (hchk p) c (List.mem_append_left _ hc)) hpre
    (fun p a' w' hE' hS' => he p a' w' (end_env (fun c hc => fst_snd (hchk p) c (List.mem_append_right _ hc)) hE') (end_mem (fun c hc => fst_snd (hchk p) c (List.mem_append_right _ hc)) hS'))
    l 0 rfl (Nat.zero_le _) (fun _ => pay0) a w hE hS)
end

/-! ## In a region that draws its order -/
theorem uni_mem' : ∀ (l acc : List Nat) (x : Nat), x ∈ l ∨ x ∈ acc → x ∈ uni l acc
  | [], acc, x, h => h.resolve_left (fun h => by cases h)
  | y :: l, acc, x, h => by
    refine uni_mem' l _ x ?_
    rcases h with h | h
    · rcases List.mem_cons.1 h with h | h
      · subst h
        right
        cases hb : hasN acc x with
        | true => exact (hasN_mem _ _).1 hb
        | false => exact List.mem_cons_self ..
      · exact .inl h
    · right
      cases hb : hasN acc y with
      | true => exact h
      | false => exact List.mem_cons_of_mem _ h
theorem ancL_trans {l : List Oper} (hb : ∀ i o, l[i]? = some o → ∀ d ∈ bef o, d < i) : ∀ (os : List Oper) (acc : List (List Nat)) (pre : List Oper), l = pre ++ os → acc.length = pre.length →
    (∀ k j, j ∈ acc.getD k [] → j < k) → (∀ k j i, j ∈ acc.getD k [] → i ∈ acc.getD j [] → i ∈ acc.getD k []) →
    (∀ k j, j ∈ (ancL os acc).getD k [] → j < k) ∧ (∀ k j i, j ∈ (ancL os acc).getD k [] → i ∈ (ancL os acc).getD j [] → i ∈ (ancL os acc).getD k [])
  | [], acc, _, _, _, h1, h2 => ⟨h1, h2⟩
  | o :: os, acc, pre, hl, hlen, h1, h2 => by
    have ho : l[acc.length]? = some o := by rw [hl, List.getElem?_append_right (by omega), hlen, Nat.sub_self]; rfl
    have hnew : ∀ j, j ∈ uni ((bef o).flatMap fun d => acc.getD d []) (uni (bef o) []) → j < acc.length ∧ ((∃ d ∈ bef o, j ∈ acc.getD d []) ∨ j ∈ bef o) := fun j hj => by
      rcases uni_mem _ _ _ hj with h | h
      · obtain ⟨d, hd, hjd⟩ := List.mem_flatMap.1 h
        have := h1 d j hjd
        have := hb _ o ho d hd
        exact ⟨by omega, .inl ⟨d, hd, hjd⟩⟩
      · rcases uni_mem _ _ _ h with h | h
        · exact ⟨hb _ o ho j h, .inr h⟩
        · cases h
    refine ancL_trans hb os _ (pre ++ [o]) (by rw [hl]; simp) (by simp [hlen]) (fun k j hj => ?_) fun k j i hj hi => ?_
    · by_cases hk : k < acc.length
      · rw [getD_app_l _ _ _ hk] at hj; exact h1 k j hj
      · by_cases hke : k = acc.length
        · subst hke
          rw [getD_app_r _ _ _ (Nat.le_refl _), Nat.sub_self] at hj
          exact (hnew j hj).1
        · rw [getD_over _ _ (by simp; omega)] at hj; cases hj
    · by_cases hk : k < acc.length
      · rw [getD_app_l _ _ _ hk] at hj ⊢
        have := h1 k j hj
        rw [getD_app_l _ _ _ (by omega)] at hi
        exact h2 k j i hj hi
      · by_cases hke : k = acc.length
        · subst hke
          rw [getD_app_r _ _ _ (Nat.le_refl _), Nat.sub_self] at hj ⊢
          obtain ⟨hlt, hj⟩ := hnew j hj
          rw [getD_app_l _ _ _ hlt] at hi
          refine uni_mem' _ _ _ (.inl (List.mem_flatMap.2 ?_))
          rcases hj with ⟨d, hd, hjd⟩ | hj
          · exact ⟨d, hd, h2 d j i hjd hi⟩
          · exact ⟨j, hj, hi⟩
        · rw [getD_over _ _ (by simp; omega)] at hj; cases hj
theorem anc_trans {l : List Oper} (hb : ∀ i o, l[i]? = some o → ∀ d ∈ bef o, d < i) : (∀ k j, j ∈ anc l k → j < k) ∧ (∀ k j i, j ∈ anc l k → i ∈ anc l j → i ∈ anc l k) :=
  ancL_trans hb l [] [] rfl rfl (fun _ _ h => by simp at h) fun _ _ _ h => by simp at h

section
variable {P : Program} {olds : Nat → Prop} {w0 : World} {n : Nat} (l : List Oper) (qs : List (Step P olds w0)) (s0 : St)
def vK (k : Nat) : PV := fun p => match l[k]?, qs[k]? with
  | some o, some q => stepV (stN l qs s0 p k) o q (p k)
  | _, _ => undef
def zipF (olds : Nat → Prop) (w0 : World) : List Nat → ((Nat → Pay) → List (Option Pc)) → PW
  | [], _ => []
  | k :: ks, F => (k, fun p => (F p).head?.join.map (Pc.den olds w0)) :: zipF olds w0 ks fun p => (F p).tail
def wK (k : Nat) : PW := match l[k]?, qs[k]? with
  | some o, some q => zipF olds w0 (stepN q) fun p => stepW (stN l qs s0 p k) o q (p k)
  | _, _ => []
def rK (k : Nat) : List Nat := match l[k]?, qs[k]? with
  | some _, some q => bif q.skip then [] else q.rd
  | _, _ => []
def vs : List PV := (List.range l.length).map (vK l qs s0)
def ws : List PW := (List.range l.length).map (wK l qs s0)
def rs : List (List Nat) := (List.range l.length).map (rK l qs)
end
section
variable {P : Program} {olds : Nat → Prop} {w0 : World} {n : Nat} {l : List Oper} {qs : List (Step P olds w0)} {s0 : St}
theorem getD_range {α : Type} (f : Nat → α) (d : α) (N k : Nat) (h : k < N) : ((List.range N).map f).getD k d = f k := by
  simp [List.getD, h]
theorem zipF_inst : ∀ (ks : List Nat) (F : (Nat → Pay) → List (Option Pc)) (p : Nat → Pay), instW (zipF olds w0 ks F) p = den olds w0 (zipW ks (F p))
  | [], _, _ => rfl
  | k :: ks, F, p => by
    have := zipF_inst ks (fun p => (F p).tail) p
    simp only [zipF, zipW, den, instW, List.map_cons] at this ⊢
    rw [this]
theorem zipF_names : ∀ (ks : List Nat) (F : (Nat → Pay) → List (Option Pc)), (zipF olds w0 ks F).map (·.1) = ks
  | [], _ => rfl
  | k :: ks, F => by simp only [zipF, List.map_cons, zipF_names ks]
theorem vlAt_stN (p : Nat → Pay) (hq : ∀ k, k < l.length → ∃ q, qs[k]? = some q) : ∀ k, k ≤ l.length → vlAt l (vs l qs s0) s0.l p k = (stN l qs s0 p k).l
  | 0, _ => rfl
  | k + 1, hk => by
    have hlt : k < l.length := hk
    obtain ⟨q, hq'⟩ := hq k hlt
    have ho : l[k]? = some l[k] := List.getElem?_eq_getElem hlt
    simp only [vlAt, stN, ho, hq', Option.bind_some]
    rw [vlAt_stN p hq k (by omega)]
    have hv : (vs l qs s0).getD k (fun _ => undef) p = stepV (stN l qs s0 p k) l[k] q (p k) := by
      rw [vs, getD_range _ _ _ _ hlt]
      simp only [vK, ho, hq']
    cases hd : l[k].dst with
    | none => simp [next, putL, hd]
    | some d => simp only [next, putL, hd, hv]
theorem vmAt_stN (p : Nat → Pay) (hq : ∀ k, k < l.length → ∃ q, qs[k]? = some q) : ∀ k, k ≤ l.length → vmAt (ws l qs s0) (den olds w0 s0.L) p k = den olds w0 (stN l qs s0 p k).L
  | 0, _ => rfl
  | k + 1, hk => by
    have hlt : k < l.length := hk
    obtain ⟨q, hq'⟩ := hq k hlt
    have ho : l[k]? = some l[k] := List.getElem?_eq_getElem hlt
    simp only [vmAt, stN, ho, hq']
    rw [vmAt_stN p hq k (by omega), ws, getD_range _ _ _ _ hlt]
    simp only [wK, ho, hq', next, den_app]
    rw [zipF_inst]
theorem depAll_of : ∀ (V : List PV) (W : List PW) (i : Nat), (∀ j, j < V.length → ∀ p p' : Nat → Pay, (∀ k, k = i + j ∨ k ∈ anc l (i + j) → p k = p' k) → (V.getD j fun _ => undef) p = (V.getD j fun _ => undef) p' ∧ instW (W.getD j []) p = instW (W.getD j []) p') → DepAll l V W i
  | [], _, _, _ => trivial
  | v :: vs, W, i, h => ⟨fun p p' hp => h 0 (by simp) p p' hp, depAll_of vs (W.drop 1) (i + 1) fun j hj p p' hp => by
      have := h (j + 1) (by simpa using hj) p p' (by rw [show i + (j + 1) = i + 1 + j by omega]; exact hp)
      rw [show (W.drop 1).getD j [] = W.getD (j + 1) [] by simp [List.getD]]
      simpa using this⟩
theorem in_eq {s s' : St} {o : Oper} {q : Step P olds w0} (hk : (noSel o.op && knownAll s.l o.op.operands) = true) (h : ∀ t, .tmp t ∈ o.op.operands → look s.l t = look s'.l t) (hL : ∀ k ∈ q.rd ++ q.wr, lookP s.L k = lookP s'.L k) : inAt s o q = inAt s' o q := by
  rw [Bool.and_eq_true] at hk
  have he : ∀ x ∈ o.op.operands, evalL s.l x = evalL s'.l x := fun x hx => by
    cases x with
    | tmp t => simp [evalL, h t hx]
    | _ => rfl
  have h1 : execOp (evalL s.l) o = execOp (evalL s'.l) o := execOp_congr o (fun cs b e => by rw [e] at hk; cases hk.1) he
  have h2 : o.op.operands.toList.map (evalL s.l) = o.op.operands.toList.map (evalL s'.l) := List.map_congr_left fun x hx => he x (by simpa using hx)
  have h3 : (q.rd ++ q.wr).map (lookP s.L) = (q.rd ++ q.wr).map (lookP s'.L) := List.map_congr_left hL
  unfold inAt
  rw [h1, h2, h3]
theorem lookP_app : ∀ (l l' : PL) (j : Nat), j ∉ l.map (·.1) → lookP (l ++ l') j = lookP l' j
  | [], _, _, _ => rfl
  | (k, v) :: l, l', j, h => by
    simp only [List.map_cons, List.mem_cons, not_or] at h
    simp only [List.cons_append, lookP]
    rw [show Nat.beq k j = false by
      cases hb : Nat.beq k j with
      | false => rfl
      | true => exact absurd (Nat.eq_of_beq_eq_true hb).symm h.1]
    exact lookP_app l l' j h.2
theorem lookP_app2 : ∀ (l m m' : PL) (j : Nat), lookP m j = lookP m' j → lookP (l ++ m) j = lookP (l ++ m') j
  | [], _, _, _, h => h
  | (k, v) :: l, m, m', j, h => by
    simp only [List.cons_append, lookP]
    cases Nat.beq k j
    · exact lookP_app2 l m m' j h
    · rfl
theorem dep_all (hb : ∀ i o, l[i]? = some o → ∀ d ∈ bef o, d < i) (hchk : ∀ p, ∀ c ∈ chkN n l qs s0 p l.length, c.1 = c.2) (hsep : sepB l (rs l qs) (ws l qs s0) = true) :
    ∀ (N k : Nat), k < N → k < l.length → ∀ p p' : Nat → Pay, (∀ j, j = k ∨ j ∈ anc l k → p j = p' j) → ∀ o q, l[k]? = some o → qs[k]? = some q →
      stepV (stN l qs s0 p k) o q (p k) = stepV (stN l qs s0 p' k) o q (p' k) ∧ stepW (stN l qs s0 p k) o q (p k) = stepW (stN l qs s0 p' k) o q (p' k)
  | 0, _, h, _, _, _, _, _, _, _, _ => absurd h (Nat.not_lt_zero _)
  | N + 1, k, hkN, hkl, p, p', hp, o, q, ho, hq => by
    cases hsk : q.skip with
    | true => simp [stepV, stepW, hsk]
    | false =>
      obtain ⟨o', q', ho', hq', hc⟩ := chkN_at (n := n) (p := p) l.length k hkl (hchk p)
      rw [ho] at ho'
      rw [hq] at hq'
      injection ho' with ho'
      injection hq' with hq'
      subst ho' hq'
      have hkn := hc (.b (noSel o.op && knownAll (stN l qs s0 p k).l o.op.operands), .b true) (List.mem_append_right _ (List.mem_cons_of_mem _ (by rw [hsk]; exact List.mem_cons_self ..)))
      injection hkn with hkn
      have hanc := anc_trans hb
      have hQ : ∀ m, m < l.length → ∃ om qm, l[m]? = some om ∧ qs[m]? = some qm := fun m hm => by
        obtain ⟨o', q', h1, h2, _⟩ := chkN_at (n := n) (p := p) l.length m hm (hchk p)
        exact ⟨o', q', h1, h2⟩
      have hslot : ∀ t, .tmp t ∈ o.op.operands → ∀ m, m ≤ k → look (stN l qs s0 p m).l t = look (stN l qs s0 p' m).l t := fun t ht m => by
        induction m with
        | zero => intro _; rfl
        | succ m ih =>
          intro hm
          obtain ⟨om, qm, hom, hqm⟩ := hQ m (by omega)
          simp only [stN, hom, hqm, next]
          cases hd : om.dst with
          | none => exact ih (by omega)
          | some d =>
            simp only [putL, look]
            cases hbq : Nat.beq d t with
            | false => exact ih (by omega)
            | true =>
              have hdt : d = t := Nat.eq_of_beq_eq_true hbq
              subst hdt
              have hma : m ∈ anc l k := by
                rcases sepB_spec hsep (show m < k by omega) hkl with h | h
                · exact h
                · have := (apart_dl h (by rw [foot_dst hom]; exact hd)).1
                  rw [foot_looks ho, tmp_looks ht] at this
                  cases this
              rw [(dep_all hb hchk hsep N m (by omega) (by omega) p p' (fun j hj => hp j (.inr (hj.elim (fun e => e ▸ hma) fun e => hanc.2 k m j hma e))) om qm hom hqm).1]
              rfl
      have hpc : ∀ x, x ∈ q.rd ++ q.wr → ∀ m, m ≤ k → lookP (stN l qs s0 p m).L x = lookP (stN l qs s0 p' m).L x := fun x hx m => by
        induction m with
        | zero => intro _; rfl
        | succ m ih =>
          intro hm
          obtain ⟨om, qm, hom, hqm⟩ := hQ m (by omega)
          simp only [stN, hom, hqm, next]
          by_cases hxm : x ∈ stepN qm
          · have hma : m ∈ anc l k := by
              rcases sepB_spec hsep (show m < k by omega) hkl with h | h
              · exact h
              · have hw : x ∈ (footAt l (rs l qs) (ws l qs s0) m).wr := by
                  simp only [footAt]
                  rw [ws, getD_range _ _ _ _ (by omega)]
                  simp only [wK, hom, hqm]
                  rw [zipF_names]
                  exact hxm
                have hn := apart_wr h hw
                simp only [footAt] at hn
                rw [ws, rs, getD_range _ _ _ _ hkl, getD_range _ _ _ _ hkl] at hn
                simp only [wK, rK, ho, hq, hsk, cond_false] at hn
                rw [zipF_names] at hn
                simp only [stepN, hsk, cond_false] at hn
                rcases List.mem_append.1 hx with hx | hx
                · exact absurd hx hn.1
                · exact absurd hx hn.2
            rw [(dep_all hb hchk hsep N m (by omega) (by omega) p p' (fun j hj => hp j (.inr (hj.elim (fun e => e ▸ hma) fun e => hanc.2 k m j hma e))) om qm hom hqm).2]
            exact lookP_app2 _ _ _ _ (ih (by omega))
          · rw [lookP_app _ _ _ (by rw [zipW_names]; exact hxm), lookP_app _ _ _ (by rw [zipW_names]; exact hxm)]
            exact ih (by omega)
      have hin := in_eq (q := q) hkn (fun t ht => hslot t ht k (Nat.le_refl _)) fun x hx => hpc x hx k (Nat.le_refl _)
      unfold stepV stepW
      rw [hin, hp k (.inl rfl)]
      exact ⟨rfl, rfl⟩
/-- **A REGION THAT DRAWS ITS ORDER, WALKED BY ITS STEPS.** -/
theorem wp_drw {Q : Exit → Act → World → Prop} {id : Nat} {a : Act} {w : World} {l0 : List (Nat × Value)} {L0 : PL} (hE : Env n l0 a) (hS : Stp olds w0 w (lookM (den olds w0 L0))) (qs : List (Step P olds w0)) (s' : (Nat → Pay) → St)
    (hm : P.follows .mixedOrders = true) (hsep : (plainFrom .any n 0 l && sepB l (rs l qs) (ws l qs ⟨l0, L0⟩)) = true)
    (hchk : ∀ p, (allChk n l qs ⟨l0, L0⟩ s' p).map (·.1) = (allChk n l qs ⟨l0, L0⟩ s' p).map (·.2)) (hpre : ∀ p, preAll l qs ⟨l0, L0⟩ p)
    (he : ∀ p a' w', Env n (s' p).l a' → Stp olds w0 w' (lookM (den olds w0 (s' p).L)) → Q .normal a' w') : (Code.region id l.toArray true).wp P Q a w := by
  rw [Bool.and_eq_true] at hsep
  have hc : ∀ p, ∀ c ∈ chkN n l qs ⟨l0, L0⟩ p l.length, c.1 = c.2 := fun p c hc => fst_snd (hchk p) c (List.mem_append_left _ hc)
  have hb : ∀ i o, l[i]? = some o → ∀ d ∈ bef o, d < i := fun i o ho d hd => by
    obtain ⟨e, he, rfl⟩ := List.mem_map.1 hd
    obtain ⟨he1, he2⟩ := List.mem_filter.1 he
    have := (plain_spec n 0 l i o hsep.1 ho).1 e (by simpa using he1) he2
    omega
  have hq : ∀ k, k < l.length → ∃ q, qs[k]? = some q := fun k hk => by
    obtain ⟨_, q, _, h, _⟩ := chkN_at (n := n) (p := fun _ => pay0) l.length k hk (hc _)
    exact ⟨q, h⟩
  refine wp_sep (l0 := l0) (L0 := den olds w0 L0) hE hS (vs l qs ⟨l0, L0⟩) (ws l qs ⟨l0, L0⟩) (rs l qs) hm hsep.1 hsep.2 (by simp [vs]) (depAll_of _ _ _ fun j hj p p' hp => ?_) ?_ fun p a' w' hE' hS' => ?_
  · have hj : j < l.length := by simpa [vs] using hj
    rw [Nat.zero_add] at hp
    obtain ⟨q, hqj⟩ := hq j hj
    have ho : l[j]? = some l[j] := List.getElem?_eq_getElem hj
    have := dep_all hb hc hsep.2 (j + 1) j (Nat.lt_succ_self _) hj p p' hp l[j] q ho hqj
    rw [vs, ws, getD_range _ _ _ _ hj, getD_range _ _ _ _ hj]
    simp only [vK, wK, ho, hqj]
    rw [zipF_inst, zipF_inst, this.1, this.2]
    exact ⟨rfl, rfl⟩
  · have key : ∀ (os : List Oper) (k : Nat), (∀ j o, os[j]? = some o → l[k + j]? = some o) → SDuties P l Q n olds w0 l0 (den olds w0 L0) (vs l qs ⟨l0, L0⟩) (ws l qs ⟨l0, L0⟩) (rs l qs) os k := fun os => by
      induction os with
      | nil => intro _ _; trivial
      | cons o os ih =>
        intro k hk
        refine ⟨?_, ih (k + 1) fun j o h => by rw [show k + 1 + j = k + (j + 1) by omega]; exact hk (j + 1) o (by simpa using h)⟩
        have ho : l[k]? = some o := hk 0 o rfl
        have hlt : k < l.length := (List.getElem?_eq_some_iff.1 ho).1
        obtain ⟨q, hqk⟩ := hq k hlt
        intro p a w hv K hK
        have hV : ∀ p', (vs l qs ⟨l0, L0⟩).getD k (fun _ => undef) p' = stepV (stN l qs ⟨l0, L0⟩ p' k) o q (p' k) := fun p' => by
          rw [vs, getD_range _ _ _ _ hlt]
          simp only [vK, ho, hqk]
        have hW : ∀ p', instW ((ws l qs ⟨l0, L0⟩).getD k []) p' = den olds w0 (zipW (stepN q) (stepW (stN l qs ⟨l0, L0⟩ p' k) o q (p' k))) := fun p' => by
          rw [ws, getD_range _ _ _ _ hlt]
          simp only [wK, ho, hqk]
          rw [zipF_inst]
        have hWn : ((ws l qs ⟨l0, L0⟩).getD k []).map (·.1) = stepN q := by
          rw [ws, getD_range _ _ _ _ hlt]
          simp only [wK, ho, hqk]
          rw [zipF_names]
        have hR : (rs l qs).getD k [] = bif q.skip then [] else q.rd := by
          rw [rs, getD_range _ _ _ _ hlt]
          simp only [rK, ho, hqk]
        obtain ⟨h1, h2, h3, h4⟩ := hv
        rw [vlAt_stN p hq k (by omega)] at h3
        rw [vmAt_stN p hq k (by omega), hR, hWn] at h4
        rw [vmAt_stN p hq k (by omega), hWn] at hK
        obtain ⟨o', q', ho', hq', hck⟩ := chkN_at (n := n) (p := p) l.length k hlt (hc p)
        rw [ho] at ho'
        rw [hqk] at hq'
        injection ho' with ho'
        injection hq' with hq'
        subst ho' hq'
        refine step_wp (q := q) hck (fun hm => by have := preG_at l qs 0 k o q (hpre p) ho hqk hm; rwa [Nat.zero_add] at this) h1 h3 h4 fun x w' hst => ?_
        have := hK x w'
        rw [hV, hW, stN_congr (p := upd p k x) (p' := p) k fun j hj => upd_ne _ _ _ _ (by omega), upd_at] at this
        exact this hst
    exact key l 0 fun j o h => by rw [Nat.zero_add]; exact h
  · rw [vlAt_stN p hq _ (Nat.le_refl _)] at hE'
    rw [vmAt_stN p hq _ (Nat.le_refl _)] at hS'
    exact he p a' w' (end_env (fun c h => fst_snd (hchk p) c (List.mem_append_right _ h)) hE') (end_mem (fun c h => fst_snd (hchk p) c (List.mem_append_right _ h)) hS')
end
end Go.Proofs.YtmmfpgoodfgkbaaGreat
/-
  THE STEPS: what computes, what loads and stores, what makes memory, what calls a function with a contract. No condition.
-/
namespace Go.Proofs.YtmmfpgoodfgkbaaGreat
open Go Go.RowKit
set_option linter.unusedVariables false

theorem kr {p q : Prop} (h : p) (e : p = q := by kernel_rfl) : q := e ▸ h
def valOf : Result Next → Value
  | .ok (.value v) _ => v
  | _ => undef
def no : List (U × U) := [(.b true, .b false)]
theorem no_false {p : Prop} (h : ∀ c ∈ no, c.1 = c.2) : p := by
  have := h _ (List.mem_singleton.2 rfl)
  injection this with this
  cases this
section
variable {olds : Nat → Prop} {w0 : World}
theorem pc_at {names : List Nat} {L : PL} {ps : List (Option Pc)} (hL : ps = names.map (lookP L)) (j : Nat) {c : Pc} (h : ps[j]? = some (some c)) : ∃ k, names[j]? = some k ∧ lookP L k = some c ∧ restr names (lookM (den olds w0 L)) k = some (c.den olds w0) := by
  subst hL
  rw [List.getElem?_map] at h
  cases hk : names[j]? with
  | none => rw [hk] at h; cases h
  | some k =>
    rw [hk] at h
    simp only [Option.map_some, Option.some.injEq] at h
    refine ⟨k, rfl, h, ?_⟩
    unfold restr
    rw [(hasN_mem names k).2 (List.mem_of_getElem? hk), lookM_den, h]
    rfl
theorem one_pc {k : Nat} {L : PL} {c : Pc} (hL : [some c] = [k].map (lookP L)) : lookP L k = some c ∧ restr [k] (lookM (den olds w0 L)) k = some (c.den olds w0) := by
  have h : lookP L k = some c := by simpa using hL.symm
  refine ⟨h, ?_⟩
  unfold restr
  rw [show hasN [k] k = true by simp [hasN], lookM_den, h]
  rfl
theorem rd_kept {M : Nat → Option Ck} {w : World} {A : Option Addr} {l : List Int} (hS : Stp olds w0 w M) (h : RdAt olds w0 A l) : Reads w w.heap.size 1 A l.length (u8s l) := by
  obtain ⟨B, hr, hB⟩ := h
  have h2 : Reads w B 1 A l.length (u8s l) := hr.keep fun p hp => by
    have := hS.kept p.block (hB _ hp).1 (hB _ hp).2
    unfold World.cell?
    rw [this]
  refine ⟨h2.1, fun hn => ?_⟩
  obtain ⟨ad, hA, hb, hc⟩ := h2.2 hn
  exact ⟨ad, hA, Nat.lt_of_lt_of_le (hB _ hb).1 hS.size, hc⟩
theorem cell_kept {M : Nat → Option Ck} {w : World} {b off : Nat} {cs : List Value} (hS : Stp olds w0 w M) (h : OldAt olds w0 b off cs) : w.rangeAt b off cs := fun j v hj => by
  obtain ⟨h1, h2⟩ := h.2 (fun e => by rw [e] at hj; simp at hj)
  have := hS.kept b h1 h2
  have hc := h.1 j v hj
  unfold World.cell? at hc ⊢
  rw [this]
  exact hc
end

section
variable {P : Program} {olds : Nat → Prop} {w0 : World}
/-- Computes, without memory. -/
def pu : Step P olds w0 where
  rd := []
  wr := []
  skip := false
  must := false
  V i _ := valOf (i.sem.run P w0)
  W _ _ := []
  chk i := [(.r fun w => i.sem.run P w, .r fun w => .ok (.value (valOf (i.sem.run P w0))) w)]
  pre _ := True
  ok _ i L a w K Q hc _ hs _ _ _ hK := by
    have h1 := hc _ (List.mem_singleton.2 rfl)
    injection h1 with h1
    exact exec_wp (by rw [hs]; exact congrFun h1 w) (hK pay0 w (stp_none w))
/-- Computes; the value is to be shown. -/
def pe (v : Value) : Step P olds w0 where
  rd := []
  wr := []
  skip := false
  must := true
  V _ _ := v
  W _ _ := []
  chk i := [(.r fun w => i.sem.run P w, .r fun w => .ok (.value (valOf (i.sem.run P w0))) w)]
  pre i := valOf (i.sem.run P w0) = v
  ok _ i L a w K Q hc hp hs _ _ _ hK := by
    have h1 := hc _ (List.mem_singleton.2 rfl)
    injection h1 with h1
    exact exec_wp (by rw [hs]; exact congrFun h1 w) (by rw [hp rfl]; exact hK pay0 w (stp_none w))
/-- Computes where something holds: the whole is to be shown. -/
def pf (v : Value) : Step P olds w0 where
  rd := []
  wr := []
  skip := false
  must := true
  V _ _ := v
  W _ _ := []
  chk i := []
  pre i := ∀ w, i.sem.run P w = .ok (.value v) w
  ok _ i L a w K Q hc hp hs _ _ _ hK := exec_wp (by rw [hs]; exact hp rfl w) (hK pay0 w (stp_none w))
/-- The same step with its value said otherwise. -/
def ov (q : Step P olds w0) (v : Value) (hq : q.must = false := by rfl) : Step P olds w0 where
  rd := q.rd
  wr := q.wr
  skip := q.skip
  must := true
  V _ _ := v
  W := q.W
  chk := q.chk
  pre i := ∀ x, q.V i x = v
  ok h i L a w K Q hc hp hs hv hL hS hK := q.ok h i L a w K Q hc (fun hm => by rw [hq] at hm; cases hm) hs hv hL hS fun x w' hst => by rw [hp rfl x]; exact hK x w' hst
/-- Is carried out where b holds. -/
def gs (b : Bool) (q : Step P olds w0) (hq : q.skip = false := by rfl) : Step P olds w0 where
  rd := q.rd
  wr := q.wr
  skip := !b
  must := q.must
  V := q.V
  W := q.W
  chk := q.chk
  pre i := b = true → q.pre i
  ok h i L a w K Q hc hp hs hv hL hS hK := q.ok hq i L a w K Q hc (fun hm => hp hm (by simpa using h)) hs hv hL hS hK
/-- The same where the guard itself may not have been looked at (u). -/
def gu (b u : Bool) (q : Step P olds w0) (hq : q.skip = false := by rfl) : Step P olds w0 where
  rd := q.rd
  wr := q.wr
  skip := !b
  must := q.must
  und := u
  V := q.V
  W := q.W
  chk := q.chk
  pre i := b = true → q.pre i
  ok h i L a w K Q hc hp hs hv hL hS hK := q.ok hq i L a w K Q hc (fun hm => hp hm (by simpa using h)) hs hv hL hS hK
/-- Is passed over. -/
def sk : Step P olds w0 where
  rd := []
  wr := []
  skip := true
  must := false
  V _ _ := undef
  W _ _ := []
  chk _ := []
  pre _ := True
  ok h := by cases h

def rowT (P : Program) (t : TypeId) : Bool := match P.underlying t with
  | some (.struct _) => true
  | some (.array _ _) => true
  | _ => false
def szT (P : Program) (t : TypeId) : Nat := match P.info? t with
  | some i => i.size
  | none => 0
def offOf : Value → Nat
  | .pointer (some a) => a.off
  | _ => 0
def addOff (o : Nat) : Nat → Nat
  | 0 => o
  | j + 1 => o + (j + 1)
def part (cs : List Value) (j n : Nat) : List Value := bif Nat.beq j 0 && Nat.beq n cs.length then cs else (cs.drop j).take n
theorem rowT_spec {t : TypeId} (h : rowT P t = true) : ∃ D, P.underlying t = some D ∧ D.isRow = true := by
  unfold rowT at h
  cases hu : P.underlying t with
  | none => rw [hu] at h; cases h
  | some D =>
    rw [hu] at h
    refine ⟨D, rfl, ?_⟩
    cases D <;> first | rfl | cases h
theorem rowT_agg {t : TypeId} {D : TypeDesc} (hu : P.underlying t = some D) (h : rowT P t = false) (w : World) : (isAgg t).run P w = .ok false w := by
  unfold rowT at h
  rw [hu] at h
  unfold isAgg
  simp only [Sem.run_bind, run_underlying hu, Result.andThen_ok]
  cases D <;> first | rfl | cases h
theorem szT_spec {t : TypeId} {n : Nat} (h : szT P t = n) (hn : 0 < n) : (P.info? t).map (·.size) = some n := by
  unfold szT at h
  cases hi : P.info? t with
  | none => rw [hi] at h; simp at h; omega
  | some i => rw [hi] at h; simp at h; simp [h]
theorem part_len {cs : List Value} {j n : Nat} (h : j + n ≤ cs.length) : (part cs j n).length = n := by
  unfold part
  cases h1 : (Nat.beq j 0 && Nat.beq n cs.length) with
  | true => simp only [Bool.and_eq_true, Nat.beq_eq] at h1; simp only [cond_true]; omega
  | false => simp; omega
theorem part_at {cs : List Value} {j n i : Nat} {v : Value} (h : (part cs j n)[i]? = some v) : cs[j + i]? = some v := by
  unfold part at h
  cases h1 : (Nat.beq j 0 && Nat.beq n cs.length) with
  | true =>
    rw [h1] at h
    simp only [Bool.and_eq_true, Nat.beq_eq] at h1
    rw [h1.1, Nat.zero_add]; exact h
  | false =>
    rw [h1] at h
    simp only [cond_false] at h
    have hi : i < n := by
      have := (List.getElem?_eq_some_iff.1 h).1
      simp at this; omega
    rw [List.getElem?_take_of_lt hi, List.getElem?_drop] at h
    exact h
/-- What a load leaves, and what it needs. -/
def ldV (P : Program) (t : TypeId) (cs : List Value) (j : Nat) : Value := bif rowT P t then .agg (part cs j (szT P t)).toArray else (cs[j]?).getD undef
def ldB (P : Program) (t : TypeId) (cs : List Value) (j : Nat) : Bool := bif rowT P t then Nat.blt 0 (szT P t) && Nat.ble (j + szT P t) cs.length else Nat.blt j cs.length && (P.underlying t).isSome
theorem ld_run {t : TypeId} {b o : Nat} {cs : List Value} {j : Nat} {w : World} (hb : ldB P t cs j = true) (hr : ∀ i v, cs[j + i]? = some v → w.cell? ⟨b, o + i, none⟩ = some v) :
    (Instr.loadAt t (.pointer (some ⟨b, o, none⟩))).run P w = .ok (ldV P t cs j) w := by
  unfold ldB at hb
  unfold ldV
  cases ht : rowT P t with
  | true =>
    rw [ht] at hb
    simp only [cond_true, Bool.and_eq_true, Nat.blt_eq, Nat.ble_eq] at hb
    obtain ⟨D, hu, hD⟩ := rowT_spec ht
    have hl := part_len hb.2
    exact run_loadAt_mid w b o t _ D (fun i v h => hr i v (part_at h)) hu hD (by rw [hl]; exact szT_spec rfl hb.1)
  | false =>
    rw [ht] at hb
    simp only [cond_false, Bool.and_eq_true, Nat.blt_eq, Option.isSome_iff_exists] at hb
    obtain ⟨D, hu⟩ := hb.2
    have hc : cs[j]? = some cs[j] := List.getElem?_eq_getElem hb.1
    have h1 := hr 0 cs[j] hc
    simp [Instr.loadAt, Instr.sureAddr, loadVar, rowT_agg hu ht, run_load, show w.cell? ⟨b, o, none⟩ = some cs[j] from h1, hc]
/-- Loads out of a block, or out of a range that lay there. -/
def ldArr (cs : Array Value) (t : TypeId) (j : Nat) (P : Program) : Value := bif rowT P t && Nat.beq j 0 && Nat.beq (szT P t) cs.size then .agg cs else ldV P t cs.toList j
theorem ldArr_eq (cs : Array Value) (t : TypeId) (j : Nat) : ldArr cs t j P = ldV P t cs.toList j := by
  unfold ldArr ldV part
  cases h1 : rowT P t <;> cases h2 : Nat.beq j 0 <;> cases h3 : Nat.beq (szT P t) cs.size <;> simp
def ld (k : Nat) : Step P olds w0 where
  rd := [k]
  wr := []
  skip := false
  must := false
  V i _ := match i.o.op, i.vals, i.ps with
    | .load t _, [x], [some (.blk g T cs)] => ldArr cs t (offOf x) P
    | _, _, _ => undef
  W _ _ := []
  chk i := match i.o.op, i.vals, i.ps with
    | .load t _, [x], [some (.blk g T cs)] => [(.v x, .v (.pointer (some ⟨g, offOf x, none⟩))), (.b (ldB P t cs.toList (offOf x)), .b true)]
    | _, _, _ => no
  pre _ := True
  ok _ i L a w K Q hc _ hs hv hL hS hK := by
    obtain ⟨o, sem, vals, ps⟩ := i
    revert hc hK hs hv hL
    simp only
    split
    · rename_i t y x g T cs ho
      intro hc hs hv hL hK
      have h1 := hc _ (List.mem_cons_self ..)
      have h2 := hc _ (List.mem_cons_of_mem _ (List.mem_singleton.2 rfl))
      injection h1 with h1
      injection h2 with h2
      have hx : a.eval y = x := by simpa [ho, Op.operands] using hv
      have hb := hS.blk k (one_pc (olds := olds) (w0 := w0) hL).2
      have := ld_run (P := P) (t := t) (b := g) (o := offOf x) (w := w) h2 fun i v hi => by rw [hb.cell]; simpa using hi
      refine exec_wp (w' := w) ?_ (hK pay0 w (stp_none w))
      rw [ldArr_eq]
      rw [← h1] at this
      simp only [execOp, ho, hx, Sem.run_bind, this, Result.andThen_ok, Sem.run_pure]
    · intro hc; exact no_false hc
def lo (k j : Nat) : Step P olds w0 where
  rd := [k]
  wr := []
  skip := false
  must := false
  V i _ := match i.o.op, i.ps with
    | .load t _, [some (.old b o cs)] => ldV P t cs j
    | _, _ => undef
  W _ _ := []
  chk i := match i.o.op, i.vals, i.ps with
    | .load t _, [x], [some (.old b o cs)] => [(.v x, .v (.pointer (some ⟨b, addOff o j, none⟩))), (.b (ldB P t cs j), .b true)]
    | _, _, _ => no
  pre _ := True
  ok _ i L a w K Q hc _ hs hv hL hS hK := by
    obtain ⟨o, sem, vals, ps⟩ := i
    revert hc hK hs hv hL
    simp only
    split
    · rename_i t y x b o' cs ho
      intro hc hs hv hL hK
      have h1 := hc _ (List.mem_cons_self ..)
      have h2 := hc _ (List.mem_cons_of_mem _ (List.mem_singleton.2 rfl))
      injection h1 with h1
      injection h2 with h2
      have hx : a.eval y = x := by simpa [ho, Op.operands] using hv
      have hb := cell_kept hS (hS.pure_ k (one_pc (olds := olds) (w0 := w0) hL).2)
      have := ld_run (P := P) (t := t) (b := b) (o := addOff o' j) (w := w) h2 fun i v hi => by
        have := hb (j + i) v hi
        rwa [show addOff o' j + i = o' + (j + i) by cases j <;> simp [addOff]; omega]
      refine exec_wp (w' := w) ?_ (by simpa only [ho] using hK pay0 w (stp_none w))
      rw [← h1] at this
      simp only [execOp, ho, hx, Sem.run_bind, this, Result.andThen_ok, Sem.run_pure]
    · intro hc; exact no_false hc

/-- Stores into a block of the walk's own. -/
def stW (cs : Array Value) (j : Nat) : Value → Array Value
  | .agg new => bif Nat.beq j 0 && Nat.beq new.size cs.size then new else setFrom cs j new.toList
  | v => cs.setIfInBounds j v
def stB (P : Program) (t : TypeId) (cs : Array Value) (j : Nat) : Value → List (U × U)
  | .agg new => [(.b (Nat.blt 0 new.size && Nat.ble (j + new.size) cs.size && Nat.beq (szT P t) new.size && new.toList.all (·.oneCell')), .b true)]
  | v => [(.b (Nat.blt j cs.size && v.oneCell' && Nat.beq (szT P t) 1), .b true)]
theorem st_run {t : TypeId} {g : Nat} {T : TypeId} {cs : Array Value} {j : Nat} {v : Value} {w : World} (hb : Blk w g T cs) (h : ∀ c ∈ stB P t cs j v, c.1 = c.2) :
    ∃ w', (Instr.storeAt t (.pointer (some ⟨g, j, none⟩)) v).run P w = .ok () w' ∧ Blk w' g T (stW cs j v) ∧ w.grownBy w' (some g) ∧ w'.heap.size = w.heap.size := by
  unfold stB at h
  unfold stW
  split at h
  · rename_i new
    have h1 := h _ (List.mem_singleton.2 rfl)
    injection h1 with h1
    simp only [Bool.and_eq_true, Nat.blt_eq, Nat.ble_eq, Nat.beq_eq] at h1
    obtain ⟨⟨⟨h0, h1⟩, h2⟩, h3⟩ := h1
    refine ⟨w.setCells g j new.toList, ?_, ?_, (grown_setCells g _ _ _).1, (grown_setCells g _ _ _).2⟩
    · simp [Instr.storeAt, Instr.sureAddr, run_storeVar_mid (P := P) w g j t new (fun i hi => ⟨by rw [hb.cell, Array.getElem?_eq_getElem (by omega)]; rfl, hb.frozen _⟩) (szT_spec h2 h0) (by rw [← Array.all_toList]; exact h3)]
    · have := blk_setCells new.toList j hb
      cases hq : (Nat.beq j 0 && Nat.beq new.size cs.size) with
      | false => exact this
      | true =>
        simp only [Bool.and_eq_true, Nat.beq_eq] at hq
        rw [hq.1, setFrom_whole cs new hq.2.symm] at this
        rw [hq.1]
        exact this
  · rename_i hne
    have h1 := h _ (List.mem_singleton.2 rfl)
    injection h1 with h1
    simp only [Bool.and_eq_true, Nat.blt_eq, Nat.beq_eq] at h1
    obtain ⟨⟨h1, h2⟩, h3⟩ := h1
    refine ⟨w.setCell ⟨g, j, none⟩ v, run_store1 t g j T cs v h2 (fun w => ?_) hb h1, ?_, grownBy_setCell w ⟨g, j, none⟩ v, by simp [World.setCell]⟩
    · have := szT_spec h3 (by omega)
      cases hi : P.info? t with
      | none => rw [hi] at this; cases this
      | some i =>
        rw [hi] at this
        simp only [Option.map_some, Option.some.injEq] at this
        simp [sizeOf, typeInfo, run_program, hi, this]
    · have := hb.set_ j v
      cases v <;> first | exact this | exact absurd rfl (hne _)
def st (k : Nat) : Step P olds w0 where
  rd := []
  wr := [k]
  skip := false
  must := false
  V _ _ := undef
  W i _ := match i.vals, i.ps with
    | [x, v], [some (.blk g T cs)] => [some (.blk g T (stW cs (offOf x) v))]
    | _, _ => []
  chk i := match i.o.op, i.vals, i.ps with
    | .store t _ _, [x, v], [some (.blk g T cs)] => (.v x, .v (.pointer (some ⟨g, offOf x, none⟩))) :: stB P t cs (offOf x) v
    | _, _, _ => no
  pre _ := True
  ok _ i L a w K Q hc _ hs hv hL hS hK := by
    obtain ⟨o, sem, vals, ps⟩ := i
    revert hc hK hs hv hL
    simp only
    split
    · rename_i t y z x v g T cs ho
      intro hc hs hv hL hK
      have h1 := hc _ (List.mem_cons_self ..)
      injection h1 with h1
      have hxv : a.eval y = x ∧ a.eval z = v := by simpa [ho, Op.operands] using hv
      obtain ⟨hl, hr⟩ := one_pc (olds := olds) (w0 := w0) hL
      have hb := hS.blk k hr
      obtain ⟨w', hrun, hb', hg, hsz⟩ := st_run (P := P) hb fun c h => hc c (List.mem_cons_of_mem _ h)
      rw [← h1] at hrun
      refine exec_wp_skip (w' := w') (by simp only [execOp, ho, hxv.1, hxv.2, Sem.run_bind, hrun, Result.andThen_ok, Sem.run_pure]) (hK pay0 w' ?_)
      have hM : lookM (den olds w0 L) k = some (ckB g T cs) := by rw [lookM_den, hl]; rfl
      exact stp_one k _ (.inr ⟨g, ⟨k, List.mem_singleton.2 rfl, _, hM, rfl⟩, hg⟩) hb' fun x hx => by
        have : x = g := hx
        subst this
        exact ⟨hb'.lt, .inr ⟨k, List.mem_singleton.2 rfl, _, hM, rfl⟩⟩
    · intro hc; exact no_false hc

/-- Makes a block. -/
def nwV (o : Op) (g : Nat) : Value := match o with
  | .buildSlice _ n _ => .slice (some ⟨g, 0, none⟩) n n
  | _ => .pointer (some ⟨g, 0, none⟩)
def cellsOf : Option Obj → Array Value
  | some (.cells cs _ _) => cs
  | _ => #[]
def typeOf : Option Obj → TypeId
  | some (.cells _ T _) => T
  | _ => 0
def made (P : Program) (w0 : World) (s : Sem Next) : Option Obj := match s.run P { w0 with heap := #[] } with
  | .ok _ w' => w'.heap[0]?
  | .halt _ _ => none
def nw (k : Nat) : Step P olds w0 where
  rd := []
  wr := [k]
  skip := false
  must := false
  V i x := nwV i.o.op x.g
  W i x := [some (.blk x.g (typeOf (made P w0 i.sem)) (cellsOf (made P w0 i.sem)))]
  chk i := [(.r fun w => i.sem.run P w, .r fun w => .ok (.value (nwV i.o.op w.heap.size)) (w.alloc (.cells (cellsOf (made P w0 i.sem)) (typeOf (made P w0 i.sem)))))]
  pre _ := True
  ok _ i L a w K Q hc _ hs hv hL hS hK := by
    have h1 := hc _ (List.mem_singleton.2 rfl)
    injection h1 with h1
    exact exec_wp (by rw [hs]; exact congrFun h1 w) (hK ⟨w.heap.size, 0, undef, none⟩ _ (stp_alloc k w _ _))

/-- An index into a slice. -/
def ixK : Value → Nat
  | .int _ (.ofNat k) => k
  | _ => 0
def ixS (P : Program) (t : TypeId) : Nat := match P.underlying t with
  | some (.slice e) => szT P e
  | _ => 0
def ix : Step P olds w0 where
  rd := []
  wr := []
  skip := false
  must := true
  V i _ := match i.o.op, i.vals with
    | .indexAddr t _ _, [.slice (some a) n c, j] => .pointer (some ⟨a.block, a.off + ixK j * ixS P t, none⟩)
    | _, _ => undef
  W _ _ := []
  chk i := match i.o.op, i.vals with
    | .indexAddr t _ _, [.slice (some a) n c, j] => [(.v j, .v (.int .i64 (ixK j : Nat))), (.b (Nat.blt 0 (ixS P t)), .b true), (.o a.spot, .o none)]
    | _, _ => no
  pre i := match i.vals with
    | [.slice (some a) n c, j] => ixK j < n
    | _ => True
  ok _ i L a w K Q hc hp hs hv hL hS hK := by
    obtain ⟨o, sem, vals, ps⟩ := i
    revert hc hK hs hv hL hp
    simp only
    split
    · rename_i t y z A n c j ho
      intro hc hp hs hv hL hK
      have h1 := hc _ (List.mem_cons_self ..)
      have h2 := hc _ (List.mem_cons_of_mem _ (List.mem_cons_self ..))
      have h3 := hc _ (List.mem_cons_of_mem _ (List.mem_cons_of_mem _ (List.mem_singleton.2 rfl)))
      injection h1 with h1
      injection h2 with h2
      injection h3 with h3
      simp only [Nat.blt_eq] at h2
      have hxv : a.eval y = .slice (some A) n c ∧ a.eval z = j := by simpa [ho, Op.operands] using hv
      obtain ⟨e, hu, he⟩ : ∃ e, P.underlying t = some (.slice e) ∧ ixS P t = szT P e := by
        unfold ixS at h2
        cases hu : P.underlying t with
        | none => rw [hu] at h2; simp at h2
        | some D =>
          cases D with
          | slice e => exact ⟨e, rfl, by simp [ixS, hu]⟩
          | _ => rw [hu] at h2; simp at h2
      have hsz : ∀ w, (sizeOf e).run P w = .ok (szT P e) w := fun w => by
        have := szT_spec (P := P) (t := e) rfl (by omega)
        cases hi : P.info? e with
        | none => rw [hi] at this; cases this
        | some i =>
          rw [hi] at this
          simp only [Option.map_some, Option.some.injEq] at this
          simp [sizeOf, typeInfo, run_program, hi, ← this]
      obtain ⟨b, off, spot⟩ := A
      have h3 : spot = none := h3
      subst h3
      have := run_index1 (P := P) (w := w) hu hsz b off n c (ixK j) (hp trivial)
      rw [← h1] at this
      refine exec_wp (w' := w) ?_ (hK pay0 w (stp_none w))
      simp only [execOp, ho, hxv.1, hxv.2, Sem.run_bind, this, Result.andThen_ok, Sem.run_pure, he]
    · intro hc; exact no_false hc

/-- A function's contract, in pieces. -/
def argsOf : Result Next → Array Value
  | .ok (.enter _ args) _ => args
  | _ => #[]
structure Ct (P : Program) where
  f : FuncId
  must : Bool
  nr : Nat
  nw : Nat
  V : Array Value → List (Option Pc) → Pay → Value
  W : Array Value → List (Option Pc) → Pay → List (Option Pc)
  chk : Array Value → List (Option Pc) → List (U × U)
  pre : Nat → Array Value → List (Option Pc) → Prop
  ok : ∀ (olds : Nat → Prop) (w0 : World) (rd wr : List Nat) (args : Array Value) (ps : List (Option Pc)) (L : PL) (w : World), rd.length = nr → wr.length = nw → (∀ c ∈ chk args ps, c.1 = c.2) → (must = true → pre w0.heap.size args ps) → ps = (rd ++ wr).map (lookP L) → Stp olds w0 w (restr (rd ++ wr) (lookM (den olds w0 L))) →
    Calls P f args w fun e w' => ∃ x, e = .returned (V args ps x) ∧ Stp (blksOf (lookM (den olds w0 L)) wr) w w' (lookM (den olds w0 (zipW wr (W args ps x))))
theorem calls_op {f : FuncId} {args : Array Value} {o : Oper} {a : Act} {w : World} {K : Act → World → Prop} {Q : Exit → Act → World → Prop} {R : Value → World → Prop} (hr : (execOp a.eval o).run P w = .ok (.enter f args) w) (h : Calls P f args w fun e w' => ∃ v, e = .returned v ∧ R v w') (hK : ∀ v w', R v w' → K (a.put o.dst v) w') : o.wp P a w K Q := by
  unfold Oper.wp
  rw [hr, Oper.upon_enter]
  refine h.mono fun e w' he => ?_
  obtain ⟨v, rfl, hR⟩ := he
  exact hK v w' hR
def cl (C : Ct P) (rd wr : List Nat) : Step P olds w0 where
  rd := rd
  wr := wr
  skip := false
  must := C.must
  V i x := C.V (argsOf (i.sem.run P w0)) i.ps x
  W i x := C.W (argsOf (i.sem.run P w0)) i.ps x
  chk i := (.r fun w => i.sem.run P w, .r fun w => .ok (.enter C.f (argsOf (i.sem.run P w0))) w) :: (.n rd.length, .n C.nr) :: (.n wr.length, .n C.nw) :: C.chk (argsOf (i.sem.run P w0)) i.ps
  pre i := C.pre w0.heap.size (argsOf (i.sem.run P w0)) i.ps
  ok _ i L a w K Q hc hp hs _ hL hS hK := by
    have h1 := hc _ (List.mem_cons_self ..)
    have h2 := hc _ (List.mem_cons_of_mem _ (List.mem_cons_self ..))
    have h3 := hc _ (List.mem_cons_of_mem _ (List.mem_cons_of_mem _ (List.mem_cons_self ..)))
    injection h1 with h1
    injection h2 with h2
    injection h3 with h3
    refine calls_op (f := C.f) (by rw [hs]; exact congrFun h1 w) (R := fun v w' => ∃ x, v = C.V (argsOf (i.sem.run P w0)) i.ps x ∧ Stp (blksOf (lookM (den olds w0 L)) wr) w w' (lookM (den olds w0 (zipW wr (C.W (argsOf (i.sem.run P w0)) i.ps x)))))
      ((C.ok olds w0 rd wr _ i.ps L w h2 h3 (fun c h => hc c (List.mem_cons_of_mem _ (List.mem_cons_of_mem _ (List.mem_cons_of_mem _ h)))) hp hL hS).mono fun e w' ⟨x, he, hst⟩ => ⟨_, he, x, rfl, hst⟩) fun v w' ⟨x, hv, hst⟩ => ?_
    rw [hv]
    exact hK x w' hst
/-- A call whose contract is shown where it is made. -/
def cu (f : FuncId) (rd wr : List Nat) (V : Pay → Value) (W : Pay → List (Option Pc)) : Step P olds w0 where
  rd := rd
  wr := wr
  skip := false
  must := true
  V _ x := V x
  W _ x := W x
  chk i := [(.r fun w => i.sem.run P w, .r fun w => .ok (.enter f (argsOf (i.sem.run P w0))) w)]
  pre i := ∀ (L : PL) (w : World), i.ps = (rd ++ wr).map (lookP L) → Stp olds w0 w (restr (rd ++ wr) (lookM (den olds w0 L))) →
    Calls P f (argsOf (i.sem.run P w0)) w fun e w' => ∃ x, e = .returned (V x) ∧ Stp (blksOf (lookM (den olds w0 L)) wr) w w' (lookM (den olds w0 (zipW wr (W x))))
  ok _ i L a w K Q hc hp hs _ hL hS hK := by
    have h1 := hc _ (List.mem_singleton.2 rfl)
    injection h1 with h1
    refine calls_op (f := f) (by rw [hs]; exact congrFun h1 w) (R := fun v w' => ∃ x, v = V x ∧ Stp (blksOf (lookM (den olds w0 L)) wr) w w' (lookM (den olds w0 (zipW wr (W x)))))
      ((hp rfl L w hL hS).mono fun e w' ⟨x, he, hst⟩ => ⟨_, he, x, rfl, hst⟩) fun v w' ⟨x, hv, hst⟩ => ?_
    rw [hv]
    exact hK x w' hst
theorem len0 {α : Type} {l : List α} (h : l.length = 0) : l = [] := List.eq_nil_of_length_eq_zero h
theorem len1 {α : Type} {l : List α} (h : l.length = 1) : ∃ a, l = [a] := by
  match l, h with
  | [a], _ => exact ⟨a, rfl⟩
theorem len2 {α : Type} {l : List α} (h : l.length = 2) : ∃ a b, l = [a, b] := by
  match l, h with
  | [a, b], _ => exact ⟨a, b, rfl⟩
/-- A piece that a call turns into another in its place. -/
theorem stp_turn {k : Nat} {L : PL} {c c' : Pc} {w w' : World} (hl : lookP L k = some c) {row : Option Nat} (hg : w.grownBy w' row) (hr : ∀ g, row = some g → (c.den olds w0).blks g) (hok : (c'.den olds w0).ok w') (hlt : ∀ g, (c'.den olds w0).blks g → g < w'.heap.size ∧ (w.heap.size ≤ g ∨ (c.den olds w0).blks g)) : Stp (blksOf (lookM (den olds w0 L)) [k]) w w' (lookM (den olds w0 (zipW [k] [some c']))) := by
  have hM : lookM (den olds w0 L) k = some (c.den olds w0) := by rw [lookM_den, hl]; rfl
  refine stp_one k _ ?_ hok fun g hg => ⟨(hlt g hg).1, (hlt g hg).2.imp id fun h => ⟨k, List.mem_singleton.2 rfl, _, hM, h⟩⟩
  cases row with
  | none => exact .inl hg
  | some g => exact .inr ⟨g, ⟨k, List.mem_singleton.2 rfl, _, hM, hr g rfl⟩, hg⟩
/-- A call that makes a piece. -/
theorem stp_make {k : Nat} {L : PL} {c' : Pc} {w w' : World} (hb : Below w.heap.size w w') (hok : (c'.den olds w0).ok w') (hlt : ∀ g, (c'.den olds w0).blks g → g < w'.heap.size ∧ w.heap.size ≤ g) : Stp (blksOf (lookM (den olds w0 L)) [k]) w w' (lookM (den olds w0 (zipW [k] [some c']))) :=
  stp_one k _ (.inl (grownBy_of_below hb none)) hok fun g hg => ⟨(hlt g hg).1, .inl (hlt g hg).2⟩
end
end Go.Proofs.YtmmfpgoodfgkbaaGreat
/-
  THE STEPS ON ROWS AND BYTES: what makes a slice, takes a part of it, appends and copies; bytes loaded and stored. No condition.
-/
namespace Go.Proofs.YtmmfpgoodfgkbaaGreat
open Go Go.RowKit
set_option linter.unusedVariables false

/-- A text's bytes. -/
def sb (s : ByteArray) : List Int := s.data.toList.map fun b => (b.toNat : Int)
theorem sb_len (s : ByteArray) : (sb s).length = s.size := by simp [sb]
theorem sb_cells (s : ByteArray) : Lib.strCells s = u8s (sb s) := by
  simp [Lib.strCells, u8s, sb]
section
variable {P : Program} {olds : Nat → Prop} {w0 : World}
theorem szT_run {e : TypeId} (h : 0 < szT P e) (w : World) : (sizeOf e).run P w = .ok (szT P e) w := by
  have := szT_spec (P := P) (t := e) rfl h
  cases hi : P.info? e with
  | none => rw [hi] at this; cases this
  | some i =>
    rw [hi] at this
    simp only [Option.map_some, Option.some.injEq] at this
    simp [sizeOf, typeInfo, run_program, hi, ← this]
def elT (P : Program) (t : TypeId) : TypeId := match P.underlying t with
  | some (.slice e) => e
  | _ => 0
theorem elT_spec {t : TypeId} (h : 0 < ixS P t) : P.underlying t = some (.slice (elT P t)) ∧ ixS P t = szT P (elT P t) := by
  unfold ixS at h
  unfold ixS elT
  cases hu : P.underlying t with
  | none => rw [hu] at h; simp at h
  | some D =>
    cases D with
    | slice e => exact ⟨rfl, rfl⟩
    | _ => rw [hu] at h; simp at h

/-- A part of a slice: 'x[l:]', 'x[:h]', 'x[l:h]'. -/
def slOps : Op → Option (TypeId × Bool × Bool)
  | .slice t _ (some _) none none => some (t, true, false)
  | .slice t _ none (some _) none => some (t, false, true)
  | .slice t _ (some _) (some _) none => some (t, true, true)
  | .slice t _ none none none => some (t, false, false)
  | _ => none
def slL : Bool → List Value → Nat
  | true, _ :: l :: _ => ixK l
  | _, _ => 0
def slH (n : Nat) : Bool → Bool → List Value → Nat
  | true, true, [_, _, h] => ixK h
  | false, true, [_, h] => ixK h
  | _, _, _ => n
def slIdx : Bool → Bool → List Value → List (U × U)
  | true, true, [_, l, h] => [(.v l, .v (.int .i64 (ixK l : Nat))), (.v h, .v (.int .i64 (ixK h : Nat)))]
  | true, false, [_, l] => [(.v l, .v (.int .i64 (ixK l : Nat)))]
  | false, true, [_, h] => [(.v h, .v (.int .i64 (ixK h : Nat)))]
  | false, false, [_] => []
  | _, _, _ => no
theorem sliced_eq (b off : Nat) (l h m s : Nat) (hl : l < m ∨ l = 0) : sliced (some ⟨b, off, none⟩) l h m s = .slice (some ⟨b, off + l * s, none⟩) (h - l) (m - l) := by
  unfold sliced
  rcases hl with hl | hl
  · rw [if_neg (by omega)]
    simp [Addr.add_lit]
  · subst hl
    split <;> simp [Addr.add_lit]
def sc : Step P olds w0 where
  rd := []
  wr := []
  skip := false
  must := true
  V i _ := match slOps i.o.op, i.vals with
    | some (t, bl, bh), .slice (some a) n c :: r => .slice (some ⟨a.block, a.off + slL bl i.vals * ixS P t, none⟩) (slH n bl bh i.vals - slL bl i.vals) (c - slL bl i.vals)
    | _, _ => undef
  W _ _ := []
  chk i := match slOps i.o.op, i.vals with
    | some (t, bl, bh), .slice (some a) n c :: r => (.b (Nat.blt 0 (ixS P t)), .b true) :: (.o a.spot, .o none) :: slIdx bl bh i.vals
    | _, _ => no
  pre i := match slOps i.o.op, i.vals with
    | some (t, bl, bh), .slice (some a) n c :: r => slL bl i.vals ≤ slH n bl bh i.vals ∧ slH n bl bh i.vals ≤ c ∧ (slL bl i.vals < c ∨ slL bl i.vals = 0)
    | _, _ => True
  ok _ i L a w K Q hc hp hs hv hL hS hK := by
    obtain ⟨o, sem, vals, ps⟩ := i
    revert hc hK hs hv hL hp
    simp only
    split
    · rename_i t bl bh A n c r hop
      intro hc hp hs hv hL hK
      have h1 := hc _ (List.mem_cons_self ..)
      have h2 := hc _ (List.mem_cons_of_mem _ (List.mem_cons_self ..))
      have h3 : ∀ x ∈ slIdx bl bh (.slice (some A) n c :: r), x.1 = x.2 := fun x hx => hc x (List.mem_cons_of_mem _ (List.mem_cons_of_mem _ hx))
      injection h1 with h1
      injection h2 with h2
      simp only [Nat.blt_eq] at h1
      obtain ⟨b, off, spot⟩ := A
      have h2 : spot = none := h2
      subst h2
      obtain ⟨hu, he⟩ := elT_spec h1
      have hsz := szT_run (P := P) (e := elT P t) (by omega)
      have hel : P.underlying t = some (.slice (P.elem t)) := by
        have : P.elem t = elT P t := by simp [Program.elem, hu]
        rw [this]; exact hu
      have hsz' : (sizeOf (P.elem t)).run P w = .ok (ixS P t) w := by
        have : P.elem t = elT P t := by simp [Program.elem, hu]
        rw [this, he]; exact hsz w
      obtain ⟨hp1, hp2, hp3⟩ := hp trivial
      refine exec_wp (w' := w) ?_ (hK pay0 w (stp_none w))
      have key : ∀ (x : Operand) (lo hi : Option Operand), o.op = .slice t x lo hi none → a.eval x = .slice (some ⟨b, off, none⟩) n c →
          (Instr.slice t (.slice (some ⟨b, off, none⟩) n c) (lo.map a.eval) (hi.map a.eval) none).run P w = .ok (.slice (some ⟨b, off + slL bl (.slice (some ⟨b, off, none⟩) n c :: r) * ixS P t, none⟩) (slH n bl bh (.slice (some ⟨b, off, none⟩) n c :: r) - slL bl (.slice (some ⟨b, off, none⟩) n c :: r)) (c - slL bl (.slice (some ⟨b, off, none⟩) n c :: r))) w →
          (execOp a.eval o).run P w = .ok (.value (.slice (some ⟨b, off + slL bl (.slice (some ⟨b, off, none⟩) n c :: r) * ixS P t, none⟩) (slH n bl bh (.slice (some ⟨b, off, none⟩) n c :: r) - slL bl (.slice (some ⟨b, off, none⟩) n c :: r)) (c - slL bl (.slice (some ⟨b, off, none⟩) n c :: r)))) w := fun x lo hi ho hx hr => by
        simp only [execOp, ho, hx, Sem.run_bind, run_sliceAt_slice _ _ _ _ _ _ hel, Option.map_none, hr, Result.andThen_ok, Sem.run_pure]
      unfold slOps at hop
      split at hop
      · rename_i t' x lo heq
        simp only [Option.some.injEq, Prod.mk.injEq] at hop
        obtain ⟨rfl, rfl, rfl⟩ := hop
        have hxv := hv
        simp [heq, Op.operands] at hxv
        obtain ⟨hx, hr⟩ := hxv
        subst hr
        have h4 := h3 _ (List.mem_singleton.2 rfl)
        injection h4 with h4
        refine key x (some lo) none heq hx ?_
        simp only [slL, slH] at hp1 hp2 hp3 ⊢
        rw [Option.map_some, Option.map_none, h4, run_slice_l _ _ _ _ _ hel _ _ (by omega) (by omega), hsz', Result.andThen_ok, Int.toNat_natCast, sliced_eq _ _ _ _ _ _ hp3]
        rfl
      · rename_i t' x hi heq
        simp only [Option.some.injEq, Prod.mk.injEq] at hop
        obtain ⟨rfl, rfl, rfl⟩ := hop
        have hxv := hv
        simp [heq, Op.operands] at hxv
        obtain ⟨hx, hr⟩ := hxv
        subst hr
        have h4 := h3 _ (List.mem_singleton.2 rfl)
        injection h4 with h4
        refine key x none (some hi) heq hx ?_
        simp only [slL, slH] at hp1 hp2 hp3 ⊢
        rw [Option.map_some, Option.map_none, h4, run_slice_h _ _ _ _ _ hel _ _ (by omega) (by omega), hsz', Result.andThen_ok, Int.toNat_natCast, sliced_eq _ _ _ _ _ _ (.inr rfl)]
        rfl
      · rename_i t' x lo hi heq
        simp only [Option.some.injEq, Prod.mk.injEq] at hop
        obtain ⟨rfl, rfl, rfl⟩ := hop
        have hxv := hv
        simp [heq, Op.operands] at hxv
        obtain ⟨hx, hr⟩ := hxv
        subst hr
        have h4 := h3 _ (List.mem_cons_self ..)
        have h5 := h3 _ (List.mem_cons_of_mem _ (List.mem_singleton.2 rfl))
        injection h4 with h4
        injection h5 with h5
        refine key x (some lo) (some hi) heq hx ?_
        simp only [slL, slH] at hp1 hp2 hp3 ⊢
        rw [Option.map_some, Option.map_some, h4, h5, run_slice_lh _ _ _ _ _ hel _ _ _ _ (by omega) (by omega) (by omega), hsz', Result.andThen_ok, Int.toNat_natCast, Int.toNat_natCast, sliced_eq _ _ _ _ _ _ hp3]
        rfl
      · rename_i t' x heq
        simp only [Option.some.injEq, Prod.mk.injEq] at hop
        obtain ⟨rfl, rfl, rfl⟩ := hop
        have hxv := hv
        simp [heq, Op.operands] at hxv
        obtain ⟨hx, hr⟩ := hxv
        subst hr
        refine key x none none heq hx ?_
        simp only [slL, slH] at hp1 hp2 hp3 ⊢
        rw [Option.map_none, run_slice_all _ _ _ _ _ hel, hsz', Result.andThen_ok, sliced_eq _ _ _ _ _ _ (.inr rfl)]
      · cases hop
    · intro hc; exact no_false hc

/-- Where a slice's elements are read. -/
def srcL (size : Nat) (x : Value) : List (Option Pc) → List Value
  | [some (.blk _ _ cs)] => cs.toList
  | [some (.row _ _ _ _ _ xs)] => xs
  | [some (.bytes _ _ l)] => u8s l
  | [some (.buf _ bs)] => u8s bs
  | [some (.old _ _ cs)] => cs
  | _ => []
def lenOf' : Value → Nat
  | .slice _ n _ => n
  | _ => 0
def capOf : Value → Nat
  | .slice _ _ c => c
  | _ => 0
def srcC (size : Nat) (x : Value) : List (Option Pc) → List (U × U)
  | [some (.blk g _ cs)] => [(.v x, .v (.slice (some ⟨g, 0, none⟩) (lenOf' x) (capOf x))), (.n cs.size, .n (lenOf' x * size))]
  | [some (.row _ _ s v n _)] => [(.v x, .v v), (.v x, .v (.slice (addrOf x) n (capOf x))), (.n s, .n size)]
  | [some (.bytes _ v l)] => [(.v x, .v v), (.v x, .v (.slice (addrOf x) l.length (capOf x))), (.n 1, .n size)]
  | [some (.buf g bs)] => [(.v x, .v (.slice (some ⟨g, 0, none⟩) bs.length (capOf x))), (.n 1, .n size)]
  | [some (.old b o cs)] => [(.v x, .v (.slice (some ⟨b, o, none⟩) (lenOf' x) (capOf x))), (.n cs.length, .n (lenOf' x * size)), (.b (Nat.blt 0 size), .b true)]
  | [] => [(.v x, .v (.slice none 0 (capOf x)))]
  | _ => no
where addrOf : Value → Option Addr
  | .slice a _ _ => a
  | _ => none
theorem src_reads {names : List Nat} {L : PL} {ps : List (Option Pc)} {size : Nat} {x : Value} {w : World} (hL : ps = names.map (lookP L)) (hS : Stp olds w0 w (restr names (lookM (den olds w0 L)))) (hc : ∀ c ∈ srcC size x ps, c.1 = c.2) :
    ∃ A m c, x = .slice A m c ∧ Reads w w.heap.size size A m (srcL size x ps) := by
  unfold srcC at hc
  unfold srcL
  split at hc
  · rename_i g T cs
    have h1 := hc _ (List.mem_cons_self ..)
    have h2 := hc _ (List.mem_cons_of_mem _ (List.mem_singleton.2 rfl))
    injection h1 with h1
    injection h2 with h2
    obtain ⟨k, _, _, hk⟩ := pc_at (olds := olds) (w0 := w0) hL 0 rfl
    exact ⟨_, _, _, h1, blk_reads (hS.blk k hk) _ _ h2⟩
  · rename_i base e s v n xs
    have h1 := hc _ (List.mem_cons_self ..)
    have h2 := hc _ (List.mem_cons_of_mem _ (List.mem_cons_self ..))
    have h3 := hc _ (List.mem_cons_of_mem _ (List.mem_cons_of_mem _ (List.mem_singleton.2 rfl)))
    injection h1 with h1
    injection h2 with h2
    injection h3 with h3
    obtain ⟨k, _, _, hk⟩ := pc_at (olds := olds) (w0 := w0) hL 0 rfl
    have ho := hS.row k hk
    rw [← h1, h2, h3] at ho
    exact ⟨_, _, _, h2, reads_of_own ho⟩
  · rename_i base v l
    have h1 := hc _ (List.mem_cons_self ..)
    have h2 := hc _ (List.mem_cons_of_mem _ (List.mem_cons_self ..))
    have h3 := hc _ (List.mem_cons_of_mem _ (List.mem_cons_of_mem _ (List.mem_singleton.2 rfl)))
    injection h1 with h1
    injection h2 with h2
    injection h3 with h3
    obtain ⟨k, _, _, hk⟩ := pc_at (olds := olds) (w0 := w0) hL 0 rfl
    have ho := hS.row k hk
    rw [← h1, h2, h3] at ho
    exact ⟨_, _, _, h2, reads_of_own ho⟩
  · rename_i g bs
    have h1 := hc _ (List.mem_cons_self ..)
    have h2 := hc _ (List.mem_cons_of_mem _ (List.mem_singleton.2 rfl))
    injection h1 with h1
    injection h2 with h2
    subst h2
    obtain ⟨k, _, _, hk⟩ := pc_at (olds := olds) (w0 := w0) hL 0 rfl
    exact ⟨_, _, _, h1, by simpa using blk_reads (hS.blk k hk) 1 bs.length (by simp [u8s])⟩
  · rename_i b o cs
    have h1 := hc _ (List.mem_cons_self ..)
    have h2 := hc _ (List.mem_cons_of_mem _ (List.mem_cons_self ..))
    have h3 := hc _ (List.mem_cons_of_mem _ (List.mem_cons_of_mem _ (List.mem_singleton.2 rfl)))
    injection h1 with h1
    injection h2 with h2
    injection h3 with h3
    simp only [Nat.blt_eq] at h3
    obtain ⟨k, _, _, hk⟩ := pc_at (olds := olds) (w0 := w0) hL 0 rfl
    have ho := hS.pure_ k hk
    have hr := cell_kept hS ho
    refine ⟨_, _, _, h1, h2, fun hpos => ⟨_, rfl, ?_, fun j u hu => ?_⟩⟩
    · refine Nat.lt_of_lt_of_le (ho.2 fun e => ?_).1 hS.size
      rw [e] at h2
      rcases Nat.mul_eq_zero.1 h2.symm with h4 | h4 <;> omega
    · rw [Addr.add_lit]; exact hr j u hu
  · have h1 := hc _ (List.mem_singleton.2 rfl)
    injection h1 with h1
    exact ⟨_, _, _, h1, Reads.none_⟩
  · exact no_false hc

/-! ## Append -/
def rowV (x : Value) (m : Nat) (p : Pay) : Value := .slice p.a (lenOf' x + m) p.c
/-- The row that grows. -/
def apW (size : Nat) (l : List Value) (x : Value) (rest : List (Option Pc)) (p : Pay) : List (Option Pc) → List (Option Pc)
  | some (.row base e s v n xs) :: _ => [some (.row base e s (.slice p.a (n + lenOf' x) p.c) (n + lenOf' x) (xs ++ srcL size x rest))]
  | _ => []
def infoOf (P : Program) (e : TypeId) : Nat × Nat × Nat := match P.info? e with
  | some i => match i.zero with
    | some z => (i.size, i.bytes, z.cells.size)
    | none => (0, 0, 0)
  | none => (0, 0, 0)
theorem infoOf_spec {e : TypeId} {a b c : Nat} (h : infoOf P e = (a, b, c)) (ha : 0 < a) : ∃ i z, P.info? e = some i ∧ i.zero = some z ∧ i.size = a ∧ i.bytes = b ∧ z.cells.size = c := by
  unfold infoOf at h
  cases hi : P.info? e with
  | none => rw [hi] at h; simp at h; omega
  | some i =>
    rw [hi] at h
    cases hz : i.zero with
    | none => simp [hz] at h; omega
    | some z =>
      simp only [hz, Prod.mk.injEq] at h
      exact ⟨i, z, rfl, hz, h.1, h.2.1, h.2.2⟩
def appT : Op → Option (TypeId × TypeId)
  | .call c => match c.callee, c.argTypes.toList with
    | .builtin .append, [t, t'] => some (t, t')
    | _, _ => none
  | _ => none
theorem app_exec {o : Oper} {t t' : TypeId} (h : appT o.op = some (t, t')) {a : Act} {y x : Value} (hv : o.op.operands.toList.map a.eval = [y, x]) {w w' : World} {v : Value} (hr : (Builtin.append_ #[t, t'] o.type #[y, x]).run P w = .ok v w') : (execOp a.eval o).run P w = .ok (.value v) w' := by
  unfold appT at h
  split at h
  · rename_i c ho
    split at h
    · rename_i s1 s2 hc ht
      simp only [Option.some.injEq, Prod.mk.injEq] at h
      obtain ⟨rfl, rfl⟩ := h
      have hat : c.argTypes = #[s1, s2] := by
        apply Array.ext'
        simpa using ht
      have ha : c.args.map a.eval = #[y, x] := by
        apply Array.ext'
        simpa [ho, Op.operands, Call.operands, hc] using hv
      simp only [execOp, ho, resolve, hc, invoke, builtin, Sem.run_bind, Sem.run_pure, Result.andThen_ok, ha, hat, hr]
    · cases h
  · cases h
theorem restr_mono {ns ms : List Nat} {M : Nat → Option Ck} {w : World} (h : Stp olds w0 w (restr ms M)) (hs : ∀ x ∈ ns, x ∈ ms) : Stp olds w0 w (restr ns M) := h.sub fun k c hk => by
  unfold restr at hk ⊢
  cases hb : hasN ns k with
  | false => rw [hb] at hk; cases hk
  | true =>
    rw [hb] at hk
    rw [(hasN_mem ms k).2 (hs k ((hasN_mem ns k).1 hb))]
    exact hk
/-- 'append(s, x...)': the row k grows by what x holds. -/
def ap (k : Nat) (src : List Nat) : Step P olds w0 where
  rd := k :: src
  wr := [k]
  skip := false
  must := true
  V i p := match i.ps, i.vals with
    | some (.row base e s v n xs) :: _, [_, x] => .slice p.a (n + lenOf' x) p.c
    | _, _ => undef
  W i p := match i.ps, i.vals with
    | some (.row base e s v n xs) :: r, [_, x] => [some (.row base e s (.slice p.a (n + lenOf' x) p.c) (n + lenOf' x) (xs ++ srcL s x (r.take src.length)))]
    | _, _ => []
  chk i := match i.ps, i.vals, appT i.o.op with
    | some (.row base e s v n xs) :: r, [y, x], some (t, t') =>
      (.v y, .v v) :: (.d (P.underlying t), .d (some (.slice e))) :: (.n t, .n t') :: (.b (Nat.blt 0 s && Nat.beq (infoOf P e).1 s && Nat.beq (infoOf P e).2.2 s && Nat.blt 0 (infoOf P e).2.1), .b true) :: srcC s x (r.take src.length)
    | _, _, _ => no
  pre i := match i.ps, i.vals with
    | some (.row base e s v n xs) :: r, [_, x] => base ≤ w0.heap.size ∧ (n + lenOf' x) * (infoOf P e).2.1 ≤ 140737488355328 ∧ ∀ u ∈ srcL s x (r.take src.length), u.oneCell' = true
    | _, _ => True
  ok _ i L a w K Q hc hp hs hv hL hS hK := by
    obtain ⟨o, sem, vals, ps⟩ := i
    revert hc hK hs hv hL hp
    simp only
    split
    · rename_i base e s v n xs r y x t t' hop
      intro hc hp hs hv hL hK
      have h1 := hc _ (List.mem_cons_self ..)
      have h2 := hc _ (List.mem_cons_of_mem _ (List.mem_cons_self ..))
      have h3 := hc _ (List.mem_cons_of_mem _ (List.mem_cons_of_mem _ (List.mem_cons_self ..)))
      have h4 := hc _ (List.mem_cons_of_mem _ (List.mem_cons_of_mem _ (List.mem_cons_of_mem _ (List.mem_cons_self ..))))
      have h5 : ∀ z ∈ srcC s x (r.take src.length), z.1 = z.2 := fun z hz => hc z (List.mem_cons_of_mem _ (List.mem_cons_of_mem _ (List.mem_cons_of_mem _ (List.mem_cons_of_mem _ hz))))
      injection h1 with h1
      injection h2 with h2
      injection h3 with h3
      injection h4 with h4
      subst h3
      simp only [Bool.and_eq_true, Nat.blt_eq, Nat.beq_eq] at h4
      obtain ⟨⟨⟨h40, h41⟩, h42⟩, h43⟩ := h4
      obtain ⟨i, z, hi, hz, hi1, hi2, hi3⟩ := infoOf_spec (P := P) (e := e) (a := s) (b := (infoOf P e).2.1) (c := s) (by rw [← h41]; exact Prod.ext rfl (Prod.ext rfl (h42.trans h41.symm))) h40
      simp only [List.cons_append, List.map_cons, List.map_append, List.map_nil, List.cons.injEq] at hL
      obtain ⟨hL1, hL2⟩ := hL
      have hr0 : r.take src.length = src.map (lookP L) := by rw [hL2, List.take_append_of_le_length (by simp), List.take_of_length_le (by simp)]
      obtain ⟨A, m, c, hx, hrd⟩ := src_reads hr0 (restr_mono hS fun x hx => by simp [hx]) h5
      have hM : lookM (den olds w0 L) k = some (ckR base e s v n xs) := by rw [lookM_den, ← hL1]; rfl
      have hown : w.ownsRow base e s v n xs := hS.row k (by unfold restr; rw [show hasN (k :: src ++ [k]) k = true by simp [hasN]]; exact hM)
      obtain ⟨hp1, hp2, hp3⟩ := hp trivial
      have hm : lenOf' x = m := by rw [hx]; rfl
      rw [hm] at hp2
      have hle : n + m ≤ maxLen := by
        have := Nat.le_trans (Nat.le_mul_of_pos_right (n + m) h43) hp2
        simp only [maxLen]; omega
      obtain ⟨v', w', hrun, ho', hg, hor⟩ := run_append_any (P := P) w base t o.type e i z s (infoOf P e).2.1 h2 hi hz hi1 hi2 hi3 h40 v n xs hown w.heap.size A m c _ hrd hp3 hle hp2 (Nat.le_trans hp1 hS.size)
      obtain ⟨A', c', hv'⟩ := own_form ho'
      subst hv'
      refine exec_wp (app_exec hop hv (by rw [h1, hx]; exact hrun)) ?_
      rw [← hm] at ho' hor ⊢
      refine hK ⟨0, c', undef, A'⟩ w' (stp_app k ho' hg (fun g hgv => ⟨k, List.mem_singleton.2 rfl, _, hM, hgv⟩) fun g hgv => ?_)
      have hgv : (Value.slice A' (n + lenOf' x) c').ownBlock = some g := hgv
      rcases hor with e | e
      · exact .inl (e.symm.trans hgv)
      · have := e.symm.trans hgv
        injection this with this
        exact .inr (Nat.le_of_eq this)
    · intro hc; exact no_false hc
end
end Go.Proofs.YtmmfpgoodfgkbaaGreat
/-
  THE STEPS ON BYTES: a slice of bytes made, bytes loaded and stored, appended and copied. Condition: room.
-/
namespace Go.Proofs.YtmmfpgoodfgkbaaGreat
open Go Go.RowKit
set_option linter.unusedVariables false

section
variable {olds : Nat → Prop} {w0 : World}
abbrev S (olds : Nat → Prop) (w0 : World) := Step Tryz.prog olds w0
theorem made_zeros (n : Nat) : madeCells #[.int .u8 0] n = (u8s (List.replicate n 0)).toArray := by
  have h1 : ∀ i, (#[Value.int .u8 0])[i % (#[Value.int .u8 0] : Array Value).size]! = Value.int .u8 0 := fun i => by
    rw [show i % (#[Value.int .u8 0] : Array Value).size = 0 from Nat.mod_one i]; rfl
  unfold madeCells
  rw [show (fun i => (#[Value.int .u8 0])[i % (#[Value.int .u8 0] : Array Value).size]!) = fun _ => Value.int .u8 0 from funext h1]
  apply Array.ext'
  simp [u8s, List.map_const']
/-- Whose row an append of a text hands back. -/
theorem app_str_row {P : Program} (w : World) (base : Nat) (t u ty e : TypeId) (i : TypeInfo) (ht : P.underlying t = some (.slice e)) (hu : P.underlying u = some .string) (hi : P.info? e = some i) (hz : i.zero = some (.int .u8 0))
    (hsize : i.size = 1) (hby : i.bytes = 1) (v : Value) (n : Nat) (xs : List Value) (hown : w.ownsRow base e 1 v n xs) (s : ByteArray)
    (hbytes : n + s.size ≤ 140737488355328) {v' : Value} {w' : World} (hr : (Builtin.append_ #[t, u] ty #[v, .string s]).run P w = .ok v' w') : ∀ g, v'.ownBlock = some g → v.ownBlock = some g ∨ w.heap.size ≤ g := by
  intro g hgv
  have h63 : n + s.size ≤ maxLen := by simp only [maxLen]; omega
  rcases hown.2 with ⟨rfl, rfl⟩ | ⟨g0, cap, cur, rfl, hbg, hg, hnc, hcm, hcs, htake⟩
  · obtain ⟨v2, w2, hr2, ho2, _, _⟩ := Lib.run_append_own_string (P := P) w w.heap.size t u ty e i ht hu hi hz hsize hby (.slice none 0 0) 0 xs ⟨hown.1, .inl ⟨rfl, rfl⟩⟩ s h63 hbytes (Nat.le_refl _)
    rw [hr] at hr2
    injection hr2 with h1 h2
    subst h1 h2
    exact .inr (ho2.lt g hgv).1
  · by_cases hroom : n + s.size ≤ cap
    · have hcs' : cur.size = cap := by simpa using hcs
      have hr2 := Lib.run_append_room_string (P := P) w t u ty e i ht hu hi hsize g0 n cap cur hg s hroom (by omega)
      rw [hr] at hr2
      injection hr2 with h1 h2
      subst h1
      exact .inl hgv
    · have hxl : xs.length = n := by simpa using hown.1
      have holds : ∀ j u, xs[j]? = some u → w.cell? ((⟨g0, 0, none⟩ : Addr).add j) = some u := hown.cells (g := g0) rfl
      have hr2 := Lib.run_append_grow_string (P := P) w t u ty e i (.int .u8 0) ht hu hi hz ⟨g0, 0, none⟩ n cap xs (by rw [hsize]; simpa using hxl) holds s (by omega) (by simp only [maxLen] at h63; omega) (by rw [hby]; exact growslice_fits (by omega) (by omega))
      rw [hr] at hr2
      injection hr2 with h1 h2
      subst h1
      have : w.heap.size = g := by simpa [Value.ownBlock] using hgv
      exact .inr (Nat.le_of_eq this)
/-- 'make([]byte, n)'. -/
def mk (k : Nat) : S olds w0 where
  rd := []
  wr := [k]
  skip := false
  must := true
  V i x := match i.vals with
    | [n, _] => .slice (some ⟨x.g, 0, none⟩) (ixK n) (ixK n)
    | _ => undef
  W i x := match i.vals with
    | [n, _] => [some (.buf x.g (List.replicate (ixK n) 0))]
    | _ => []
  chk i := match i.o.op, i.vals with
    | .makeSlice t _ _, [n, m] => [(.n t, .n 25), (.v n, .v (.int .i64 (ixK n : Nat))), (.v m, .v (.int .i64 (ixK n : Nat)))]
    | _, _ => no
  pre i := match i.vals with
    | [n, _] => ixK n ≤ 140737488355328
    | _ => True
  ok _ i L a w K Q hc hp hs hv hL hS hK := by
    obtain ⟨o, sem, vals, ps⟩ := i
    revert hc hK hs hv hL hp
    simp only
    split
    · rename_i t x y n m ho
      intro hc hp hs hv hL hK
      have h1 := hc _ (List.mem_cons_self ..)
      have h2 := hc _ (List.mem_cons_of_mem _ (List.mem_cons_self ..))
      have h3 := hc _ (List.mem_cons_of_mem _ (List.mem_cons_of_mem _ (List.mem_singleton.2 rfl)))
      injection h1 with h1
      injection h2 with h2
      injection h3 with h3
      subst h1
      have hxv : a.eval x = n ∧ a.eval y = m := by simpa [ho, Op.operands] using hv
      have hp := hp trivial
      obtain ⟨i, hi, hz, hsz, hby⟩ := info_parts elem8.info
      have hr := run_make (P := Tryz.prog) w 25 5 i (.int .u8 0) Tryz.underlying25 hi hz .i64 .i64 (ixK n : Nat) (ixK n : Nat) (by omega) (Int.le_refl _) (by rw [hby]; omega) (by omega)
      rw [hsz, Int.toNat_natCast, Nat.mul_one, show (Value.int .u8 0).cells = #[.int .u8 0] from rfl, made_zeros] at hr
      rw [← hxv.1] at h2
      rw [← hxv.2] at h3
      refine exec_wp (w' := w.alloc (.cells (u8s (List.replicate (ixK n) 0)).toArray 5)) ?_ (hK ⟨w.heap.size, 0, undef, none⟩ _ (stp_alloc k w 5 _))
      rw [hxv.1] at h2
      simp only [execOp, ho, hxv.1, h3, Sem.run_bind]
      rw [show (Instr.makeSlice 25 n (.int .i64 (ixK n : Nat))) = (Instr.makeSlice 25 (.int .i64 (ixK n : Nat)) (.int .i64 (ixK n : Nat))) from congrArg (Instr.makeSlice 25 · (.int .i64 (ixK n : Nat))) h2, hr]
      rfl
    · intro hc; exact no_false hc

/-- Bytes out of what a slice or a text holds. -/
def intOf : Value → Int
  | .int _ n => n
  | _ => 0
inductive Sr where
  | lit
  | bytes
  | buf
  | old
  | rd
  | txt
  | str
  | nil
def strOf : Value → ByteArray
  | .string s => s
  | _ => ByteArray.empty
def addrOf' : Value → Option Addr
  | .slice a _ _ => a
  | _ => none
def bI : Sr → Value → Option Pc → List Int
  | .lit, _, some (.blk _ _ cs) => cs.toList.map intOf
  | .bytes, _, some (.bytes _ _ l) => l
  | .buf, _, some (.buf _ bs) => bs
  | .old, _, some (.old _ _ cs) => cs.map intOf
  | .rd, _, some (.rd _ l) => l
  | .txt, _, some (.txt _ l) => l
  | .str, x, _ => sb (strOf x)
  | _, _, _ => []
def bC : Sr → Value → Option Pc → List (U × U)
  | .lit, x, some (.blk g _ cs) => [(.v x, .v (.slice (some ⟨g, 0, none⟩) cs.size (capOf x))), (.c cs, .c (u8s (cs.toList.map intOf)).toArray)]
  | .bytes, x, some (.bytes _ v l) => [(.v x, .v v), (.v x, .v (.slice (addrOf' x) l.length (capOf x)))]
  | .buf, x, some (.buf g bs) => [(.v x, .v (.slice (some ⟨g, 0, none⟩) bs.length (capOf x)))]
  | .old, x, some (.old b o cs) => [(.v x, .v (.slice (some ⟨b, o, none⟩) cs.length (capOf x))), (.c cs.toArray, .c (u8s (cs.map intOf)).toArray)]
  | .rd, x, some (.rd A l) => [(.v x, .v (.slice A l.length (capOf x)))]
  | .txt, x, some (.txt g l) => [(.v x, .v (.slice (some ⟨g, 0, none⟩) l.length (capOf x)))]
  | .str, x, _ => [(.v x, .v (.string (strOf x)))]
  | .nil, x, _ => [(.v x, .v (.slice none 0 (capOf x)))]
  | _, _, _ => no
def bN : Sr → List Nat → List Nat
  | .str, _ => []
  | .nil, _ => []
  | _, ks => ks
theorem txt_reads {w : World} {g : Nat} {l : List Int} (h : (ckT g l).ok w) : Reads w w.heap.size 1 (some ⟨g, 0, none⟩) l.length (u8s l) := by
  obtain ⟨cs, fz, h1, h2⟩ := h
  refine ⟨by simp [u8s_len], fun _ => ⟨_, rfl, (Array.getElem?_eq_some_iff.1 h1).1, fun j u hu => ?_⟩⟩
  have hj : j < l.length := by
    have := (List.getElem?_eq_some_iff.1 hu).1
    rwa [u8s_len] at this
  rw [← h2, List.getElem?_take, if_pos hj] at hu
  rw [Addr.add_lit, Nat.zero_add]
  simpa [World.cell?, h1] using hu
theorem b_reads {names : List Nat} {L : PL} {d : Sr} {x : Value} {p : Option Pc} {k : Nat} {w : World} (hp : p = lookP L k) (hk : k ∈ names) (hS : Stp olds w0 w (restr names (lookM (den olds w0 L)))) (hc : ∀ c ∈ bC d x p, c.1 = c.2) :
    (∃ A m c, x = .slice A m c ∧ m = (bI d x p).length ∧ Reads w w.heap.size 1 A m (u8s (bI d x p))) ∨ (d = .str ∧ ∃ s, x = .string s ∧ bI d x p = sb s) := by
  have hkk : ∀ c, p = some c → restr names (lookM (den olds w0 L)) k = some (c.den olds w0) := fun c h => by
    unfold restr
    rw [(hasN_mem names k).2 hk, lookM_den, ← hp, h]
    rfl
  unfold bC at hc
  split at hc
  · rename_i g T cs
    have h1 := hc _ (List.mem_cons_self ..)
    have h2 := hc _ (List.mem_cons_of_mem _ (List.mem_singleton.2 rfl))
    injection h1 with h1
    injection h2 with h2
    have := blk_reads (hS.blk k (hkk _ rfl)) 1 cs.size (by simp)
    rw [show cs.toList = u8s (cs.toList.map intOf) from congrArg Array.toList h2] at this
    exact .inl ⟨_, _, _, h1, by simp [bI], this⟩
  · rename_i base v l
    have h1 := hc _ (List.mem_cons_self ..)
    have h2 := hc _ (List.mem_cons_of_mem _ (List.mem_singleton.2 rfl))
    injection h1 with h1
    injection h2 with h2
    have ho := hS.row k (hkk _ rfl)
    rw [← h1, h2] at ho
    exact .inl ⟨_, _, _, h2, rfl, reads_of_own ho⟩
  · rename_i g bs
    have h1 := hc _ (List.mem_singleton.2 rfl)
    injection h1 with h1
    exact .inl ⟨_, _, _, h1, rfl, by have := blk_reads (hS.blk k (hkk _ rfl)) 1 bs.length (by simp [u8s]); simpa [bI] using this⟩
  · rename_i b o cs
    have h1 := hc _ (List.mem_cons_self ..)
    have h2 := hc _ (List.mem_cons_of_mem _ (List.mem_singleton.2 rfl))
    injection h1 with h1
    injection h2 with h2
    have ho := hS.pure_ k (hkk _ rfl)
    have hr := cell_kept hS ho
    have e : cs = u8s (cs.map intOf) := by simpa using congrArg Array.toList h2
    refine .inl ⟨_, _, _, h1, by simp [bI], by simp [bI, u8s_len], fun hpos => ⟨_, rfl, ?_, fun j u hu => ?_⟩⟩
    · refine Nat.lt_of_lt_of_le (ho.2 fun e => ?_).1 hS.size
      rw [e] at hpos
      exact absurd hpos (Nat.lt_irrefl _)
    · rw [Addr.add_lit]
      rw [show u8s (bI .old x (some (.old b o cs))) = cs from e.symm] at hu
      exact hr j u hu
  · rename_i A l
    have h1 := hc _ (List.mem_singleton.2 rfl)
    injection h1 with h1
    exact .inl ⟨_, _, _, h1, rfl, rd_kept hS (hS.pure_ k (hkk _ rfl))⟩
  · rename_i g l
    have h1 := hc _ (List.mem_singleton.2 rfl)
    injection h1 with h1
    exact .inl ⟨_, _, _, h1, rfl, txt_reads (hS.ok k _ (hkk _ rfl))⟩
  · have h1 := hc _ (List.mem_singleton.2 rfl)
    injection h1 with h1
    exact .inr ⟨rfl, _, h1, rfl⟩
  · have h1 := hc _ (List.mem_singleton.2 rfl)
    injection h1 with h1
    exact .inl ⟨_, _, _, h1, rfl, Reads.none_⟩
  · exact no_false hc

/-- 'append(b, x...)' for bytes; the piece k grows by what the piece s holds (s is k where there is no piece). -/
def ab (d : Sr) (k s : Nat) : S olds w0 where
  rd := [k, s]
  wr := [k]
  skip := false
  must := true
  V i p := match i.ps, i.vals with
    | some (.bytes base v l) :: c :: _, [_, x] => .slice p.a (l ++ bI d x c).length p.c
    | _, _ => undef
  W i p := match i.ps, i.vals with
    | some (.bytes base v l) :: c :: _, [_, x] => [some (.bytes base (.slice p.a (l ++ bI d x c).length p.c) (l ++ bI d x c))]
    | _, _ => []
  chk i := match i.ps, i.vals, appT i.o.op with
    | some (.bytes base v l) :: c :: _, [y, x], some (t, t') => (.v y, .v v) :: (.n t, .n 25) :: (.n t', .n (match d with | .str => 9 | _ => 25)) :: bC d x c
    | _, _, _ => no
  pre i := match i.ps, i.vals with
    | some (.bytes base v l) :: c :: _, [_, x] => base ≤ w0.heap.size ∧ (l ++ bI d x c).length ≤ 140737488355328
    | _, _ => True
  ok _ i L a w K Q hc hp hs hv hL hS hK := by
    obtain ⟨o, sem, vals, ps⟩ := i
    revert hc hK hs hv hL hp
    simp only
    split
    · rename_i base v l c r y x t t' hop
      intro hc hp hs hv hL hK
      have h1 := hc _ (List.mem_cons_self ..)
      have h2 := hc _ (List.mem_cons_of_mem _ (List.mem_cons_self ..))
      have h3 := hc _ (List.mem_cons_of_mem _ (List.mem_cons_of_mem _ (List.mem_cons_self ..)))
      have h5 : ∀ z ∈ bC d x c, z.1 = z.2 := fun z hz => hc z (List.mem_cons_of_mem _ (List.mem_cons_of_mem _ (List.mem_cons_of_mem _ hz)))
      injection h1 with h1
      injection h2 with h2
      injection h3 with h3
      subst h2
      simp only [List.cons_append, List.nil_append, List.map_cons, List.map_nil, List.cons.injEq] at hL
      obtain ⟨hL1, hL2, _⟩ := hL
      have hM : lookM (den olds w0 L) k = some (ckR base 5 1 v l.length (u8s l)) := by rw [lookM_den, ← hL1]; rfl
      have hown : w.ownsRow base 5 1 v l.length (u8s l) := hS.row k (by unfold restr; rw [show hasN ([k, s] ++ [k]) k = true by simp [hasN]]; exact hM)
      obtain ⟨hp1, hp2⟩ := hp trivial
      have hbase := Nat.le_trans hp1 hS.size
      obtain ⟨i, hi, hz, hsz, hby⟩ := info_parts elem8.info
      have key : ∃ v' w', (Builtin.append_ #[25, t'] o.type #[v, x]).run Tryz.prog w = .ok v' w' ∧ w'.ownsRow base 5 1 v' (l ++ bI d x c).length (u8s (l ++ bI d x c)) ∧ w.grownBy w' v.ownBlock ∧ (∀ g, v'.ownBlock = some g → v.ownBlock = some g ∨ w.heap.size ≤ g) := by
        rcases b_reads (names := [k, s] ++ [k]) hL2 (by simp) hS h5 with ⟨A, m, c', hx, hm, hr⟩ | ⟨hd, st, hx, he⟩
        · have ht : t' = 25 := by
            rw [h3]
            cases d <;> first | rfl | (simp [bC] at h5; rw [h5] at hx; cases hx)
          subst ht
          obtain ⟨v', w', hrun, ho', hg, hor⟩ := run_append_any (P := Tryz.prog) w base 25 o.type 5 i _ 1 1 elem8.und hi hz hsz hby elem8.zs elem8.pos v l.length (u8s l) hown w.heap.size A m c' _ hr (u8s_one _) (by simp only [List.length_append] at hp2; unfold maxLen; omega) (by simp only [List.length_append] at hp2; omega) hbase
          refine ⟨v', w', by rw [hx]; exact hrun, own_eq ho' (by rw [List.length_append, hm]) (u8s_append _ _).symm, hg, fun g hgv => ?_⟩
          rcases hor with e | e
          · exact .inl (e.symm.trans hgv)
          · have := e.symm.trans hgv
            injection this with this
            exact .inr (Nat.le_of_eq this)
        · subst hd
          rw [he]
          rw [he] at hp2
          subst h3
          simp only [List.length_append, sb_len] at hp2
          obtain ⟨v', w', hrun, ho', hg, _⟩ := Lib.run_append_own_string (P := Tryz.prog) w base 25 9 o.type 5 i elem8.und Tryz.underlying9 hi hz hsz hby v l.length (u8s l) hown st (by unfold maxLen; omega) (by omega) hbase
          exact ⟨v', w', by rw [hx]; exact hrun, own_eq ho' (by simp [sb_len]) (by rw [sb_cells, u8s_append]), hg, app_str_row w base _ _ _ _ i elem8.und Tryz.underlying9 hi hz hsz hby v l.length (u8s l) hown st (by omega) hrun⟩
      obtain ⟨v', w', hrun, ho', hg, hor⟩ := key
      obtain ⟨A', c', hv'⟩ := own_form ho'
      subst hv'
      exact exec_wp (app_exec hop hv (by rw [h1]; exact hrun)) (hK ⟨0, c', undef, A'⟩ w' (stp_app k ho' hg (fun g hgv => ⟨k, List.mem_singleton.2 rfl, _, hM, hgv⟩) hor))
    · intro hc; exact no_false hc

/-- A byte loaded, a byte stored. -/
def blkOf : Value → Nat
  | .pointer (some a) => a.block
  | _ => 0
def lb {P : Program} (k : Nat) : Step P olds w0 where
  rd := [k]
  wr := []
  skip := false
  must := true
  V i _ := match i.vals, i.ps with
    | [x], [some (.buf g bs)] => .int .u8 (bs.getD (offOf x) 0)
    | _, _ => undef
  W _ _ := []
  chk i := match i.o.op, i.vals, i.ps with
    | .load t _, [x], [some (.buf g bs)] => [(.v x, .v (.pointer (some ⟨g, offOf x, none⟩))), (.b (!rowT P t && (P.underlying t).isSome), .b true)]
    | _, _, _ => no
  pre i := match i.vals, i.ps with
    | [x], [some (.buf g bs)] => offOf x < bs.length
    | _, _ => True
  ok _ i L a w K Q hc hp hs hv hL hS hK := by
    obtain ⟨o, sem, vals, ps⟩ := i
    revert hc hK hs hv hL hp
    simp only
    split
    · rename_i t y x g bs ho
      intro hc hp hs hv hL hK
      have h1 := hc _ (List.mem_cons_self ..)
      have h2 := hc _ (List.mem_cons_of_mem _ (List.mem_singleton.2 rfl))
      injection h1 with h1
      injection h2 with h2
      have hx : a.eval y = x := by simpa [ho, Op.operands] using hv
      have hb := hS.blk k (one_pc (olds := olds) (w0 := w0) hL).2
      have hp := hp trivial
      simp only [Bool.and_eq_true, Bool.not_eq_true'] at h2
      have hat : (u8s bs)[offOf x]? = some (.int .u8 (bs.getD (offOf x) 0)) := by rw [u8s_at hp]; simp [List.getD, hp]
      have := ld_run (P := P) (t := t) (b := g) (o := offOf x) (cs := u8s bs) (j := offOf x) (w := w) (by unfold ldB; rw [h2.1]; simp [Nat.blt_eq, u8s_len, hp, h2.2]) fun i v hi => by rw [hb.cell]; simpa using hi
      rw [← h1] at this
      refine exec_wp (w' := w) ?_ (hK pay0 w (stp_none w))
      simp only [execOp, ho, hx, Sem.run_bind, this, Result.andThen_ok, Sem.run_pure, ldV, h2.1, cond_false, hat, Option.getD_some]
    · intro hc; exact no_false hc
def sbt {P : Program} (k : Nat) : Step P olds w0 where
  rd := []
  wr := [k]
  skip := false
  must := true
  V _ _ := undef
  W i _ := match i.vals, i.ps with
    | [x, v], [some (.buf g bs)] => [some (.buf g (bs.set (offOf x) (intOf v)))]
    | _, _ => []
  chk i := match i.o.op, i.vals, i.ps with
    | .store t _ _, [x, v], [some (.buf g bs)] => [(.v x, .v (.pointer (some ⟨g, offOf x, none⟩))), (.v v, .v (.int .u8 (intOf v))), (.b (Nat.beq (szT P t) 1), .b true)]
    | _, _, _ => no
  pre i := match i.vals, i.ps with
    | [x, v], [some (.buf g bs)] => offOf x < bs.length
    | _, _ => True
  ok _ i L a w K Q hc hp hs hv hL hS hK := by
    obtain ⟨o, sem, vals, ps⟩ := i
    revert hc hK hs hv hL hp
    simp only
    split
    · rename_i t y z x v g bs ho
      intro hc hp hs hv hL hK
      have h1 := hc _ (List.mem_cons_self ..)
      have h2 := hc _ (List.mem_cons_of_mem _ (List.mem_cons_self ..))
      have h3 := hc _ (List.mem_cons_of_mem _ (List.mem_cons_of_mem _ (List.mem_singleton.2 rfl)))
      injection h1 with h1
      injection h2 with h2
      injection h3 with h3
      have hxv : a.eval y = x ∧ a.eval z = v := by simpa [ho, Op.operands] using hv
      obtain ⟨hl, hr⟩ := one_pc (olds := olds) (w0 := w0) hL
      have hb := hS.blk k hr
      have hp := hp trivial
      simp only [Nat.beq_eq] at h3
      have hrun := run_store1 (P := P) (w := w) t g (offOf x) _ _ (.int .u8 (intOf v)) rfl (fun w => by have := szT_run (P := P) (e := t) (by omega) w; rwa [h3] at this) hb (by simpa [u8s] using hp)
      rw [← h1, ← h2] at hrun
      have hb' : Blk (w.setCell ⟨g, offOf x, none⟩ v) g 5 (u8s (bs.set (offOf x) (intOf v))).toArray := by
        have := hb.set_ (offOf x) v
        rw [show (u8s (bs.set (offOf x) (intOf v))).toArray = (u8s bs).toArray.setIfInBounds (offOf x) v by rw [h2]; simp [u8s, List.map_set, intOf]]
        exact this
      refine exec_wp_skip (w' := w.setCell ⟨g, offOf x, none⟩ v) (by simp only [execOp, ho, hxv.1, hxv.2, Sem.run_bind, hrun, Result.andThen_ok, Sem.run_pure]) (hK pay0 _ ?_)
      have hM : lookM (den olds w0 L) k = some (ckB g 5 (u8s bs).toArray) := by rw [lookM_den, hl]; rfl
      exact stp_one k _ (.inr ⟨g, ⟨k, List.mem_singleton.2 rfl, _, hM, rfl⟩, grownBy_setCell w ⟨g, offOf x, none⟩ v⟩) hb' fun y hy => by
        have : y = g := hy
        subst this
        exact ⟨hb'.lt, .inr ⟨k, List.mem_singleton.2 rfl, _, hM, rfl⟩⟩
    · intro hc; exact no_false hc

/-- 'copy(b[o:], x)' into a buffer. -/
def cpT : Op → Option (TypeId × TypeId)
  | .call c => match c.callee, c.argTypes.toList with
    | .builtin .copy, [t, t'] => some (t, t')
    | _, _ => none
  | _ => none
theorem cp_exec {P : Program} {o : Oper} {t t' : TypeId} (h : cpT o.op = some (t, t')) {a : Act} {y x : Value} (hv : o.op.operands.toList.map a.eval = [y, x]) {w w' : World} {v : Value} (hr : (Builtin.copy_ #[t, t'] o.type #[y, x]).run P w = .ok v w') : (execOp a.eval o).run P w = .ok (.value v) w' := by
  unfold cpT at h
  split at h
  · rename_i c ho
    split at h
    · rename_i s1 s2 hc ht
      simp only [Option.some.injEq, Prod.mk.injEq] at h
      obtain ⟨rfl, rfl⟩ := h
      have hat : c.argTypes = #[s1, s2] := by
        apply Array.ext'
        simpa using ht
      have ha : c.args.map a.eval = #[y, x] := by
        apply Array.ext'
        simpa [ho, Op.operands, Call.operands, hc] using hv
      simp only [execOp, ho, resolve, hc, invoke, builtin, Sem.run_bind, Sem.run_pure, Result.andThen_ok, ha, hat, hr]
    · cases h
  · cases h
def offS : Value → Nat
  | .slice (some a) _ _ => a.off
  | _ => 0
def cp (d : Sr) (k s : Nat) : S olds w0 where
  rd := [k, s]
  wr := [k]
  skip := false
  must := true
  V i _ := match i.ps, i.vals with
    | _ :: c :: _, [_, x] => .int .i64 (bI d x c).length
    | _, _ => undef
  W i _ := match i.ps, i.vals with
    | some (.buf g bs) :: c :: _, [y, x] => [some (.buf g (put bs (offS y) (bI d x c)))]
    | _, _ => []
  chk i := match i.ps, i.vals, cpT i.o.op with
    | some (.buf g bs) :: c :: _, [y, x], some (t, t') => (.v y, .v (.slice (some ⟨g, offS y, none⟩) (lenOf' y) (capOf y))) :: (.n t, .n 25) :: bC d x c
    | _, _, _ => no
  pre i := match i.ps, i.vals with
    | some (.buf g bs) :: c :: _, [y, x] => (bI d x c).length ≤ lenOf' y ∧ offS y + (bI d x c).length ≤ bs.length
    | _, _ => True
  ok _ i L a w K Q hc hp hs hv hL hS hK := by
    obtain ⟨o, sem, vals, ps⟩ := i
    revert hc hK hs hv hL hp
    simp only
    split
    · rename_i g bs c r y x t t' hop
      intro hc hp hs hv hL hK
      have h1 := hc _ (List.mem_cons_self ..)
      have h2 := hc _ (List.mem_cons_of_mem _ (List.mem_cons_self ..))
      have h5 : ∀ z ∈ bC d x c, z.1 = z.2 := fun z hz => hc z (List.mem_cons_of_mem _ (List.mem_cons_of_mem _ hz))
      injection h1 with h1
      injection h2 with h2
      subst h2
      simp only [List.cons_append, List.nil_append, List.map_cons, List.map_nil, List.cons.injEq] at hL
      obtain ⟨hL1, hL2, _⟩ := hL
      have hM : lookM (den olds w0 L) k = some (ckB g 5 (u8s bs).toArray) := by rw [lookM_den, ← hL1]; rfl
      have hb : Blk w g 5 (u8s bs).toArray := hS.blk k (by unfold restr; rw [show hasN ([k, s] ++ [k]) k = true by simp [hasN]]; exact hM)
      obtain ⟨hp1, hp2⟩ := hp trivial
      have hs1 : (Tryz.prog.info? 5).map (·.size) = some 1 := by kernel_rfl
      have key : ∃ w', (Builtin.copy_ #[25, t'] o.type #[.slice (some ⟨g, offS y, none⟩) (lenOf' y) (capOf y), x]).run Tryz.prog w = .ok (.int .i64 (bI d x c).length) w' ∧ Blk w' g 5 (u8s (put bs (offS y) (bI d x c))).toArray ∧ w.grownBy w' (some g) := by
        have hput : ∀ xs : List Int, offS y + xs.length ≤ bs.length → Blk (w.setRow g ((u8s bs).take (offS y) ++ u8s xs ++ (u8s bs).drop (offS y + xs.length)).toArray) g 5 (u8s (put bs (offS y) xs)).toArray ∧ w.grownBy (w.setRow g ((u8s bs).take (offS y) ++ u8s xs ++ (u8s bs).drop (offS y + xs.length)).toArray) (some g) := fun xs hxs => by
          refine ⟨?_, ⟨rfl, rfl, rfl, by simp, fun k _ hk => setRow_other w g k _ fun e => hk (by rw [e])⟩⟩
          have := setRow_heap w g (u8s bs).toArray ((u8s bs).take (offS y) ++ u8s xs ++ (u8s bs).drop (offS y + xs.length)).toArray 5 _ hb
          rw [show (u8s (put bs (offS y) xs)).toArray = ((u8s bs).take (offS y) ++ u8s xs ++ (u8s bs).drop (offS y + xs.length)).toArray by simp [put, u8s, List.map_append, List.map_take, List.map_drop]]
          exact this
        rcases b_reads (names := [k, s] ++ [k]) hL2 (by simp) hS h5 with ⟨A, m, c', hx, hm, hr⟩ | ⟨hd, st, hx, he⟩
        · by_cases h0 : m = 0
          · have hnil : bI d x c = [] := List.eq_nil_of_length_eq_zero (by omega)
            refine ⟨w, ?_, ?_, World.grownBy.refl w _⟩
            · rw [hx, h0]
              rw [run_copy_none (P := Tryz.prog) w _ _ _ 5 _ _ _ _ _ _ Tryz.underlying25 hs1 (by simp)]
              have hz : (bI d (.slice A 0 c') c).length = 0 := by have h := hm; rw [hx, h0] at h; exact h.symm
              rw [hz]
              rfl
            · rw [hnil, put_nil]; exact hb
          · obtain ⟨ad, rfl, _, hcell⟩ := hr.2 (by omega)
            have hlen : (u8s (bI d x c)).length = Nat.min m (lenOf' y) := by rw [u8s_len, ← hm]; exact (Nat.min_eq_left (by omega)).symm
            have hrun := run_copy_row (P := Tryz.prog) w 25 t' o.type 5 g (offS y) (lenOf' y) (capOf y) ad m c' (u8s bs).toArray 5 (u8s (bI d x c)) Tryz.underlying25 hs1 hb hlen hcell (by rw [u8s_len]; simpa [u8s] using hp2) (u8s_one _)
            have hP := hput _ hp2
            rw [u8s_len] at hrun
            clear hp hc h5
            generalize bI d x c = bl at *
            exact ⟨_, by rw [hx]; exact hrun, hP.1, hP.2⟩
        · rw [he] at hp1 hp2 ⊢
          rw [sb_len] at hp1
          have hrun := Lib.run_copy_row_string (P := Tryz.prog) w 25 t' o.type 5 g (offS y) (lenOf' y) (capOf y) st (u8s bs).toArray 5 Tryz.underlying25 hs1 hb hp1 (by rw [sb_len] at hp2; simpa [u8s] using hp2)
          have hP := hput _ hp2
          have e : Lib.byteCells st.data.toList = u8s (sb st) := sb_cells st
          rw [e] at hrun
          rw [sb_len] at hP ⊢
          exact ⟨_, by rw [hx]; exact hrun, hP.1, hP.2⟩
      obtain ⟨w', hrun, hb', hg⟩ := key
      rw [← h1] at hrun
      refine exec_wp (cp_exec hop hv hrun) (hK pay0 w' ?_)
      exact stp_one k _ (.inr ⟨g, ⟨k, List.mem_singleton.2 rfl, _, hM, rfl⟩, hg⟩) hb' fun y hy => by
        have : y = g := hy
        subst this
        exact ⟨hb'.lt, .inr ⟨k, List.mem_singleton.2 rfl, _, hM, rfl⟩⟩
    · intro hc; exact no_false hc
end
end Go.Proofs.YtmmfpgoodfgkbaaGreat
/-
  WALKS IN SHORT: a function entered, a region walked by its steps, what is known behind it said as what is new and what is kept; branches. No condition.
-/
namespace Go.Proofs.YtmmfpgoodfgkbaaGreat
open Go Go.RowKit
set_option linter.unusedVariables false

/-- Slots and pieces that are kept. -/
def kl : List Nat → List (Nat × Value) → List (Nat × Value)
  | [], _ => []
  | k :: ks, l => (k, (look l k).getD undef) :: kl ks l
def kL : List Nat → PL → PL
  | [], _ => []
  | k :: ks, L => (k, lookP L k) :: kL ks L
def del (ks : List Nat) : List (Nat × Value) → List (Nat × Value)
  | [] => []
  | (k, v) :: l => bif hasN ks k then del ks l else (k, v) :: del ks l
def delL (ks : List Nat) : PL → PL
  | [] => []
  | (k, v) :: l => bif hasN ks k then delL ks l else (k, v) :: delL ks l
/-- What is known behind a region: what is new; all else is kept (kp, kP), or what is named (kn, kN), or all but what is named (kd). -/
def kp (l : List (Nat × Value)) (s : List (Nat × Value)) : List (Nat × Value) := l ++ del (l.map (·.1)) s
def kP (L : PL) (s : PL) : PL := L ++ delL (L.map (·.1)) s
def kn (l : List (Nat × Value)) (ks : List Nat) (s : List (Nat × Value)) : List (Nat × Value) := l ++ kl ks s
def kN (L : PL) (ks : List Nat) (s : PL) : PL := L ++ kL ks s
def kd (ds : List Nat) (l : List (Nat × Value)) (s : List (Nat × Value)) : List (Nat × Value) := l ++ del (ds ++ l.map (·.1)) s
def idx : Nat → List Value → List (Nat × Value)
  | _, [] => []
  | i, v :: vs => (i, v) :: idx (i + 1) vs
abbrev pt (g o : Nat) : Value := .pointer (some ⟨g, o, none⟩)
abbrev sv (g o n c : Nat) : Value := .slice (some ⟨g, o, none⟩) n c
theorem all_idx (a : Act) : ∀ (vs : List Value) (i : Nat), (∀ j v, vs[j]? = some v → a.tmps[i + j]? = some v) → AllAt a (idx i vs)
  | [], _, _ => trivial
  | v :: vs, i, h => ⟨h 0 v rfl, all_idx a vs (i + 1) fun j u hu => by
      have := h (j + 1) u (by simpa using hu)
      rwa [show i + 1 + j = i + (j + 1) by omega]⟩
section
variable {P : Program} {olds : Nat → Prop} {w0 : World} {n : Nat} {a : Act} {w : World} {Q : Exit → Act → World → Prop} {l0 : List (Nat × Value)} {L0 : PL} {id : Nat} {l : List Oper} {y : Code}
/-- A function is entered. -/
theorem go_in {f : FuncId} {fn : Func} {c : Code} {R : Ending → World → Prop} (hf : P.funcs[f]? = some fn) (hb : fn.body = some c) (hn : fn.ntmps = n) (args : List Value) (h : ∀ a, Env n (idx 0 args) a → c.wp P (bodyPost P fn R) a w) (hle : Nat.ble args.length n = true := by kernel_rfl) : Calls P f args.toArray w R := by
  refine calls_of_wp hf hb (h _ ?_)
  rw [hn]
  have hl : args.length ≤ n := by simpa [Nat.ble_eq] using hle
  refine Env.enter args.toArray (by simpa using hl) (all_idx _ args 0 fun j v hv => ?_)
  have hj := (List.getElem?_eq_some_iff.1 hv).1
  rw [Nat.zero_add, Array.getElem?_append_left (by simpa using hj)]
  simpa using hv
theorem stp_in (w : World) : Stp (fun _ => False) w w (lookM (den (fun _ => False) w [])) := Stp.refl w
/-- A region, with or without something to be shown; more behind it (s..) or not. -/
theorem rg (hE : Env n l0 a) (hS : Stp olds w0 w (lookM (den olds w0 L0))) (qs : List (Step P olds w0)) (sl : (Nat → Pay) → List (Nat × Value) → List (Nat × Value)) (sL : (Nat → Pay) → PL → PL)
    (he : ∀ p a' w', Env n (sl p l0) a' → Stp olds w0 w' (lookM (den olds w0 (sL p L0))) → y.wp P Q a' w') (hpre : ∀ p, preAll l qs ⟨l0, L0⟩ p := by exact fun _ => trivial)
    (hchk : ∀ p, (allChk n l qs ⟨l0, L0⟩ (fun p => ⟨sl p l0, sL p L0⟩) p).map (·.1) = (allChk n l qs ⟨l0, L0⟩ (fun p => ⟨sl p l0, sL p L0⟩) p).map (·.2) := by intro p; kernel_rfl) : (Code.seq (Code.region id l.toArray false) y).wp P Q a w :=
  wp_seq (wp_reg hE hS qs (fun p => ⟨sl p l0, sL p L0⟩) hchk hpre he)
theorem rgp (hE : Env n l0 a) (hS : Stp olds w0 w (lookM (den olds w0 L0))) (qs : List (Step P olds w0)) (sl : (Nat → Pay) → List (Nat × Value) → List (Nat × Value)) (sL : (Nat → Pay) → PL → PL) (hpre : ∀ p, preAll l qs ⟨l0, L0⟩ p)
    (he : ∀ p a' w', Env n (sl p l0) a' → Stp olds w0 w' (lookM (den olds w0 (sL p L0))) → y.wp P Q a' w')
    (hchk : ∀ p, (allChk n l qs ⟨l0, L0⟩ (fun p => ⟨sl p l0, sL p L0⟩) p).map (·.1) = (allChk n l qs ⟨l0, L0⟩ (fun p => ⟨sl p l0, sL p L0⟩) p).map (·.2) := by intro p; kernel_rfl) : (Code.seq (Code.region id l.toArray false) y).wp P Q a w := rg hE hS qs sl sL he hpre hchk
theorem rgE (hE : Env n l0 a) (hS : Stp olds w0 w (lookM (den olds w0 L0))) (qs : List (Step P olds w0)) (sl : (Nat → Pay) → List (Nat × Value) → List (Nat × Value)) (sL : (Nat → Pay) → PL → PL) (hpre : ∀ p, preAll l qs ⟨l0, L0⟩ p)
    (he : ∀ p a' w', Env n (sl p l0) a' → Stp olds w0 w' (lookM (den olds w0 (sL p L0))) → Q .normal a' w')
    (hchk : ∀ p, (allChk n l qs ⟨l0, L0⟩ (fun p => ⟨sl p l0, sL p L0⟩) p).map (·.1) = (allChk n l qs ⟨l0, L0⟩ (fun p => ⟨sl p l0, sL p L0⟩) p).map (·.2) := by intro p; kernel_rfl) : (Code.region id l.toArray false).wp P Q a w := wp_reg hE hS qs (fun p => ⟨sl p l0, sL p L0⟩) hchk hpre he
/-- The same for a region that draws its order. -/
theorem dgE (hE : Env n l0 a) (hS : Stp olds w0 w (lookM (den olds w0 L0))) (qs : List (Step P olds w0)) (sl : (Nat → Pay) → List (Nat × Value) → List (Nat × Value)) (sL : (Nat → Pay) → PL → PL) (hpre : ∀ p, preAll l qs ⟨l0, L0⟩ p)
    (he : ∀ p a' w', Env n (sl p l0) a' → Stp olds w0 w' (lookM (den olds w0 (sL p L0))) → Q .normal a' w')
    (hm : P.follows .mixedOrders = true := by kernel_rfl) (hsep : (plainFrom .any n 0 l && sepB l (rs l qs) (ws l qs ⟨l0, L0⟩)) = true := by kernel_rfl)
    (hchk : ∀ p, (allChk n l qs ⟨l0, L0⟩ (fun p => ⟨sl p l0, sL p L0⟩) p).map (·.1) = (allChk n l qs ⟨l0, L0⟩ (fun p => ⟨sl p l0, sL p L0⟩) p).map (·.2) := by intro p; kernel_rfl) : (Code.region id l.toArray true).wp P Q a w := wp_drw hE hS qs (fun p => ⟨sl p l0, sL p L0⟩) hm hsep hchk hpre he
theorem dgp (hE : Env n l0 a) (hS : Stp olds w0 w (lookM (den olds w0 L0))) (qs : List (Step P olds w0)) (sl : (Nat → Pay) → List (Nat × Value) → List (Nat × Value)) (sL : (Nat → Pay) → PL → PL) (hpre : ∀ p, preAll l qs ⟨l0, L0⟩ p)
    (he : ∀ p a' w', Env n (sl p l0) a' → Stp olds w0 w' (lookM (den olds w0 (sL p L0))) → y.wp P Q a' w')
    (hm : P.follows .mixedOrders = true := by kernel_rfl) (hsep : (plainFrom .any n 0 l && sepB l (rs l qs) (ws l qs ⟨l0, L0⟩)) = true := by kernel_rfl)
    (hchk : ∀ p, (allChk n l qs ⟨l0, L0⟩ (fun p => ⟨sl p l0, sL p L0⟩) p).map (·.1) = (allChk n l qs ⟨l0, L0⟩ (fun p => ⟨sl p l0, sL p L0⟩) p).map (·.2) := by intro p; kernel_rfl) : (Code.seq (Code.region id l.toArray true) y).wp P Q a w := wp_seq (dgE hE hS qs sl sL hpre he hm hsep hchk)
theorem thR {K : Act → World → Prop} (h : Q .ret a w) : Exit.then K Q .ret a w := h
theorem bkR {i : Nat} (h : Q .ret a w) : Exit.inBlock i Q .ret a w := h
/-- Branches. -/
theorem ift {j : Nat} {x z : Code} (hE : Env n l0 a) (h : x.wp P Q a w) (hl : look l0 j = some (.bool true) := by kernel_rfl) : (Code.cond (.tmp j) x z).wp P Q a w := wp_if_t hE j hl h
theorem iff {j : Nat} {x z : Code} (hE : Env n l0 a) (h : z.wp P Q a w) (hl : look l0 j = some (.bool false) := by kernel_rfl) : (Code.cond (.tmp j) x z).wp P Q a w := wp_if_f hE j hl h
/-- A branch without 'else' that is passed over, with more behind it. -/
theorem ifs {j : Nat} {x : Code} (hE : Env n l0 a) (h : y.wp P Q a w) (hl : look l0 j = some (.bool false) := by kernel_rfl) : (Code.seq (Code.cond (.tmp j) x .skip) y).wp P Q a w := wp_seq (wp_if_f hE j hl (wp_skip h))
/-- What a function hands back out of two slots, one slot. -/
theorem ret2 {fn : Func} {R : Ending → World → Prop} {p q : Tmp} (hE : Env n l0 a) (h : fn.results = #[.tmp p, .tmp q]) (v1 v2 : Value) (hR : R (.returned (.tuple #[v1, v2])) w) (h1 : look l0 p = some v1 := by kernel_rfl) (h2 : look l0 q = some v2 := by kernel_rfl) : bodyPost P fn R .ret a w :=
  bodyPost_ret (v := .tuple #[v1, v2]) (by simp [results, h, hE.get p h1, hE.get q h2]) hE.defers hR
theorem ret1 {fn : Func} {R : Ending → World → Prop} {p : Tmp} (hE : Env n l0 a) (h : fn.results = #[.tmp p]) (v : Value) (hR : R (.returned v) w) (h1 : look l0 p = some v := by kernel_rfl) : bodyPost P fn R .ret a w :=
  bodyPost_ret (v := v) (by simp [results, h, hE.get p h1]) hE.defers hR
/-- What a function hands back out of a block. -/
theorem retc {fn : Func} {R : Ending → World → Prop} {p : Tmp} {ty : TypeId} (hE : Env n l0 a) (hS : Stp olds w0 w (lookM (den olds w0 L0))) (h : fn.results = #[.cell p ty]) (k : Nat) (g : Nat) (T : TypeId) (cs : Array Value) (hR : R (.returned (.agg cs)) w) {D : TypeDesc} (hu : P.underlying ty = some D)
    (h1 : look l0 p = some (pt g 0) := by kernel_rfl) (h2 : lookP L0 k = some (.blk g T cs) := by kernel_rfl) (hd : (match D with | .struct _ | .array _ _ => true | _ => false) = true := by rfl) (hi : (P.info? ty).map (·.size) = some cs.size := by kernel_rfl) : bodyPost P fn R .ret a w :=
  bodyPost_ret (results_cell_row h _ _ g T cs (0, 0) D (by have := hE.get p h1; simp [this]) (hS.blk k (by rw [lookM_den, h2]; rfl)) hu hd hi) hE.defers hR
/-- A variable in a block of its own, read at the end. -/
theorem run_var {t : TypeId} {g : Nat} {T : TypeId} {cs : Array Value} (hb : Blk w g T cs) (h : ldB P t cs.toList 0 = true) : (loadVar t ⟨g, 0, none⟩).run P w = .ok (ldV P t cs.toList 0) w := by
  have := ld_run (P := P) (t := t) (b := g) (o := 0) (cs := cs.toList) (j := 0) (w := w) h fun i v hi => by rw [hb.cell]; simpa using hi
  simpa [Instr.loadAt, Instr.sureAddr] using this
/-- What a function hands back: a variable and a slot; and two slots; a variable, a slot, a variable. -/
theorem retct {fn : Func} {R : Ending → World → Prop} {p q : Tmp} {ty : TypeId} (hE : Env n l0 a) (hS : Stp olds w0 w (lookM (den olds w0 L0))) (h : fn.results = #[.cell p ty, .tmp q]) (k : Nat) (g : Nat) (T : TypeId) (cs : Array Value) (v1 v2 : Value) (hR : R (.returned (.tuple #[v1, v2])) w)
    (h1 : look l0 p = some (pt g 0) := by kernel_rfl) (h2 : lookP L0 k = some (.blk g T cs) := by kernel_rfl) (h3 : ldB P ty cs.toList 0 = true := by kernel_rfl) (h4 : ldV P ty cs.toList 0 = v1 := by kernel_rfl) (h5 : look l0 q = some v2 := by kernel_rfl) : bodyPost P fn R .ret a w := by
  have hv := run_var (P := P) (hS.blk k (g := g) (t := T) (cs := cs) (by rw [lookM_den, h2]; rfl)) h3
  exact bodyPost_ret (v := .tuple #[v1, v2]) (by simp [results, h, hE.get p h1, hE.get q h5, asAddr, hv, h4]) hE.defers hR
theorem retctt {fn : Func} {R : Ending → World → Prop} {p q r : Tmp} {ty : TypeId} (hE : Env n l0 a) (hS : Stp olds w0 w (lookM (den olds w0 L0))) (h : fn.results = #[.cell p ty, .tmp q, .tmp r]) (k : Nat) (g : Nat) (T : TypeId) (cs : Array Value) (v1 v2 v3 : Value) (hR : R (.returned (.tuple #[v1, v2, v3])) w)
    (h1 : look l0 p = some (pt g 0) := by kernel_rfl) (h2 : lookP L0 k = some (.blk g T cs) := by kernel_rfl) (h3 : ldB P ty cs.toList 0 = true := by kernel_rfl) (h4 : ldV P ty cs.toList 0 = v1 := by kernel_rfl) (h5 : look l0 q = some v2 := by kernel_rfl) (h6 : look l0 r = some v3 := by kernel_rfl) : bodyPost P fn R .ret a w := by
  have hv := run_var (P := P) (hS.blk k (g := g) (t := T) (cs := cs) (by rw [lookM_den, h2]; rfl)) h3
  exact bodyPost_ret (v := .tuple #[v1, v2, v3]) (by simp [results, h, hE.get p h1, hE.get q h5, hE.get r h6, asAddr, hv, h4]) hE.defers hR
theorem retctc {fn : Func} {R : Ending → World → Prop} {p q r : Tmp} {ty ty2 : TypeId} (hE : Env n l0 a) (hS : Stp olds w0 w (lookM (den olds w0 L0))) (h : fn.results = #[.cell p ty, .tmp q, .cell r ty2]) (k k2 : Nat) (g g2 : Nat) (T T2 : TypeId) (cs cs2 : Array Value) (v1 v2 v3 : Value) (hR : R (.returned (.tuple #[v1, v2, v3])) w)
    (h1 : look l0 p = some (pt g 0) := by kernel_rfl) (h2 : lookP L0 k = some (.blk g T cs) := by kernel_rfl) (h3 : ldB P ty cs.toList 0 = true := by kernel_rfl) (h4 : ldV P ty cs.toList 0 = v1 := by kernel_rfl) (h5 : look l0 q = some v2 := by kernel_rfl)
    (h6 : look l0 r = some (pt g2 0) := by kernel_rfl) (h7 : lookP L0 k2 = some (.blk g2 T2 cs2) := by kernel_rfl) (h8 : ldB P ty2 cs2.toList 0 = true := by kernel_rfl) (h9 : ldV P ty2 cs2.toList 0 = v3 := by kernel_rfl) : bodyPost P fn R .ret a w := by
  have hv := run_var (P := P) (hS.blk k (g := g) (t := T) (cs := cs) (by rw [lookM_den, h2]; rfl)) h3
  have hv2 := run_var (P := P) (hS.blk k2 (g := g2) (t := T2) (cs := cs2) (by rw [lookM_den, h7]; rfl)) h8
  exact bodyPost_ret (v := .tuple #[v1, v2, v3]) (by simp [results, h, hE.get p h1, hE.get q h5, hE.get r h6, asAddr, hv, h4, hv2, h9]) hE.defers hR
theorem pcO (hS : Stp olds w0 w (lookM (den olds w0 L0))) (k : Nat) {base : Nat} {v : Value} {l : List Int} (h : lookP L0 k = some (.bytes base v l) := by kernel_rfl) : w.ownsRow base 5 1 v l.length (u8s l) := hS.row k (by rw [lookM_den, h]; rfl)
/-- A piece read off. -/
theorem pcB (hS : Stp olds w0 w (lookM (den olds w0 L0))) (k : Nat) {g : Nat} {T : TypeId} {cs : Array Value} (h : lookP L0 k = some (.blk g T cs) := by kernel_rfl) : Blk w g T cs := hS.blk k (by rw [lookM_den, h]; rfl)
theorem pcF (hS : Stp olds w0 w (lookM (den olds w0 L0))) (k : Nat) {g : Nat} {bs : List Int} (h : lookP L0 k = some (.buf g bs) := by kernel_rfl) : Buf w g bs := hS.blk k (by rw [lookM_den, h]; rfl)
theorem pcG (hS : Stp (fun _ => False) w0 w (lookM (den (fun _ => False) w0 L0))) (k : Nat) {g : Nat} {bs : List Int} (h : lookP L0 k = some (.buf g bs) := by kernel_rfl) : w0.heap.size ≤ g := (hS.lt k _ (by rw [lookM_den, h]; rfl) g rfl).2.resolve_right id
theorem pcR (hS : Stp olds w0 w (lookM (den olds w0 L0))) (k : Nat) {base : Nat} {e : TypeId} {size : Nat} {v : Value} {n : Nat} {xs : List Value} (h : lookP L0 k = some (.row base e size v n xs) := by kernel_rfl) : w.ownsRow base e size v n xs := hS.row k (by rw [lookM_den, h]; rfl)
end
end Go.Proofs.YtmmfpgoodfgkbaaGreat
/-
  LOOPS OVER LISTS by computed steps: the elements of a list that lay there; a loop that counts up to the list's length. Condition: fewer than 2^62 rounds.
-/
namespace Go.Proofs.YtmmfpgoodfgkbaaGreat
open Go Go.RowKit
set_option linter.unusedVariables false

/-- The address o cells behind another. -/
def elA : Option Addr → Nat → Value
  | some a, o => .pointer (some ⟨a.block, a.off + o, none⟩)
  | none, _ => undef
section
variable {P : Program} {olds : Nat → Prop} {w0 : World}
/-- An index into a slice whose element is a piece. -/
def ie (k : Nat) : Step P olds w0 where
  rd := [k]
  wr := []
  skip := false
  must := true
  V i _ := match i.o.op, i.vals with
    | .indexAddr t _ _, [.slice A n c, j] => elA A (ixK j * ixS P t)
    | _, _ => undef
  W _ _ := []
  chk i := match i.o.op, i.vals, i.ps with
    | .indexAddr t _ _, [.slice A n c, j], [some (.el A' o cs)] => [(.v j, .v (.int .i64 (ixK j : Nat))), (.b (Nat.blt 0 (ixS P t)), .b true), (.v (.slice A n c), .v (.slice A' n c))]
    | _, _, _ => no
  pre i := match i.vals with
    | [.slice A n c, j] => ixK j < n
    | _ => True
  ok _ i L a w K Q hc hp hs hv hL hS hK := by
    obtain ⟨o, sem, vals, ps⟩ := i
    revert hc hK hs hv hL hp
    simp only
    split
    · rename_i t y z A n c j A' o' cs ho
      intro hc hp hs hv hL hK
      have h1 := hc _ (List.mem_cons_self ..)
      have h2 := hc _ (List.mem_cons_of_mem _ (List.mem_cons_self ..))
      have h3 := hc _ (List.mem_cons_of_mem _ (List.mem_cons_of_mem _ (List.mem_singleton.2 rfl)))
      injection h1 with h1
      injection h2 with h2
      injection h3 with h3
      injection h3 with h3
      simp only [Nat.blt_eq] at h2
      have hxv : a.eval y = .slice A n c ∧ a.eval z = j := by simpa [ho, Op.operands] using hv
      obtain ⟨hu, he⟩ := elT_spec h2
      have hsz := szT_run (P := P) (e := elT P t) (by omega)
      obtain ⟨b, off, hA, _⟩ := hS.pure_ k (one_pc (olds := olds) (w0 := w0) hL).2
      subst h3
      subst hA
      have := run_index1 (P := P) (w := w) hu (fun w => hsz w) b off n c (ixK j) (hp trivial)
      rw [← h1] at this
      refine exec_wp (w' := w) ?_ (hK pay0 w (stp_none w))
      simp only [execOp, ho, hxv.1, hxv.2, Sem.run_bind, this, Result.andThen_ok, Sem.run_pure, he, elA]
    · intro hc; exact no_false hc
/-- A load out of such an element, j cells behind its beginning. -/
def le (k j : Nat) : Step P olds w0 where
  rd := [k]
  wr := []
  skip := false
  must := false
  V i _ := match i.o.op, i.ps with
    | .load t _, [some (.el A o cs)] => ldV P t cs j
    | _, _ => undef
  W _ _ := []
  chk i := match i.o.op, i.vals, i.ps with
    | .load t _, [x], [some (.el A o cs)] => [(.v x, .v (elA A (addOff o j))), (.b (ldB P t cs j), .b true)]
    | _, _, _ => no
  pre _ := True
  ok _ i L a w K Q hc _ hs hv hL hS hK := by
    obtain ⟨o, sem, vals, ps⟩ := i
    revert hc hK hs hv hL
    simp only
    split
    · rename_i t y x A o' cs ho
      intro hc hs hv hL hK
      have h1 := hc _ (List.mem_cons_self ..)
      have h2 := hc _ (List.mem_cons_of_mem _ (List.mem_singleton.2 rfl))
      injection h1 with h1
      injection h2 with h2
      have hx : a.eval y = x := by simpa [ho, Op.operands] using hv
      obtain ⟨b, off, hA, hO⟩ := hS.pure_ k (one_pc (olds := olds) (w0 := w0) hL).2
      subst hA
      have hb := cell_kept hS hO
      have := ld_run (P := P) (t := t) (b := b) (o := off + addOff o' j) (w := w) h2 fun i v hi => by
        have := hb (j + i) v hi
        rwa [show off + addOff o' j + i = off + o' + (j + i) by cases j <;> simp [addOff] <;> omega]
      refine exec_wp (w' := w) ?_ (by simpa only [ho] using hK pay0 w (stp_none w))
      have h1 : x = .pointer (some ⟨b, off + addOff o' j, none⟩) := h1
      rw [← h1] at this
      simp only [execOp, ho, hx, Sem.run_bind, this, Result.andThen_ok, Sem.run_pure]
    · intro hc; exact no_false hc
/-- The elements of a list that lay there. -/
theorem el_at {B s n : Nat} {A : Option Addr} {α : Type} {f : α → List Value} {l : List α} (h : Reads w0 B s A n (l.flatMap f)) (hf : ∀ x ∈ l, (f x).length = s) (hn : n = l.length) (hB : ∀ g, g < B → g < w0.heap.size ∧ ¬ olds g) (k : Nat) (hk : k < l.length) (hs : 0 < s) : ElAt olds w0 A (k * s) (f l[k]) := by
  obtain ⟨b, off, hA, hb⟩ := Reads.addr h (by omega) hs
  subst hA
  exact ⟨b, off, rfl, reads_range h hf k hk, fun _ => hB b hb⟩
theorem stp_el {w : World} {L : PL} (h : Stp olds w0 w (lookM (den olds w0 L))) (k : Nat) {A : Option Addr} {o : Nat} {cs : List Value} (he : ElAt olds w0 A o cs) : Stp olds w0 w (lookM (den olds w0 ((k, some (.el A o cs)) :: L))) :=
  h.then_ (NL := [(k, _)]) (stp_one k (ckP (ElAt olds w0 A o cs)) (.inl (World.grownBy.refl w _)) he fun g hg => hg.elim)
theorem stp_rd {w : World} {L : PL} (h : Stp olds w0 w (lookM (den olds w0 L))) (k : Nat) {A : Option Addr} {l : List Int} {B n : Nat} (hr : Reads w0 B 1 A n (u8s l)) (hB : ∀ g, g < B → g < w0.heap.size ∧ ¬ olds g) : Stp olds w0 w (lookM (den olds w0 ((k, some (.rd A l)) :: L))) :=
  h.then_ (NL := [(k, _)]) (stp_one k (ckP (RdAt olds w0 A l)) (.inl (World.grownBy.refl w _)) ⟨B, by have := hr.1; rw [u8s_len] at this; rwa [show n = l.length by omega] at hr, hB⟩ fun g hg => hg.elim)
/-- A row that is empty. -/
theorem stp_row0 {w : World} {L : PL} (h : Stp olds w0 w (lookM (den olds w0 L))) (k : Nat) (base : Nat) (e : TypeId) (size : Nat) : Stp olds w0 w (lookM (den olds w0 ((k, some (.row base e size (.slice none 0 0) 0 [])) :: L))) := ckR_nil h k base e size
theorem stp_bytes0 {w : World} {L : PL} (h : Stp olds w0 w (lookM (den olds w0 L))) (k : Nat) (base : Nat) : Stp olds w0 w (lookM (den olds w0 ((k, some (.bytes base (.slice none 0 0) [])) :: L))) := ckR_nil h k base 5 1
end

/-- **A LOOP THAT COUNTS**: the state behind k rounds is said by J; x is what it brings up by itself, of which I holds. -/
theorem range_up {P : Program} {olds : Nat → Prop} {w0 : World} {n : Nat} {a : Act} {w : World} {Q : Exit → Act → World → Prop} {l0 : List (Nat × Value)} {L0 : PL} {X : Type}
    {b b' id1 id2 : Nat} {c : Tmp} {o1 o2 o3 : Oper} {body : Code} (hE : Env n l0 a) (hS : Stp olds w0 w (lookM (den olds w0 L0))) (i : Tmp) (N : Nat) (Jl : Nat → X → List (Nat × Value) → List (Nat × Value)) (JL : Nat → X → PL → PL) (I : Nat → X → Prop) (x0 : X) (hN : N ≤ 4611686018427387904) (hI : I 0 x0)
    (round : ∀ k x a w, k < N → I k x → Env n ((c, .bool true) :: (i, .int .i64 (k : Nat)) :: (Jl k x l0)) a → Stp olds w0 w (lookM (den olds w0 (JL k x L0))) → ∀ K : Act → World → Prop,
      (∀ (x' : X) (a' : Act) (w' : World) (lc : List (Nat × Value)) (Lc : PL), I (k + 1) x' → Env n lc a' → Stp olds w0 w' (lookM (den olds w0 Lc)) →
        (endChk ⟨lc, Lc⟩ ⟨(i, .int .i64 (k : Nat)) :: (Jl (k + 1) x' l0), (JL (k + 1) x' L0)⟩).map (·.1) = (endChk ⟨lc, Lc⟩ ⟨(i, .int .i64 (k : Nat)) :: (Jl (k + 1) x' l0), (JL (k + 1) x' L0)⟩).map (·.2) → K a' w') →
      ∀ R : Exit → Act → World → Prop, (∀ e a' w', (∀ id, e ≠ .exit id) → e ≠ .normal → Q e a' w' → R e a' w') → body.wp P (Exit.inBlock b' (Exit.then K R)) a w)
    (fin : ∀ x a w, I N x → Env n ((c, .bool false) :: (i, .int .i64 (N : Nat)) :: (Jl N x l0)) a → Stp olds w0 w (lookM (den olds w0 (JL N x L0))) → Q .normal a w)
    (h0 : (endChk ⟨l0, L0⟩ ⟨(i, .int .i64 (0 : Nat)) :: (Jl 0 x0 l0), (JL 0 x0 L0)⟩).map (·.1) = (endChk ⟨l0, L0⟩ ⟨(i, .int .i64 (0 : Nat)) :: (Jl 0 x0 l0), (JL 0 x0 L0)⟩).map (·.2) := by kernel_rfl)
    (hh : ∀ (k : Nat) (x : X) (p : Nat → Pay), (allChk (olds := olds) (w0 := w0) n [o1] [(pu : Step P olds w0)] ⟨(i, .int .i64 (k : Nat)) :: (Jl k x l0), (JL k x L0)⟩ (fun _ => ⟨(c, .bool (decide ((k : Int) < (N : Int)))) :: (i, .int .i64 (k : Nat)) :: (Jl k x l0), (JL k x L0)⟩) p).map (·.1) = (allChk (olds := olds) (w0 := w0) n [o1] [(pu : Step P olds w0)] ⟨(i, .int .i64 (k : Nat)) :: (Jl k x l0), (JL k x L0)⟩ (fun _ => ⟨(c, .bool (decide ((k : Int) < (N : Int)))) :: (i, .int .i64 (k : Nat)) :: (Jl k x l0), (JL k x L0)⟩) p).map (·.2) := by intro k x p; kernel_rfl)
    (hi : ∀ (k : Nat) (x : X) (p : Nat → Pay), (allChk (olds := olds) (w0 := w0) n [o2, o3] [(pu : Step P olds w0), pu] ⟨(i, .int .i64 (k : Nat)) :: (Jl (k + 1) x l0), (JL (k + 1) x L0)⟩ (fun _ => ⟨(i, .int .i64 (IntKind.i64.wrap ((k : Int) + 1))) :: (Jl (k + 1) x l0), (JL (k + 1) x L0)⟩) p).map (·.1) = (allChk (olds := olds) (w0 := w0) n [o2, o3] [(pu : Step P olds w0), pu] ⟨(i, .int .i64 (k : Nat)) :: (Jl (k + 1) x l0), (JL (k + 1) x L0)⟩ (fun _ => ⟨(i, .int .i64 (IntKind.i64.wrap ((k : Int) + 1))) :: (Jl (k + 1) x l0), (JL (k + 1) x L0)⟩) p).map (·.2) := by intro k x p; kernel_rfl) :
    (Code.block b (Code.loop (Code.seq (Code.region id1 [o1].toArray false) (Code.seq (Code.cond (.tmp c) .skip (.exit b)) (Code.seq (Code.block b' body) (Code.region id2 [o2, o3].toArray false)))))).wp P Q a w := by
  refine wp_block ?_
  refine wp_loop_up N (fun k a w' => ∃ x, I k x ∧ Env n ((i, .int .i64 (k : Nat)) :: (Jl k x l0)) a ∧ Stp olds w0 w' (lookM (den olds w0 (JL k x L0)))) ⟨x0, hI, end_env (s' := ⟨(i, .int .i64 (0 : Nat)) :: (Jl 0 x0 l0), (JL 0 x0 L0)⟩) (fst_snd h0) hE, end_mem (s' := ⟨(i, .int .i64 (0 : Nat)) :: (Jl 0 x0 l0), (JL 0 x0 L0)⟩) (fst_snd h0) hS⟩ ?_
  rintro k a1 w1 hk ⟨x, hx, hE1, hS1⟩ K hK
  refine wp_seq (wp_reg hE1 hS1 [pu] _ (hh k x) (fun _ => trivial) fun _ a2 w2 hE2 hS2 => ?_)
  show (Code.seq (Code.cond (.tmp c) .skip (.exit b)) (Code.seq (Code.block b' body) (Code.region id2 [o2, o3].toArray false))).wp P _ a2 w2
  refine wp_seq ?_
  by_cases hlt : k < N
  · rw [show decide ((k : Int) < (N : Int)) = true from decide_eq_true (by omega)] at hE2
    refine wp_if_t hE2 c (by simp [look]) (wp_skip ?_)
    show (Code.seq (Code.block b' body) (Code.region id2 [o2, o3].toArray false)).wp P _ a2 w2
    refine wp_seq (wp_block (round k x a2 w2 hlt hx hE2 hS2 _ (fun x' a3 w3 lc Lc hx' hE3 hS3 hc3 => ?_) _ fun e a' w' hne hnn hq => ?_))
    · show (Code.region id2 [o2, o3].toArray false).wp P _ a3 w3
      refine wp_reg (end_env (s' := ⟨(i, .int .i64 (k : Nat)) :: (Jl (k + 1) x' l0), (JL (k + 1) x' L0)⟩) (fst_snd hc3) hE3) (end_mem (s' := ⟨(i, .int .i64 (k : Nat)) :: (Jl (k + 1) x' l0), (JL (k + 1) x' L0)⟩) (fst_snd hc3) hS3) [pu, pu] _ (hi k x') (fun _ => trivial) fun _ a4 w4 hE4 hS4 => ?_
      rw [show IntKind.i64.wrap ((k : Int) + 1) = ((k + 1 : Nat) : Int) from (IntWalk.i64_in _ (by omega)).trans (by omega)] at hE4
      exact hK a4 w4 hlt ⟨x', hx', hE4, hS4⟩
    · cases e with
      | normal => exact absurd rfl hnn
      | exit id => exact absurd rfl (hne id)
      | _ => exact hq
  · obtain rfl : k = N := by omega
    rw [show decide ((k : Int) < (k : Int)) = false from decide_eq_false (by omega)] at hE2
    refine wp_if_f hE2 c (by simp [look]) (wp_exit ?_)
    show Exit.inBlock b Q (.exit b) a2 w2
    simp only [Exit.inBlock, if_true]
    exact fin x a2 w2 hx hE2 hS2
/-- **A LOOP OF AT MOST N ROUNDS** that ends by an exit of its own. -/
theorem loop_k {P : Program} {olds : Nat → Prop} {w0 : World} {n : Nat} {a : Act} {w : World} {Q : Exit → Act → World → Prop} {l0 : List (Nat × Value)} {L0 : PL} {X : Type} {c : Code}
    (hE : Env n l0 a) (hS : Stp olds w0 w (lookM (den olds w0 L0))) (N : Nat) (Jl : Nat → X → List (Nat × Value) → List (Nat × Value)) (JL : Nat → X → PL → PL) (I : Nat → X → Prop) (x0 : X) (hI : I 0 x0)
    (round : ∀ k x a w, k ≤ N → I k x → Env n (Jl k x l0) a → Stp olds w0 w (lookM (den olds w0 (JL k x L0))) → ∀ K : Act → World → Prop,
      (∀ (x' : X) (a' : Act) (w' : World) (lc : List (Nat × Value)) (Lc : PL), k < N → I (k + 1) x' → Env n lc a' → Stp olds w0 w' (lookM (den olds w0 Lc)) →
        (endChk ⟨lc, Lc⟩ ⟨Jl (k + 1) x' l0, JL (k + 1) x' L0⟩).map (·.1) = (endChk ⟨lc, Lc⟩ ⟨Jl (k + 1) x' l0, JL (k + 1) x' L0⟩).map (·.2) → K a' w') → c.wp P (Exit.then K Q) a w)
    (h0 : (endChk ⟨l0, L0⟩ ⟨Jl 0 x0 l0, JL 0 x0 L0⟩).map (·.1) = (endChk ⟨l0, L0⟩ ⟨Jl 0 x0 l0, JL 0 x0 L0⟩).map (·.2) := by kernel_rfl) : (Code.loop c).wp P Q a w :=
  wp_loop_up N (fun k a w' => ∃ x, I k x ∧ Env n (Jl k x l0) a ∧ Stp olds w0 w' (lookM (den olds w0 (JL k x L0)))) ⟨x0, hI, end_env (s' := ⟨Jl 0 x0 l0, JL 0 x0 L0⟩) (fst_snd h0) hE, end_mem (s' := ⟨Jl 0 x0 l0, JL 0 x0 L0⟩) (fst_snd h0) hS⟩
    fun k a1 w1 hk ⟨x, hx, hE1, hS1⟩ K hK => round k x a1 w1 hk hx hE1 hS1 K fun x' a' w' lc Lc hlt hx' hE' hS' hc => hK a' w' hlt ⟨x', hx', end_env (s' := ⟨Jl (k + 1) x' l0, JL (k + 1) x' L0⟩) (fst_snd hc) hE', end_mem (s' := ⟨Jl (k + 1) x' l0, JL (k + 1) x' L0⟩) (fst_snd hc) hS'⟩
/-- A row of the caller's, and two blocks, at a call's beginning. -/
theorem stp_row1 {w : World} {base : Nat} {v : Value} {l : List Int} (k : Nat) (h : w.ownsRow base 5 1 v l.length (u8s l)) : Stp (fun g => v.ownBlock = some g) w w (lookM (den (fun g => v.ownBlock = some g) w [(k, some (.bytes base v l))])) :=
  stp_row k h (.inl (World.grownBy.refl w _)) fun g hg => .inr hg
theorem stp_blk1 {w : World} {g : Nat} {t : TypeId} {cs : Array Value} (k : Nat) (h : Blk w g t cs) : Stp (· = g) w w (lookM (den (· = g) w [(k, some (.blk g t cs))])) := stp_blk k h (.inl (World.grownBy.refl w _)) (.inr rfl)
theorem stp_more {olds : Nat → Prop} {w0 w : World} {L : PL} (h : Stp olds w0 w (lookM (den olds w0 L))) (k : Nat) {g : Nat} {t : TypeId} {cs : Array Value} (hb : Blk w g t cs) (ho : olds g) (hne : ∀ n c, lookM (den olds w0 L) n = some c → ¬ c.blks g) : Stp olds w0 w (lookM (den olds w0 ((k, some (.blk g t cs)) :: L))) := by
  have key : ∀ n c, lookM (den olds w0 ((k, some (.blk g t cs)) :: L)) n = some c → (n = k ∧ c = ckB g t cs) ∨ (n ≠ k ∧ lookM (den olds w0 L) n = some c) := fun n c hc => by
    simp only [den, lookM] at hc
    cases hq : Nat.beq k n with
    | true => rw [hq] at hc; simp only [cond_true, Option.map_some, Option.some.injEq] at hc; exact .inl ⟨(Nat.eq_of_beq_eq_true hq).symm, hc.symm⟩
    | false => rw [hq] at hc; exact .inr ⟨fun e => (by rw [e, Nat.beq_refl] at hq; cases hq), hc⟩
  refine ⟨h.os, h.tape, h.output, h.size, h.kept, fun n c hc => ?_, fun n c hc x hx => ?_, fun n n' c c' hc hc' hn x hx hx' => ?_⟩
  · rcases key n c hc with ⟨_, rfl⟩ | ⟨_, hc⟩
    · exact hb
    · exact h.ok n c hc
  · rcases key n c hc with ⟨_, rfl⟩ | ⟨_, hc⟩
    · have : x = g := hx
      subst this
      exact ⟨hb.lt, .inr ho⟩
    · exact h.lt n c hc x hx
  · rcases key n c hc with ⟨e1, rfl⟩ | ⟨_, h3⟩ <;> rcases key n' c' hc' with ⟨e2, rfl⟩ | ⟨_, h4⟩
    · exact hn (e1.trans e2.symm)
    · have : x = g := hx
      subst this
      exact hne n' c' h4 hx'
    · have : x = g := hx'
      subst this
      exact hne n c h3 hx
    · exact h.apart n n' c c' h3 h4 hn x hx hx'
theorem stp_blk2 {w : World} {g g' : Nat} {t t' : TypeId} {cs cs' : Array Value} (k k' : Nat) (h : Blk w g t cs) (h' : Blk w g' t' cs') (hne : g ≠ g') : Stp (fun x => x = g ∨ x = g') w w (lookM (den (fun x => x = g ∨ x = g') w [(k, some (.blk g t cs)), (k', some (.blk g' t' cs'))])) :=
  stp_more (L := [(k', some (.blk g' t' cs'))]) (Stp.mono (olds' := fun x => x = g ∨ x = g') (stp_blk1 k' h') fun x hx => Or.inr hx) k h (Or.inl rfl) fun n c hc hx => by
    simp only [den, lookM] at hc
    cases hb : Nat.beq k' n with
    | true =>
      rw [hb] at hc
      simp only [cond_true, Option.map_some, Option.some.injEq] at hc
      subst hc
      exact hne hx
    | false => rw [hb] at hc; cases hc
/-- Two pieces under other names. -/
theorem stp_ren2 {olds : Nat → Prop} {w0 w : World} {M : Nat → Option Ck} {c1 c2 : Ck} {i j : Nat} (h : Stp olds w0 w M) (h1 : M i = some c1) (h2 : M j = some c2) (hij : i ≠ j) (k k' : Nat) : Stp olds w0 w (lookM [(k, some c1), (k', some c2)]) := by
  have key : ∀ n c, lookM [(k, some c1), (k', some c2)] n = some c → (n = k ∧ c = c1) ∨ (n ≠ k ∧ n = k' ∧ c = c2) := fun n c hc => by
    simp only [lookM] at hc
    cases hb : Nat.beq k n with
    | true => rw [hb] at hc; simp only [cond_true, Option.some.injEq] at hc; exact .inl ⟨(Nat.eq_of_beq_eq_true hb).symm, hc.symm⟩
    | false =>
      rw [hb] at hc
      simp only [cond_false] at hc
      cases hb2 : Nat.beq k' n with
      | true => rw [hb2] at hc; simp only [cond_true, Option.some.injEq] at hc; exact .inr ⟨fun e => (by rw [e, Nat.beq_refl] at hb; cases hb), (Nat.eq_of_beq_eq_true hb2).symm, hc.symm⟩
      | false => rw [hb2] at hc; simp at hc
  refine ⟨h.os, h.tape, h.output, h.size, h.kept, fun n c hc => ?_, fun n c hc x hx => ?_, fun n n' c c' hc hc' hn x hx hx' => ?_⟩
  · rcases key n c hc with ⟨_, rfl⟩ | ⟨_, _, rfl⟩
    · exact h.ok i _ h1
    · exact h.ok j _ h2
  · rcases key n c hc with ⟨_, rfl⟩ | ⟨_, _, rfl⟩
    · exact h.lt i _ h1 x hx
    · exact h.lt j _ h2 x hx
  · rcases key n c hc with ⟨e1, rfl⟩ | ⟨n1, e1, rfl⟩ <;> rcases key n' c' hc' with ⟨e2, rfl⟩ | ⟨n2, e2, rfl⟩
    · exact hn (e1.trans e2.symm)
    · exact h.apart i j _ _ h1 h2 hij x hx hx'
    · exact h.apart j i _ _ h2 h1 (Ne.symm hij) x hx hx'
    · exact hn (e1.trans e2.symm)
/-- What a loop brings up: a row's address and room, its length, its cells, and more. -/
structure Lx (α : Type) where
  p : Pay
  n : Nat
  xs : List Value
  y : α
end Go.Proofs.YtmmfpgoodfgkbaaGreat
