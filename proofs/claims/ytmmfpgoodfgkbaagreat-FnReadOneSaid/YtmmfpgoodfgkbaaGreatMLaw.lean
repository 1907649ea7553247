/-
  THE GUARD WITH PIECES: a closure that keeps a contract over pieces of memory keeps it under the guard. Condition: the closure's contract.
-/
import Derived.Test.YtmmfpgoodfgkbaaGreatTry
import Derived.Test.YtmmfpgoodfgkbaaGreatMStep
namespace Go.Proofs.YtmmfpgoodfgkbaaGreat
open Go Go.RowKit
set_option linter.unusedVariables false

theorem stp_try {olds : Nat → Prop} {w wa w2 : World} {o : Obj} {L : List (Nat × Option Ck)} (h : Stp olds (w.alloc o) wa (lookM L)) (hg : wa.grownBy w2 (some w.heap.size)) (ho : ∀ g, olds g → g < w.heap.size) : Stp olds w w2 (lookM L) := by
  have hsz : (w.alloc o).heap.size = w.heap.size + 1 := by simp
  have hs := h.size
  have key : ∀ n c, lookM L n = some c → ∀ g, c.blks g → w2.heap[g]? = wa.heap[g]? := fun n c hc g hgb => by
    have hl := h.lt n c hc g hgb
    refine hg.block g hl.1 fun e => ?_
    injection e with e
    rcases hl.2 with h2 | h2
    · omega
    · have := ho g h2; omega
  refine ⟨hg.os.trans h.os, hg.tape.trans h.tape, hg.output.trans h.output, by have := hg.size; omega, fun g hlt hn => ?_, fun n c hc => c.st wa w2 (key n c hc) (h.ok n c hc), fun n c hc g hgb => ?_, h.apart⟩
  · rw [hg.block g (by omega) (fun e => by injection e with e; omega), h.kept g (by omega) hn, Below.heap_alloc w o g hlt]
  · have hl := h.lt n c hc g hgb
    exact ⟨by have := hg.size; omega, hl.2.imp (fun h2 => by omega) id⟩
theorem stp_rebase {olds olds2 : Nat → Prop} {w0 w : World} {M : Nat → Option Ck} (h : Stp olds w0 w M) (ho : ∀ n c, M n = some c → ∀ g, c.blks g → olds2 g) : Stp olds2 w w M :=
  ⟨rfl, rfl, rfl, Nat.le_refl _, fun _ _ _ => rfl, h.ok, fun n c hc g hg => ⟨(h.lt n c hc g hg).1, .inr (ho n c hc g hg)⟩, h.apart⟩
theorem lookP_zip {L : PL} : ∀ (ks : List Nat) (n : Nat), lookP (zipW ks (ks.map (lookP L))) n = bif hasN ks n then lookP L n else none
  | [], n => rfl
  | k :: ks, n => by
    have ih := lookP_zip (L := L) ks n
    show (bif Nat.beq k n then lookP L k else lookP (zipW ks (ks.map (lookP L))) n) = _
    rw [ih]
    simp only [hasN]
    cases hb : Nat.beq k n with
    | true => rw [Nat.eq_of_beq_eq_true hb]; simp
    | false => simp
theorem restr_zip {olds : Nat → Prop} {w0 : World} {L : PL} (ks : List Nat) : lookM (den olds w0 (zipW ks (ks.map (lookP L)))) = restr ks (lookM (den olds w0 L)) := by
  funext n
  rw [lookM_den, lookP_zip]
  unfold restr
  rw [lookM_den]
  cases hasN ks n <;> rfl
theorem stp_rem {olds : Nat → Prop} {w0 w : World} {L : PL} (h : Stp olds w0 w (lookM (den olds w0 L))) (L' : PL) (hc : (endChk ⟨[], L⟩ ⟨[], L'⟩).map (·.1) = (endChk ⟨[], L⟩ ⟨[], L'⟩).map (·.2)) : Stp olds w0 w (lookM (den olds w0 L')) := end_mem (s := ⟨[], L⟩) (s' := ⟨[], L'⟩) (fst_snd hc) h
theorem try_cu {w0 : World} {f : FuncId} {caps : Array Value} {ks : List Nat} {ps : List (Option Pc)} {W : Pay → List (Option Pc)} (hf : ∀ w : World, (callFunc f caps).run Tryz.prog w = .ok (.enter f caps) w)
    (hp : ∀ olds w olds' w', den olds w (zipW ks ps) = den olds' w' (zipW ks ps)) (hW : ∀ x olds w olds' w', den olds w (zipW ks (W x)) = den olds' w' (zipW ks (W x)))
    (h : ∀ (olds : Nat → Prop) (w : World), Below w0.heap.size w0 w → (∀ g, olds g → w0.heap.size ≤ g) → Stp olds w w (lookM (den olds w (zipW ks ps))) → Calls Tryz.prog f caps w fun e w' => ∃ x : Pay, e = .returned (.bool true) ∧ Stp olds w w' (lookM (den olds w (zipW ks (W x)))))
    (L : PL) (w : World) (hps : ps = ([] ++ ks).map (lookP L)) (hS : Stp (fun _ => False) w0 w (restr ([] ++ ks) (lookM (den (fun _ => False) w0 L)))) :
    Calls Tryz.prog 26 #[.func (.func f) #[] caps] w fun e w' => ∃ x : Pay, e = .returned (.bool true) ∧ Stp (blksOf (lookM (den (fun _ => False) w0 L)) ks) w w' (lookM (den (fun _ => False) w0 (zipW ks (W x)))) := by
  rw [List.nil_append] at hps hS
  have hin : ∀ n c, restr ks (lookM (den (fun _ => False) w0 L)) n = some c → n ∈ ks ∧ lookM (den (fun _ => False) w0 L) n = some c := fun n c hc => by
    unfold restr at hc
    cases hb : hasN ks n with
    | true => rw [hb] at hc; exact ⟨(hasN_mem ks n).1 hb, hc⟩
    | false => rw [hb] at hc; cases hc
  have hol : ∀ g, blksOf (lookM (den (fun _ => False) w0 L)) ks g → w0.heap.size ≤ g ∧ g < w.heap.size := fun g ⟨n, hn, c, hc, hg⟩ => by
    have := hS.lt n c (by unfold restr; rw [(hasN_mem ks n).2 hn]; exact hc) g hg
    exact ⟨this.2.resolve_right id, this.1⟩
  have hBw := hS.below
  have hsz := hS.size
  have hB1 : Below w.heap.size w (w.alloc (.cells #[.bool false] 4)) := (Below.refl _ _).alloc (Nat.le_refl _) _
  have hS1 : Stp (fun _ => False) w0 (w.alloc (.cells #[.bool false] 4)) (restr ks (lookM (den (fun _ => False) w0 L))) := hS.comp [] (N := lookM []) (stp_of_below hB1) (fun _ _ h => by cases h) _ fun n => by simp
  have hS2 := stp_rebase (olds2 := blksOf (lookM (den (fun _ => False) w0 L)) ks) hS1 fun n c hc g hg => ⟨n, (hin n c hc).1, c, (hin n c hc).2, hg⟩
  rw [← restr_zip, ← hps, hp _ _ (blksOf (lookM (den (fun _ => False) w0 L)) ks) (w.alloc (.cells #[.bool false] 4))] at hS2
  refine (try_any f caps w (fun b w' => b = true ∧ ∃ x : Pay, Stp (blksOf (lookM (den (fun _ => False) w0 L)) ks) (w.alloc (.cells #[.bool false] 4)) w' (lookM (den (blksOf (lookM (den (fun _ => False) w0 L)) ks) (w.alloc (.cells #[.bool false] 4)) (zipW ks (W x))))) hf ?_).mono ?_
  · refine (h _ _ (hBw.alloc hsz _) (fun g hg => (hol g hg).1) hS2).mono ?_
    rintro e wa ⟨x, rfl, hst⟩
    refine ⟨_, rfl, ⟨rfl, x, hst⟩, ?_⟩
    have hnb := blk_new w 4 #[.bool false] rfl
    exact (hst.kept _ hnb.lt (fun e => by have := (hol _ e).2; omega)).trans hnb
  rintro e w5 ⟨b, wa, rfl, ⟨rfl, x, hst⟩, hg3, _⟩
  refine ⟨x, rfl, ?_⟩
  have := stp_try hst hg3 (fun g e => (hol g e).2)
  rwa [hW x _ _ (fun _ => False) w0] at this
end Go.Proofs.YtmmfpgoodfgkbaaGreat
