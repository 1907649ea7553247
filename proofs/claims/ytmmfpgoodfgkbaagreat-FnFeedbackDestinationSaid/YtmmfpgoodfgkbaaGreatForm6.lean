/-
  THE WALK of the reference's body of a packet: lost packets. Condition: the kind; the numbers fit their kinds; fewer than 2^31 pairs.
-/
import Derived.Test.YtmmfpgoodfgkbaaGreatForm2
namespace Go.Proofs.YtmmfpgoodfgkbaaGreat
open Go Go.RowKit
set_option linter.unusedVariables false

theorem pair_cells_len : ∀ (l : List Pair), ∀ x ∈ l, (Pair.cells x).length = 2 := fun _ _ _ => rfl
def pairsB (l : List Pair) : List Int := l.flatMap fun x => be16 x.id ++ be16 x.mask
theorem pairsB_len (l : List Pair) : (pairsB l).length = 4 * l.length := by
  induction l with
  | nil => rfl
  | cons x l ih => rw [pairsB, List.flatMap_cons, List.length_append, ← pairsB, ih]; simp [be16_len]; omega
/-- What stands behind a region, wherever it lies. -/
def codeBehind (n : Nat) : Code → Option Code
  | .seq (.region i _ _) y => if i = n then some y else codeBehind n y
  | .seq a b => match codeBehind n a with
    | some c => some c
    | none => codeBehind n b
  | .block _ c => codeBehind n c
  | .scope c => codeBehind n c
  | .loop c => codeBehind n c
  | .cond _ a b => match codeBehind n a with
    | some c => some c
    | none => codeBehind n b
  | _ => none
noncomputable def formBehind (n : Nat) : Code := (Tryz.f52.body.bind (codeBehind n)).getD .skip

theorem own_ne {g g1 x s : Nat} {m cap : Nat} (h : (Value.slice (some ⟨g, 0, none⟩) m cap).ownBlock = some g1 ∨ s ≤ g1) (h1 : g ≠ x) (h2 : x < s) : g1 ≠ x := by
  rcases h with e | e
  · have : g = g1 := by simpa [Value.ownBlock] using e
    omega
  · omega

set_option maxHeartbeats 1000000 in
set_option maxRecDepth 100000 in
theorem formR48_t {α : Type} (p : Pkt) (s : Sl α) (w w3 : World) (a : Act) (B m : Nat) (u : Value) (xs : List Value) (b : Bool) (hs : p.cells[14]? = some (.slice s.A (s.l.length : Nat) s.c)) (hG : 0 < s.l.length)
    (hE : Env 490 [(1, .pointer (some ⟨w.heap.size, 0, none⟩)), (2, .pointer (some ⟨w.heap.size + 1, 0, none⟩)), (4, .pointer (some ⟨w.heap.size + 1 + 1, 0, none⟩)), (6, u)] a) (hH : Head p w 1 205 b w3) (hown : w3.ownsRow B 5 1 u m xs) (hB : w.heap.size + 3 ≤ B) (Q : Exit → Act → World → Prop)
    (hQ : ∀ a' w', Env 490 [(1, .pointer (some ⟨w.heap.size, 0, none⟩)), (2, .pointer (some ⟨w.heap.size + 1, 0, none⟩)), (3, u), (4, .pointer (some ⟨w.heap.size + 1 + 1, 0, none⟩))] a' → Head p w 1 205 (decide (((s.l.length : Nat) : Int) ≤ 253)) w' → w'.ownsRow B 5 1 u m xs → Q .normal a' w') :
    (formR 48).wp Tryz.prog Q a w3 := by
  have hne : ∀ k, u.ownBlock = some k → w.heap.size + 1 + 1 < k := fun k hk => by have := (hown.lt k hk).1; omega
  conv => arg 2; whnf
  refine wp_region_mid (n := 490) [] (by kernel_rfl) (by kernel_rfl) (by kernel_rfl) (by kernel_rfl) hE.size
    [] (fun w' => True)
    (fun w' => (∃ b, Head p w 1 205 b w') ∧ w'.ownsRow B 5 1 u m xs)
    (fun i v w' => match i with
      | 0 => v = u
      | 1 => v = .pointer (some ⟨w.heap.size, 14, none⟩)
      | 2 => v = .slice s.A (s.l.length : Nat) s.c
      | 3 => v = .int .i64 (s.l.length : Nat)
      | 4 => v = .bool true
      | 5 => v = .bool true
      | 6 => v = .pointer (some ⟨w.heap.size, 14, none⟩)
      | 7 => v = .slice s.A (s.l.length : Nat) s.c
      | 8 => v = .int .i64 (s.l.length : Nat)
      | 9 => v = .bool (decide (((s.l.length : Nat) : Int) ≤ 253))
      | 10 => v = .bool (decide (((s.l.length : Nat) : Int) ≤ 253))
      | 11 => v = u
      | 12 => Head p w 1 205 (decide (((s.l.length : Nat) : Int) ≤ 253)) w'
      | _ => True)
    (fun i w1 w2 => match i with
      | 12 => True
      | _ => w2 = w1)
    (trivial) ?hC0 ?hKeep ?hKeepI ?hDuty ?hEnd
  case hC0 => exact ⟨⟨_, hH.drew⟩, own_drew hown⟩
  case hKeep =>
    intro i k v w1 w2 hne hnd hw hC0 hT hR
    match i, hT with
    | 12, hT =>
      match k, hR with
      | 12, _ => exact absurd rfl hne
      | 0, hR | 1, hR | 2, hR | 3, hR | 4, hR | 5, hR | 6, hR | 7, hR | 8, hR | 9, hR | 10, hR | 11, hR => exact hR
      | _ + 13, _ => trivial
    | 0, hT | 1, hT | 2, hT | 3, hT | 4, hT | 5, hT | 6, hT | 7, hT | 8, hT | 9, hT | 10, hT | 11, hT => subst hT; exact hR
    | _ + 13, hT => subst hT; exact hR
  case hKeepI =>
    exact fun _ _ _ _ _ _ h => h
  case hDuty =>
    refine ⟨?_, ?_, ?_, ?_, ?_, ?_, ?_, ?_, ?_, ?_, ?_, ?_, ?_, trivial⟩
    · refine duty_plain rfl fun vs a w4 hO hI0 hC0 hD K hK => ?_
      obtain ⟨⟨b, hH⟩, hO1⟩ := (show (∃ b, Head p w 1 205 b w4) ∧ w4.ownsRow B 5 1 u m xs from hC0)
      have cf : w4.cell? ⟨w.heap.size, 14, none⟩ = some (.slice s.A (s.l.length : Nat) s.c) := (hH.pk.cell 14).trans hs
      have d4 : w4.cell? ⟨w.heap.size + 1 + 1, 0, none⟩ = some (.bool b) := hH.ok.cell 0
      have f4 : w4.frozen? ⟨w.heap.size + 1 + 1, 0, none⟩ = false := hH.ok.frozen 0
      have hz0 : w.heap.size < w4.heap.size := by have := hH.lt; omega
      have hz1 : w.heap.size + 1 + 1 < w4.heap.size := by have := hH.lt; omega
      clear hs
      have e6 : a.tmps[6]? = some (u) := (hO 6 (by kernel_rfl)).trans (hE.get 6 rfl)
      clear hD hO hI0
      go_simp
      exact hK _ _ hC0 rfl rfl
    · refine duty_plain rfl fun vs a w4 hO hI0 hC0 hD K hK => ?_
      obtain ⟨⟨b, hH⟩, hO1⟩ := (show (∃ b, Head p w 1 205 b w4) ∧ w4.ownsRow B 5 1 u m xs from hC0)
      have cf : w4.cell? ⟨w.heap.size, 14, none⟩ = some (.slice s.A (s.l.length : Nat) s.c) := (hH.pk.cell 14).trans hs
      have d4 : w4.cell? ⟨w.heap.size + 1 + 1, 0, none⟩ = some (.bool b) := hH.ok.cell 0
      have f4 : w4.frozen? ⟨w.heap.size + 1 + 1, 0, none⟩ = false := hH.ok.frozen 0
      have hz0 : w.heap.size < w4.heap.size := by have := hH.lt; omega
      have hz1 : w.heap.size + 1 + 1 < w4.heap.size := by have := hH.lt; omega
      clear hs
      have e1 : a.tmps[1]? = some (.pointer (some ⟨w.heap.size, 0, none⟩)) := (hO 1 (by kernel_rfl)).trans (hE.get 1 rfl)
      clear hD hO hI0
      go_simp
      exact hK _ _ hC0 rfl rfl
    · refine duty_plain rfl fun vs a w4 hO hI0 hC0 hD K hK => ?_
      obtain ⟨⟨b, hH⟩, hO1⟩ := (show (∃ b, Head p w 1 205 b w4) ∧ w4.ownsRow B 5 1 u m xs from hC0)
      have cf : w4.cell? ⟨w.heap.size, 14, none⟩ = some (.slice s.A (s.l.length : Nat) s.c) := (hH.pk.cell 14).trans hs
      have d4 : w4.cell? ⟨w.heap.size + 1 + 1, 0, none⟩ = some (.bool b) := hH.ok.cell 0
      have f4 : w4.frozen? ⟨w.heap.size + 1 + 1, 0, none⟩ = false := hH.ok.frozen 0
      have hz0 : w.heap.size < w4.heap.size := by have := hH.lt; omega
      have hz1 : w.heap.size + 1 + 1 < w4.heap.size := by have := hH.lt; omega
      clear hs
      have s250 : a.tmps[250]? = some (vs 1) := (hD.1 rfl).1
      have r1 : vs 1 = .pointer (some ⟨w.heap.size, 14, none⟩) := (hD.1 rfl).2
      rw [r1] at s250
      clear r1
      clear hD hO hI0
      go_simp
      exact hK _ _ hC0 rfl rfl
    · refine duty_plain rfl fun vs a w4 hO hI0 hC0 hD K hK => ?_
      obtain ⟨⟨b, hH⟩, hO1⟩ := (show (∃ b, Head p w 1 205 b w4) ∧ w4.ownsRow B 5 1 u m xs from hC0)
      have cf : w4.cell? ⟨w.heap.size, 14, none⟩ = some (.slice s.A (s.l.length : Nat) s.c) := (hH.pk.cell 14).trans hs
      have d4 : w4.cell? ⟨w.heap.size + 1 + 1, 0, none⟩ = some (.bool b) := hH.ok.cell 0
      have f4 : w4.frozen? ⟨w.heap.size + 1 + 1, 0, none⟩ = false := hH.ok.frozen 0
      have hz0 : w.heap.size < w4.heap.size := by have := hH.lt; omega
      have hz1 : w.heap.size + 1 + 1 < w4.heap.size := by have := hH.lt; omega
      clear hs
      have s251 : a.tmps[251]? = some (vs 2) := (hD.1 rfl).1
      have r2 : vs 2 = .slice s.A (s.l.length : Nat) s.c := (hD.1 rfl).2
      rw [r2] at s251
      clear r2
      clear hD hO hI0
      go_simp
      exact hK _ _ hC0 rfl rfl
    · refine duty_plain rfl fun vs a w4 hO hI0 hC0 hD K hK => ?_
      obtain ⟨⟨b, hH⟩, hO1⟩ := (show (∃ b, Head p w 1 205 b w4) ∧ w4.ownsRow B 5 1 u m xs from hC0)
      have cf : w4.cell? ⟨w.heap.size, 14, none⟩ = some (.slice s.A (s.l.length : Nat) s.c) := (hH.pk.cell 14).trans hs
      have d4 : w4.cell? ⟨w.heap.size + 1 + 1, 0, none⟩ = some (.bool b) := hH.ok.cell 0
      have f4 : w4.frozen? ⟨w.heap.size + 1 + 1, 0, none⟩ = false := hH.ok.frozen 0
      have hz0 : w.heap.size < w4.heap.size := by have := hH.lt; omega
      have hz1 : w.heap.size + 1 + 1 < w4.heap.size := by have := hH.lt; omega
      clear hs
      have s252 : a.tmps[252]? = some (vs 3) := (hD.1 rfl).1
      have r3 : vs 3 = .int .i64 (s.l.length : Nat) := (hD.1 rfl).2
      rw [r3] at s252
      clear r3
      clear hD hO hI0
      go_simp
      exact hK _ _ hC0 rfl rfl
    · refine duty_plain rfl fun vs a w4 hO hI0 hC0 hD K hK => ?_
      obtain ⟨⟨b, hH⟩, hO1⟩ := (show (∃ b, Head p w 1 205 b w4) ∧ w4.ownsRow B 5 1 u m xs from hC0)
      have cf : w4.cell? ⟨w.heap.size, 14, none⟩ = some (.slice s.A (s.l.length : Nat) s.c) := (hH.pk.cell 14).trans hs
      have d4 : w4.cell? ⟨w.heap.size + 1 + 1, 0, none⟩ = some (.bool b) := hH.ok.cell 0
      have f4 : w4.frozen? ⟨w.heap.size + 1 + 1, 0, none⟩ = false := hH.ok.frozen 0
      have hz0 : w.heap.size < w4.heap.size := by have := hH.lt; omega
      have hz1 : w.heap.size + 1 + 1 < w4.heap.size := by have := hH.lt; omega
      clear hs
      have s253 : a.tmps[253]? = some (vs 4) := (hD.1 rfl).1
      have r4 : vs 4 = .bool true := (hD.1 rfl).2
      rw [r4] at s253
      clear r4
      clear hD hO hI0
      go_simp
      exact hK _ _ hC0 rfl rfl
    · refine duty_guarded 5 true 254 rfl rfl fun vs a w4 hO hI0 hC0 hD => ?_
      obtain ⟨⟨b, hH⟩, hO1⟩ := (show (∃ b, Head p w 1 205 b w4) ∧ w4.ownsRow B 5 1 u m xs from hC0)
      have cf : w4.cell? ⟨w.heap.size, 14, none⟩ = some (.slice s.A (s.l.length : Nat) s.c) := (hH.pk.cell 14).trans hs
      have d4 : w4.cell? ⟨w.heap.size + 1 + 1, 0, none⟩ = some (.bool b) := hH.ok.cell 0
      have f4 : w4.frozen? ⟨w.heap.size + 1 + 1, 0, none⟩ = false := hH.ok.frozen 0
      have hz0 : w.heap.size < w4.heap.size := by have := hH.lt; omega
      have hz1 : w.heap.size + 1 + 1 < w4.heap.size := by have := hH.lt; omega
      clear hs
      have s254 : a.tmps[254]? = some (vs 5) := (hD.1 rfl).1
      have r5 : vs 5 = .bool true := (hD.1 rfl).2
      rw [r5] at s254
      clear r5
      have e1 : a.tmps[1]? = some (.pointer (some ⟨w.heap.size, 0, none⟩)) := (hO 1 (by kernel_rfl)).trans (hE.get 1 rfl)
      clear hD hO hI0
      refine ⟨_, s254, fun K hK => ?_⟩
      rw [if_pos rfl]
      go_simp
      exact hK _ _ hC0 rfl rfl
    · refine duty_guarded 5 true 254 rfl rfl fun vs a w4 hO hI0 hC0 hD => ?_
      obtain ⟨⟨b, hH⟩, hO1⟩ := (show (∃ b, Head p w 1 205 b w4) ∧ w4.ownsRow B 5 1 u m xs from hC0)
      have cf : w4.cell? ⟨w.heap.size, 14, none⟩ = some (.slice s.A (s.l.length : Nat) s.c) := (hH.pk.cell 14).trans hs
      have d4 : w4.cell? ⟨w.heap.size + 1 + 1, 0, none⟩ = some (.bool b) := hH.ok.cell 0
      have f4 : w4.frozen? ⟨w.heap.size + 1 + 1, 0, none⟩ = false := hH.ok.frozen 0
      have hz0 : w.heap.size < w4.heap.size := by have := hH.lt; omega
      have hz1 : w.heap.size + 1 + 1 < w4.heap.size := by have := hH.lt; omega
      clear hs
      have s255 : a.tmps[255]? = some (vs 6) := (hD.1 rfl).1
      have r6 : vs 6 = .pointer (some ⟨w.heap.size, 14, none⟩) := (hD.1 rfl).2
      rw [r6] at s255
      clear r6
      have s254 : a.tmps[254]? = some (vs 5) := (hD.2.1 rfl).1
      have r5 : vs 5 = .bool true := (hD.2.1 rfl).2
      rw [r5] at s254
      clear r5
      clear hD hO hI0
      refine ⟨_, s254, fun K hK => ?_⟩
      rw [if_pos rfl]
      go_simp
      exact hK _ _ hC0 rfl rfl
    · refine duty_guarded 5 true 254 rfl rfl fun vs a w4 hO hI0 hC0 hD => ?_
      obtain ⟨⟨b, hH⟩, hO1⟩ := (show (∃ b, Head p w 1 205 b w4) ∧ w4.ownsRow B 5 1 u m xs from hC0)
      have cf : w4.cell? ⟨w.heap.size, 14, none⟩ = some (.slice s.A (s.l.length : Nat) s.c) := (hH.pk.cell 14).trans hs
      have d4 : w4.cell? ⟨w.heap.size + 1 + 1, 0, none⟩ = some (.bool b) := hH.ok.cell 0
      have f4 : w4.frozen? ⟨w.heap.size + 1 + 1, 0, none⟩ = false := hH.ok.frozen 0
      have hz0 : w.heap.size < w4.heap.size := by have := hH.lt; omega
      have hz1 : w.heap.size + 1 + 1 < w4.heap.size := by have := hH.lt; omega
      clear hs
      have s256 : a.tmps[256]? = some (vs 7) := (hD.1 rfl).1
      have r7 : vs 7 = .slice s.A (s.l.length : Nat) s.c := (hD.1 rfl).2
      rw [r7] at s256
      clear r7
      have s254 : a.tmps[254]? = some (vs 5) := (hD.2.1 rfl).1
      have r5 : vs 5 = .bool true := (hD.2.1 rfl).2
      rw [r5] at s254
      clear r5
      clear hD hO hI0
      refine ⟨_, s254, fun K hK => ?_⟩
      rw [if_pos rfl]
      go_simp
      exact hK _ _ hC0 rfl rfl
    · refine duty_guarded 5 true 254 rfl rfl fun vs a w4 hO hI0 hC0 hD => ?_
      obtain ⟨⟨b, hH⟩, hO1⟩ := (show (∃ b, Head p w 1 205 b w4) ∧ w4.ownsRow B 5 1 u m xs from hC0)
      have cf : w4.cell? ⟨w.heap.size, 14, none⟩ = some (.slice s.A (s.l.length : Nat) s.c) := (hH.pk.cell 14).trans hs
      have d4 : w4.cell? ⟨w.heap.size + 1 + 1, 0, none⟩ = some (.bool b) := hH.ok.cell 0
      have f4 : w4.frozen? ⟨w.heap.size + 1 + 1, 0, none⟩ = false := hH.ok.frozen 0
      have hz0 : w.heap.size < w4.heap.size := by have := hH.lt; omega
      have hz1 : w.heap.size + 1 + 1 < w4.heap.size := by have := hH.lt; omega
      clear hs
      have s257 : a.tmps[257]? = some (vs 8) := (hD.1 rfl).1
      have r8 : vs 8 = .int .i64 (s.l.length : Nat) := (hD.1 rfl).2
      rw [r8] at s257
      clear r8
      have s254 : a.tmps[254]? = some (vs 5) := (hD.2.1 rfl).1
      have r5 : vs 5 = .bool true := (hD.2.1 rfl).2
      rw [r5] at s254
      clear r5
      clear hD hO hI0
      refine ⟨_, s254, fun K hK => ?_⟩
      rw [if_pos rfl]
      go_simp
      exact hK _ _ hC0 rfl rfl
    · refine duty_plain rfl fun vs a w4 hO hI0 hC0 hD K hK => ?_
      obtain ⟨⟨b, hH⟩, hO1⟩ := (show (∃ b, Head p w 1 205 b w4) ∧ w4.ownsRow B 5 1 u m xs from hC0)
      have cf : w4.cell? ⟨w.heap.size, 14, none⟩ = some (.slice s.A (s.l.length : Nat) s.c) := (hH.pk.cell 14).trans hs
      have d4 : w4.cell? ⟨w.heap.size + 1 + 1, 0, none⟩ = some (.bool b) := hH.ok.cell 0
      have f4 : w4.frozen? ⟨w.heap.size + 1 + 1, 0, none⟩ = false := hH.ok.frozen 0
      have hz0 : w.heap.size < w4.heap.size := by have := hH.lt; omega
      have hz1 : w.heap.size + 1 + 1 < w4.heap.size := by have := hH.lt; omega
      clear hs
      have s254 : a.tmps[254]? = some (vs 5) := (hD.1 rfl).1
      have r5 : vs 5 = .bool true := (hD.1 rfl).2
      rw [r5] at s254
      clear r5
      have s258 : a.tmps[258]? = some (vs 9) := (hD.2.1 rfl).1
      have r9 : vs 9 = .bool (decide (((s.l.length : Nat) : Int) ≤ 253)) := (hD.2.1 rfl).2
      rw [r9] at s258
      clear r9
      clear hD hO hI0
      go_simp
      exact hK _ _ hC0 rfl rfl
    · refine duty_plain rfl fun vs a w4 hO hI0 hC0 hD K hK => ?_
      obtain ⟨⟨b, hH⟩, hO1⟩ := (show (∃ b, Head p w 1 205 b w4) ∧ w4.ownsRow B 5 1 u m xs from hC0)
      have cf : w4.cell? ⟨w.heap.size, 14, none⟩ = some (.slice s.A (s.l.length : Nat) s.c) := (hH.pk.cell 14).trans hs
      have d4 : w4.cell? ⟨w.heap.size + 1 + 1, 0, none⟩ = some (.bool b) := hH.ok.cell 0
      have f4 : w4.frozen? ⟨w.heap.size + 1 + 1, 0, none⟩ = false := hH.ok.frozen 0
      have hz0 : w.heap.size < w4.heap.size := by have := hH.lt; omega
      have hz1 : w.heap.size + 1 + 1 < w4.heap.size := by have := hH.lt; omega
      clear hs
      have s249 : a.tmps[249]? = some (vs 0) := (hD.1 rfl).1
      have r0 : vs 0 = u := (hD.1 rfl).2
      rw [r0] at s249
      clear r0
      clear hD hO hI0
      go_simp
      exact hK _ _ hC0 rfl rfl
    · refine duty_plain rfl fun vs a w4 hO hI0 hC0 hD K hK => ?_
      obtain ⟨⟨b, hH⟩, hO1⟩ := (show (∃ b, Head p w 1 205 b w4) ∧ w4.ownsRow B 5 1 u m xs from hC0)
      have cf : w4.cell? ⟨w.heap.size, 14, none⟩ = some (.slice s.A (s.l.length : Nat) s.c) := (hH.pk.cell 14).trans hs
      have d4 : w4.cell? ⟨w.heap.size + 1 + 1, 0, none⟩ = some (.bool b) := hH.ok.cell 0
      have f4 : w4.frozen? ⟨w.heap.size + 1 + 1, 0, none⟩ = false := hH.ok.frozen 0
      have hz0 : w.heap.size < w4.heap.size := by have := hH.lt; omega
      have hz1 : w.heap.size + 1 + 1 < w4.heap.size := by have := hH.lt; omega
      clear hs
      have s259 : a.tmps[259]? = some (vs 10) := (hD.1 rfl).1
      have r10 : vs 10 = .bool (decide (((s.l.length : Nat) : Int) ≤ 253)) := (hD.1 rfl).2
      rw [r10] at s259
      clear r10
      have e4 : a.tmps[4]? = some (.pointer (some ⟨w.heap.size + 1 + 1, 0, none⟩)) := (hO 4 (by kernel_rfl)).trans (hE.get 4 rfl)
      clear hD hO hI0
      go_simp
      exact hK undef _ ⟨⟨_, hH.setOk _⟩, own_setCell hO1 (fun e => by have := hne _ e; simp at this) _⟩ (hH.setOk _) trivial
  case hEnd =>
    intro vs a' w' hC hM hR2
    have r3 : vs 11 = u := hR2 11 (by decide) (by simp)
    exact hQ a' w' (Env.mk' (hM.size.trans hE.size) (hM.defers.trans hE.defers) ⟨(hM.old 1 (by kernel_rfl)).trans (hE.get 1 rfl), (hM.old 2 (by kernel_rfl)).trans (hE.get 2 rfl), (hM.slot 11 3 (by kernel_rfl)).trans (congrArg some r3), (hM.old 4 (by kernel_rfl)).trans (hE.get 4 rfl), trivial⟩) (hR2 12 (by decide) (by simp)) hC.2

set_option maxHeartbeats 1000000 in
set_option maxRecDepth 100000 in
theorem formR48_f {α : Type} (p : Pkt) (s : Sl α) (w w3 : World) (a : Act) (B m : Nat) (u : Value) (xs : List Value) (b : Bool) (hs : p.cells[14]? = some (.slice s.A (s.l.length : Nat) s.c)) (hG : ¬ 0 < s.l.length)
    (hE : Env 490 [(1, .pointer (some ⟨w.heap.size, 0, none⟩)), (2, .pointer (some ⟨w.heap.size + 1, 0, none⟩)), (4, .pointer (some ⟨w.heap.size + 1 + 1, 0, none⟩)), (6, u)] a) (hH : Head p w 1 205 b w3) (hown : w3.ownsRow B 5 1 u m xs) (hB : w.heap.size + 3 ≤ B) (Q : Exit → Act → World → Prop)
    (hQ : ∀ a' w', Env 490 [(1, .pointer (some ⟨w.heap.size, 0, none⟩)), (2, .pointer (some ⟨w.heap.size + 1, 0, none⟩)), (3, u), (4, .pointer (some ⟨w.heap.size + 1 + 1, 0, none⟩))] a' → Head p w 1 205 (false) w' → w'.ownsRow B 5 1 u m xs → Q .normal a' w') :
    (formR 48).wp Tryz.prog Q a w3 := by
  have hne : ∀ k, u.ownBlock = some k → w.heap.size + 1 + 1 < k := fun k hk => by have := (hown.lt k hk).1; omega
  conv => arg 2; whnf
  refine wp_region_mid (n := 490) [] (by kernel_rfl) (by kernel_rfl) (by kernel_rfl) (by kernel_rfl) hE.size
    [] (fun w' => True)
    (fun w' => (∃ b, Head p w 1 205 b w') ∧ w'.ownsRow B 5 1 u m xs)
    (fun i v w' => match i with
      | 0 => v = u
      | 1 => v = .pointer (some ⟨w.heap.size, 14, none⟩)
      | 2 => v = .slice s.A (s.l.length : Nat) s.c
      | 3 => v = .int .i64 (s.l.length : Nat)
      | 4 => v = .bool false
      | 5 => v = .bool false
      | 6 => v = undef
      | 7 => v = undef
      | 8 => v = undef
      | 9 => v = undef
      | 10 => v = .bool false
      | 11 => v = u
      | 12 => Head p w 1 205 (false) w'
      | _ => True)
    (fun i w1 w2 => match i with
      | 12 => True
      | _ => w2 = w1)
    (trivial) ?hC0 ?hKeep ?hKeepI ?hDuty ?hEnd
  case hC0 => exact ⟨⟨_, hH.drew⟩, own_drew hown⟩
  case hKeep =>
    intro i k v w1 w2 hne hnd hw hC0 hT hR
    match i, hT with
    | 12, hT =>
      match k, hR with
      | 12, _ => exact absurd rfl hne
      | 0, hR | 1, hR | 2, hR | 3, hR | 4, hR | 5, hR | 6, hR | 7, hR | 8, hR | 9, hR | 10, hR | 11, hR => exact hR
      | _ + 13, _ => trivial
    | 0, hT | 1, hT | 2, hT | 3, hT | 4, hT | 5, hT | 6, hT | 7, hT | 8, hT | 9, hT | 10, hT | 11, hT => subst hT; exact hR
    | _ + 13, hT => subst hT; exact hR
  case hKeepI =>
    exact fun _ _ _ _ _ _ h => h
  case hDuty =>
    refine ⟨?_, ?_, ?_, ?_, ?_, ?_, ?_, ?_, ?_, ?_, ?_, ?_, ?_, trivial⟩
    · refine duty_plain rfl fun vs a w4 hO hI0 hC0 hD K hK => ?_
      obtain ⟨⟨b, hH⟩, hO1⟩ := (show (∃ b, Head p w 1 205 b w4) ∧ w4.ownsRow B 5 1 u m xs from hC0)
      have cf : w4.cell? ⟨w.heap.size, 14, none⟩ = some (.slice s.A (s.l.length : Nat) s.c) := (hH.pk.cell 14).trans hs
      have d4 : w4.cell? ⟨w.heap.size + 1 + 1, 0, none⟩ = some (.bool b) := hH.ok.cell 0
      have f4 : w4.frozen? ⟨w.heap.size + 1 + 1, 0, none⟩ = false := hH.ok.frozen 0
      have hz0 : w.heap.size < w4.heap.size := by have := hH.lt; omega
      have hz1 : w.heap.size + 1 + 1 < w4.heap.size := by have := hH.lt; omega
      clear hs
      have e6 : a.tmps[6]? = some (u) := (hO 6 (by kernel_rfl)).trans (hE.get 6 rfl)
      clear hD hO hI0
      go_simp
      exact hK _ _ hC0 rfl rfl
    · refine duty_plain rfl fun vs a w4 hO hI0 hC0 hD K hK => ?_
      obtain ⟨⟨b, hH⟩, hO1⟩ := (show (∃ b, Head p w 1 205 b w4) ∧ w4.ownsRow B 5 1 u m xs from hC0)
      have cf : w4.cell? ⟨w.heap.size, 14, none⟩ = some (.slice s.A (s.l.length : Nat) s.c) := (hH.pk.cell 14).trans hs
      have d4 : w4.cell? ⟨w.heap.size + 1 + 1, 0, none⟩ = some (.bool b) := hH.ok.cell 0
      have f4 : w4.frozen? ⟨w.heap.size + 1 + 1, 0, none⟩ = false := hH.ok.frozen 0
      have hz0 : w.heap.size < w4.heap.size := by have := hH.lt; omega
      have hz1 : w.heap.size + 1 + 1 < w4.heap.size := by have := hH.lt; omega
      clear hs
      have e1 : a.tmps[1]? = some (.pointer (some ⟨w.heap.size, 0, none⟩)) := (hO 1 (by kernel_rfl)).trans (hE.get 1 rfl)
      clear hD hO hI0
      go_simp
      exact hK _ _ hC0 rfl rfl
    · refine duty_plain rfl fun vs a w4 hO hI0 hC0 hD K hK => ?_
      obtain ⟨⟨b, hH⟩, hO1⟩ := (show (∃ b, Head p w 1 205 b w4) ∧ w4.ownsRow B 5 1 u m xs from hC0)
      have cf : w4.cell? ⟨w.heap.size, 14, none⟩ = some (.slice s.A (s.l.length : Nat) s.c) := (hH.pk.cell 14).trans hs
      have d4 : w4.cell? ⟨w.heap.size + 1 + 1, 0, none⟩ = some (.bool b) := hH.ok.cell 0
      have f4 : w4.frozen? ⟨w.heap.size + 1 + 1, 0, none⟩ = false := hH.ok.frozen 0
      have hz0 : w.heap.size < w4.heap.size := by have := hH.lt; omega
      have hz1 : w.heap.size + 1 + 1 < w4.heap.size := by have := hH.lt; omega
      clear hs
      have s250 : a.tmps[250]? = some (vs 1) := (hD.1 rfl).1
      have r1 : vs 1 = .pointer (some ⟨w.heap.size, 14, none⟩) := (hD.1 rfl).2
      rw [r1] at s250
      clear r1
      clear hD hO hI0
      go_simp
      exact hK _ _ hC0 rfl rfl
    · refine duty_plain rfl fun vs a w4 hO hI0 hC0 hD K hK => ?_
      obtain ⟨⟨b, hH⟩, hO1⟩ := (show (∃ b, Head p w 1 205 b w4) ∧ w4.ownsRow B 5 1 u m xs from hC0)
      have cf : w4.cell? ⟨w.heap.size, 14, none⟩ = some (.slice s.A (s.l.length : Nat) s.c) := (hH.pk.cell 14).trans hs
      have d4 : w4.cell? ⟨w.heap.size + 1 + 1, 0, none⟩ = some (.bool b) := hH.ok.cell 0
      have f4 : w4.frozen? ⟨w.heap.size + 1 + 1, 0, none⟩ = false := hH.ok.frozen 0
      have hz0 : w.heap.size < w4.heap.size := by have := hH.lt; omega
      have hz1 : w.heap.size + 1 + 1 < w4.heap.size := by have := hH.lt; omega
      clear hs
      have s251 : a.tmps[251]? = some (vs 2) := (hD.1 rfl).1
      have r2 : vs 2 = .slice s.A (s.l.length : Nat) s.c := (hD.1 rfl).2
      rw [r2] at s251
      clear r2
      clear hD hO hI0
      go_simp
      exact hK _ _ hC0 rfl rfl
    · refine duty_plain rfl fun vs a w4 hO hI0 hC0 hD K hK => ?_
      obtain ⟨⟨b, hH⟩, hO1⟩ := (show (∃ b, Head p w 1 205 b w4) ∧ w4.ownsRow B 5 1 u m xs from hC0)
      have cf : w4.cell? ⟨w.heap.size, 14, none⟩ = some (.slice s.A (s.l.length : Nat) s.c) := (hH.pk.cell 14).trans hs
      have d4 : w4.cell? ⟨w.heap.size + 1 + 1, 0, none⟩ = some (.bool b) := hH.ok.cell 0
      have f4 : w4.frozen? ⟨w.heap.size + 1 + 1, 0, none⟩ = false := hH.ok.frozen 0
      have hz0 : w.heap.size < w4.heap.size := by have := hH.lt; omega
      have hz1 : w.heap.size + 1 + 1 < w4.heap.size := by have := hH.lt; omega
      clear hs
      have s252 : a.tmps[252]? = some (vs 3) := (hD.1 rfl).1
      have r3 : vs 3 = .int .i64 (s.l.length : Nat) := (hD.1 rfl).2
      rw [r3] at s252
      clear r3
      clear hD hO hI0
      go_simp
      exact hK _ _ hC0 rfl rfl
    · refine duty_plain rfl fun vs a w4 hO hI0 hC0 hD K hK => ?_
      obtain ⟨⟨b, hH⟩, hO1⟩ := (show (∃ b, Head p w 1 205 b w4) ∧ w4.ownsRow B 5 1 u m xs from hC0)
      have cf : w4.cell? ⟨w.heap.size, 14, none⟩ = some (.slice s.A (s.l.length : Nat) s.c) := (hH.pk.cell 14).trans hs
      have d4 : w4.cell? ⟨w.heap.size + 1 + 1, 0, none⟩ = some (.bool b) := hH.ok.cell 0
      have f4 : w4.frozen? ⟨w.heap.size + 1 + 1, 0, none⟩ = false := hH.ok.frozen 0
      have hz0 : w.heap.size < w4.heap.size := by have := hH.lt; omega
      have hz1 : w.heap.size + 1 + 1 < w4.heap.size := by have := hH.lt; omega
      clear hs
      have s253 : a.tmps[253]? = some (vs 4) := (hD.1 rfl).1
      have r4 : vs 4 = .bool false := (hD.1 rfl).2
      rw [r4] at s253
      clear r4
      clear hD hO hI0
      go_simp
      exact hK _ _ hC0 rfl rfl
    · refine duty_guarded 5 true 254 rfl rfl fun vs a w4 hO hI0 hC0 hD => ?_
      obtain ⟨⟨b, hH⟩, hO1⟩ := (show (∃ b, Head p w 1 205 b w4) ∧ w4.ownsRow B 5 1 u m xs from hC0)
      have cf : w4.cell? ⟨w.heap.size, 14, none⟩ = some (.slice s.A (s.l.length : Nat) s.c) := (hH.pk.cell 14).trans hs
      have d4 : w4.cell? ⟨w.heap.size + 1 + 1, 0, none⟩ = some (.bool b) := hH.ok.cell 0
      have f4 : w4.frozen? ⟨w.heap.size + 1 + 1, 0, none⟩ = false := hH.ok.frozen 0
      have hz0 : w.heap.size < w4.heap.size := by have := hH.lt; omega
      have hz1 : w.heap.size + 1 + 1 < w4.heap.size := by have := hH.lt; omega
      clear hs
      have s254 : a.tmps[254]? = some (vs 5) := (hD.1 rfl).1
      have r5 : vs 5 = .bool false := (hD.1 rfl).2
      rw [r5] at s254
      clear r5
      clear hD hO hI0
      refine ⟨_, s254, fun K hK => ?_⟩
      rw [if_neg (by decide)]
      exact hK undef _ hC0 rfl rfl
    · refine duty_guarded 5 true 254 rfl rfl fun vs a w4 hO hI0 hC0 hD => ?_
      obtain ⟨⟨b, hH⟩, hO1⟩ := (show (∃ b, Head p w 1 205 b w4) ∧ w4.ownsRow B 5 1 u m xs from hC0)
      have cf : w4.cell? ⟨w.heap.size, 14, none⟩ = some (.slice s.A (s.l.length : Nat) s.c) := (hH.pk.cell 14).trans hs
      have d4 : w4.cell? ⟨w.heap.size + 1 + 1, 0, none⟩ = some (.bool b) := hH.ok.cell 0
      have f4 : w4.frozen? ⟨w.heap.size + 1 + 1, 0, none⟩ = false := hH.ok.frozen 0
      have hz0 : w.heap.size < w4.heap.size := by have := hH.lt; omega
      have hz1 : w.heap.size + 1 + 1 < w4.heap.size := by have := hH.lt; omega
      clear hs
      have s254 : a.tmps[254]? = some (vs 5) := (hD.2.1 rfl).1
      have r5 : vs 5 = .bool false := (hD.2.1 rfl).2
      rw [r5] at s254
      clear r5
      clear hD hO hI0
      refine ⟨_, s254, fun K hK => ?_⟩
      rw [if_neg (by decide)]
      exact hK undef _ hC0 rfl rfl
    · refine duty_guarded 5 true 254 rfl rfl fun vs a w4 hO hI0 hC0 hD => ?_
      obtain ⟨⟨b, hH⟩, hO1⟩ := (show (∃ b, Head p w 1 205 b w4) ∧ w4.ownsRow B 5 1 u m xs from hC0)
      have cf : w4.cell? ⟨w.heap.size, 14, none⟩ = some (.slice s.A (s.l.length : Nat) s.c) := (hH.pk.cell 14).trans hs
      have d4 : w4.cell? ⟨w.heap.size + 1 + 1, 0, none⟩ = some (.bool b) := hH.ok.cell 0
      have f4 : w4.frozen? ⟨w.heap.size + 1 + 1, 0, none⟩ = false := hH.ok.frozen 0
      have hz0 : w.heap.size < w4.heap.size := by have := hH.lt; omega
      have hz1 : w.heap.size + 1 + 1 < w4.heap.size := by have := hH.lt; omega
      clear hs
      have s254 : a.tmps[254]? = some (vs 5) := (hD.2.1 rfl).1
      have r5 : vs 5 = .bool false := (hD.2.1 rfl).2
      rw [r5] at s254
      clear r5
      clear hD hO hI0
      refine ⟨_, s254, fun K hK => ?_⟩
      rw [if_neg (by decide)]
      exact hK undef _ hC0 rfl rfl
    · refine duty_guarded 5 true 254 rfl rfl fun vs a w4 hO hI0 hC0 hD => ?_
      obtain ⟨⟨b, hH⟩, hO1⟩ := (show (∃ b, Head p w 1 205 b w4) ∧ w4.ownsRow B 5 1 u m xs from hC0)
      have cf : w4.cell? ⟨w.heap.size, 14, none⟩ = some (.slice s.A (s.l.length : Nat) s.c) := (hH.pk.cell 14).trans hs
      have d4 : w4.cell? ⟨w.heap.size + 1 + 1, 0, none⟩ = some (.bool b) := hH.ok.cell 0
      have f4 : w4.frozen? ⟨w.heap.size + 1 + 1, 0, none⟩ = false := hH.ok.frozen 0
      have hz0 : w.heap.size < w4.heap.size := by have := hH.lt; omega
      have hz1 : w.heap.size + 1 + 1 < w4.heap.size := by have := hH.lt; omega
      clear hs
      have s254 : a.tmps[254]? = some (vs 5) := (hD.2.1 rfl).1
      have r5 : vs 5 = .bool false := (hD.2.1 rfl).2
      rw [r5] at s254
      clear r5
      clear hD hO hI0
      refine ⟨_, s254, fun K hK => ?_⟩
      rw [if_neg (by decide)]
      exact hK undef _ hC0 rfl rfl
    · refine duty_plain rfl fun vs a w4 hO hI0 hC0 hD K hK => ?_
      obtain ⟨⟨b, hH⟩, hO1⟩ := (show (∃ b, Head p w 1 205 b w4) ∧ w4.ownsRow B 5 1 u m xs from hC0)
      have cf : w4.cell? ⟨w.heap.size, 14, none⟩ = some (.slice s.A (s.l.length : Nat) s.c) := (hH.pk.cell 14).trans hs
      have d4 : w4.cell? ⟨w.heap.size + 1 + 1, 0, none⟩ = some (.bool b) := hH.ok.cell 0
      have f4 : w4.frozen? ⟨w.heap.size + 1 + 1, 0, none⟩ = false := hH.ok.frozen 0
      have hz0 : w.heap.size < w4.heap.size := by have := hH.lt; omega
      have hz1 : w.heap.size + 1 + 1 < w4.heap.size := by have := hH.lt; omega
      clear hs
      have s254 : a.tmps[254]? = some (vs 5) := (hD.1 rfl).1
      have r5 : vs 5 = .bool false := (hD.1 rfl).2
      rw [r5] at s254
      clear r5
      have s258 : a.tmps[258]? = some (vs 9) := (hD.2.1 rfl).1
      have r9 : vs 9 = undef := (hD.2.1 rfl).2
      rw [r9] at s258
      clear r9
      clear hD hO hI0
      go_simp
      exact hK _ _ hC0 rfl rfl
    · refine duty_plain rfl fun vs a w4 hO hI0 hC0 hD K hK => ?_
      obtain ⟨⟨b, hH⟩, hO1⟩ := (show (∃ b, Head p w 1 205 b w4) ∧ w4.ownsRow B 5 1 u m xs from hC0)
      have cf : w4.cell? ⟨w.heap.size, 14, none⟩ = some (.slice s.A (s.l.length : Nat) s.c) := (hH.pk.cell 14).trans hs
      have d4 : w4.cell? ⟨w.heap.size + 1 + 1, 0, none⟩ = some (.bool b) := hH.ok.cell 0
      have f4 : w4.frozen? ⟨w.heap.size + 1 + 1, 0, none⟩ = false := hH.ok.frozen 0
      have hz0 : w.heap.size < w4.heap.size := by have := hH.lt; omega
      have hz1 : w.heap.size + 1 + 1 < w4.heap.size := by have := hH.lt; omega
      clear hs
      have s249 : a.tmps[249]? = some (vs 0) := (hD.1 rfl).1
      have r0 : vs 0 = u := (hD.1 rfl).2
      rw [r0] at s249
      clear r0
      clear hD hO hI0
      go_simp
      exact hK _ _ hC0 rfl rfl
    · refine duty_plain rfl fun vs a w4 hO hI0 hC0 hD K hK => ?_
      obtain ⟨⟨b, hH⟩, hO1⟩ := (show (∃ b, Head p w 1 205 b w4) ∧ w4.ownsRow B 5 1 u m xs from hC0)
      have cf : w4.cell? ⟨w.heap.size, 14, none⟩ = some (.slice s.A (s.l.length : Nat) s.c) := (hH.pk.cell 14).trans hs
      have d4 : w4.cell? ⟨w.heap.size + 1 + 1, 0, none⟩ = some (.bool b) := hH.ok.cell 0
      have f4 : w4.frozen? ⟨w.heap.size + 1 + 1, 0, none⟩ = false := hH.ok.frozen 0
      have hz0 : w.heap.size < w4.heap.size := by have := hH.lt; omega
      have hz1 : w.heap.size + 1 + 1 < w4.heap.size := by have := hH.lt; omega
      clear hs
      have s259 : a.tmps[259]? = some (vs 10) := (hD.1 rfl).1
      have r10 : vs 10 = .bool false := (hD.1 rfl).2
      rw [r10] at s259
      clear r10
      have e4 : a.tmps[4]? = some (.pointer (some ⟨w.heap.size + 1 + 1, 0, none⟩)) := (hO 4 (by kernel_rfl)).trans (hE.get 4 rfl)
      clear hD hO hI0
      go_simp
      exact hK undef _ ⟨⟨_, hH.setOk _⟩, own_setCell hO1 (fun e => by have := hne _ e; simp at this) _⟩ (hH.setOk _) trivial
  case hEnd =>
    intro vs a' w' hC hM hR2
    have r3 : vs 11 = u := hR2 11 (by decide) (by simp)
    exact hQ a' w' (Env.mk' (hM.size.trans hE.size) (hM.defers.trans hE.defers) ⟨(hM.old 1 (by kernel_rfl)).trans (hE.get 1 rfl), (hM.old 2 (by kernel_rfl)).trans (hE.get 2 rfl), (hM.slot 11 3 (by kernel_rfl)).trans (congrArg some r3), (hM.old 4 (by kernel_rfl)).trans (hE.get 4 rfl), trivial⟩) (hR2 12 (by decide) (by simp)) hC.2

set_option maxHeartbeats 1000000 in
set_option maxRecDepth 100000 in
theorem formR52 (p : Pkt) (w w3 : World) (a : Act) (x g m cap : Nat) (bs : List Int) (y z c t : Int) (b : Bool) (hy0 : 0 ≤ y) (hy1 : y < 65536) (hw0 : 0 ≤ z) (hw1 : z < 65536) (hm : m ≤ 70368744177000) (hgx : g ≠ x)
    {A : Option Addr} {len c1 k : Nat} (hE : Env 490 [(1, .pointer (some ⟨w.heap.size, 0, none⟩)), (2, .pointer (some ⟨w.heap.size + 1, 0, none⟩)), (3, .slice (some ⟨g, 0, none⟩) m cap), (4, .pointer (some ⟨w.heap.size + 1 + 1, 0, none⟩)), (18, .pointer (some ⟨x, 0, none⟩)), (261, .slice A len c1), (262, .int .i64 (len : Nat)), (263, .int .i64 (k : Nat))] a) (hH : Head p w c t b w3) (hx : Blk w3 x 97 #[.int .u16 y, .int .u16 z]) (hown : w3.ownsRow (w.heap.size + 3) 5 1 (.slice (some ⟨g, 0, none⟩) m cap) m (u8s bs)) (hxw : x < w3.heap.size) (Q : Exit → Act → World → Prop)
    (hQ : ∀ a' w' g' cap', Env 490 [(1, .pointer (some ⟨w.heap.size, 0, none⟩)), (2, .pointer (some ⟨w.heap.size + 1, 0, none⟩)), (3, .slice (some ⟨g', 0, none⟩) (m + 2 + 2) cap'), (4, .pointer (some ⟨w.heap.size + 1 + 1, 0, none⟩)), (261, .slice A len c1), (262, .int .i64 (len : Nat)), (263, .int .i64 (k : Nat))] a' → Head p w c t b w' → w'.ownsRow (w.heap.size + 3) 5 1 (.slice (some ⟨g', 0, none⟩) (m + 2 + 2) cap') (m + 2 + 2) (u8s ((bs ++ be16 y) ++ be16 z)) → Q .normal a' w') :
    (formR 52).wp Tryz.prog Q a w3 := by
  conv => arg 2; whnf
  refine wp_region_mid (n := 490) [(3, 0), (6, 0), (6, 3)] (by kernel_rfl) (by kernel_rfl) (by kernel_rfl) (by kernel_rfl) hE.size
    [3, 6] (fun w' => w'.ownsRow (w.heap.size + 3) 5 1 (.slice (some ⟨g, 0, none⟩) m cap) m (u8s bs))
    (fun w' => Head p w c t b w' ∧ Blk w' x 97 #[.int .u16 y, .int .u16 z])
    (fun i v w' => match i with
      | 0 => w'.ownsRow (w.heap.size + 3) 5 1 (.slice (some ⟨g, 0, none⟩) m cap) m (u8s bs) ∧ v = .slice (some ⟨g, 0, none⟩) m cap
      | 1 => v = .pointer (some ⟨x, 0, none⟩)
      | 2 => v = .int .u16 y
      | 3 => ∃ g3 cap3, w'.ownsRow (w.heap.size + 3) 5 1 (.slice (some ⟨g3, 0, none⟩) (m + 2) cap3) (m + 2) (u8s (bs ++ be16 y)) ∧ g3 ≠ x ∧ v = .slice (some ⟨g3, 0, none⟩) (m + 2) cap3
      | 4 => v = .pointer (some ⟨x, 1, none⟩)
      | 5 => v = .int .u16 z
      | 6 => ∃ g6 cap6, w'.ownsRow (w.heap.size + 3) 5 1 (.slice (some ⟨g6, 0, none⟩) (m + 2 + 2) cap6) (m + 2 + 2) (u8s ((bs ++ be16 y) ++ be16 z)) ∧ g6 ≠ x ∧ v = .slice (some ⟨g6, 0, none⟩) (m + 2 + 2) cap6
      | 7 => ∃ g7 cap7, w'.ownsRow (w.heap.size + 3) 5 1 (.slice (some ⟨g7, 0, none⟩) (m + 2 + 2) cap7) (m + 2 + 2) (u8s ((bs ++ be16 y) ++ be16 z)) ∧ g7 ≠ x ∧ v = .slice (some ⟨g7, 0, none⟩) (m + 2 + 2) cap7
      | _ => True)
    (fun i w1 w2 => match i with
      | 3 => ∃ row, w1.grownBy w2 row ∧ ∀ k, row = some k → w.heap.size + 3 ≤ k
      | 6 => ∃ row, w1.grownBy w2 row ∧ ∀ k, row = some k → w.heap.size + 3 ≤ k
      | _ => w2 = w1)
    (own_drew hown) ?hC0 ?hKeep ?hKeepI ?hDuty ?hEnd
  case hC0 => exact ⟨hH.drew, hx.drew⟩
  case hKeep =>
    intro i k v w1 w2 hne hnd hw hC0 hT hR
    match i, hT with
    | 3, hT =>
      match k, hR with
      | 0, _ => exact absurd (by decide) hnd
      | 6, _ => exact waits_no (by kernel_rfl) hw
      | 7, _ => exact waits_no (by kernel_rfl) hw
      | 3, _ => exact absurd rfl hne
      | 1, hR | 2, hR | 4, hR | 5, hR => exact hR
      | _ + 8, _ => trivial
    | 6, hT =>
      match k, hR with
      | 0, _ => exact absurd (by decide) hnd
      | 3, _ => exact absurd (by decide) hnd
      | 7, _ => exact waits_no (by kernel_rfl) hw
      | 6, _ => exact absurd rfl hne
      | 1, hR | 2, hR | 4, hR | 5, hR => exact hR
      | _ + 8, _ => trivial
    | 0, hT | 1, hT | 2, hT | 4, hT | 5, hT | 7, hT => subst hT; exact hR
    | _ + 8, hT => subst hT; exact hR
  case hKeepI =>
    intro i w1 w2 hb hC0 hT hI
    match i, hT with
    | 3, _ => exact absurd (by decide) hb
    | 6, _ => exact absurd (by decide) hb
    | 0, hT | 1, hT | 2, hT | 4, hT | 5, hT | 7, hT => subst hT; exact hI
    | _ + 8, hT => subst hT; exact hI
  case hDuty =>
    refine ⟨?_, ?_, ?_, ?_, ?_, ?_, ?_, ?_, trivial⟩
    · refine duty_plain rfl fun vs a w4 hO hI0 hC0 hD K hK => ?_
      have c0 : w4.cell? ⟨x, 0, none⟩ = some (.int .u16 y) := hC0.2.cell 0
      have c1 : w4.cell? ⟨x, 1, none⟩ = some (.int .u16 z) := hC0.2.cell 1
      have hz0 : x < w4.heap.size := hC0.2.lt
      have e3 : a.tmps[3]? = some (.slice (some ⟨g, 0, none⟩) m cap) := (hO 3 (by kernel_rfl)).trans (hE.get 3 rfl)
      have hown := hI0 (by kernel_rfl)
      clear hD hO hI0
      go_simp
      exact hK _ _ hC0 ⟨hown, rfl⟩ rfl
    · refine duty_plain rfl fun vs a w4 hO hI0 hC0 hD K hK => ?_
      have c0 : w4.cell? ⟨x, 0, none⟩ = some (.int .u16 y) := hC0.2.cell 0
      have c1 : w4.cell? ⟨x, 1, none⟩ = some (.int .u16 z) := hC0.2.cell 1
      have hz0 : x < w4.heap.size := hC0.2.lt
      have e18 : a.tmps[18]? = some (.pointer (some ⟨x, 0, none⟩)) := (hO 18 (by kernel_rfl)).trans (hE.get 18 rfl)
      clear hD hO hI0
      go_simp
      exact hK _ _ hC0 rfl rfl
    · refine duty_plain rfl fun vs a w4 hO hI0 hC0 hD K hK => ?_
      have c0 : w4.cell? ⟨x, 0, none⟩ = some (.int .u16 y) := hC0.2.cell 0
      have c1 : w4.cell? ⟨x, 1, none⟩ = some (.int .u16 z) := hC0.2.cell 1
      have hz0 : x < w4.heap.size := hC0.2.lt
      have s268 : a.tmps[268]? = some (vs 1) := (hD.1 rfl).1
      have r1 : vs 1 = .pointer (some ⟨x, 0, none⟩) := (hD.1 rfl).2
      rw [r1] at s268
      clear r1
      clear hD hO hI0
      go_simp
      exact hK _ _ hC0 rfl rfl
    · refine duty_plain rfl fun vs a w4 hO hI0 hC0 hD K hK => ?_
      have c0 : w4.cell? ⟨x, 0, none⟩ = some (.int .u16 y) := hC0.2.cell 0
      have c1 : w4.cell? ⟨x, 1, none⟩ = some (.int .u16 z) := hC0.2.cell 1
      have hz0 : x < w4.heap.size := hC0.2.lt
      have s267 : a.tmps[267]? = some (vs 0) := (hD.1 rfl).1
      have q0 : w4.ownsRow (w.heap.size + 3) 5 1 (.slice (some ⟨g, 0, none⟩) m cap) m (u8s bs) ∧ vs 0 = .slice (some ⟨g, 0, none⟩) m cap := (hD.1 rfl).2
      obtain ⟨p0_0, r0⟩ := q0
      rw [r0] at s267
      clear r0
      have s269 : a.tmps[269]? = some (vs 2) := (hD.2.1 rfl).1
      have r2 : vs 2 = .int .u16 y := (hD.2.1 rfl).2
      rw [r2] at s269
      clear r2
      clear hD hO hI0
      go_simp
      refine (p16_any (w.heap.size + 3) _ m bs y _ p0_0 hC0.1.lt (by omega) hy0 hy1).mono ?_
      rintro e wa ⟨ga, capa, rfl, howna, hga, hata⟩
      have hgx : ga ≠ x := own_ne hata hgx hz0
      exact hK _ _ ⟨hC0.1.grown hga fun k hk => (p0_0.lt k hk).1, hC0.2.grown hga (by simp [Value.ownBlock]; omega)⟩ ⟨ga, capa, howna, hgx, rfl⟩ ⟨_, hga, fun k hk => (p0_0.lt k hk).1⟩
    · refine duty_plain rfl fun vs a w4 hO hI0 hC0 hD K hK => ?_
      have c0 : w4.cell? ⟨x, 0, none⟩ = some (.int .u16 y) := hC0.2.cell 0
      have c1 : w4.cell? ⟨x, 1, none⟩ = some (.int .u16 z) := hC0.2.cell 1
      have hz0 : x < w4.heap.size := hC0.2.lt
      have e18 : a.tmps[18]? = some (.pointer (some ⟨x, 0, none⟩)) := (hO 18 (by kernel_rfl)).trans (hE.get 18 rfl)
      clear hD hO hI0
      go_simp
      exact hK _ _ hC0 rfl rfl
    · refine duty_plain rfl fun vs a w4 hO hI0 hC0 hD K hK => ?_
      have c0 : w4.cell? ⟨x, 0, none⟩ = some (.int .u16 y) := hC0.2.cell 0
      have c1 : w4.cell? ⟨x, 1, none⟩ = some (.int .u16 z) := hC0.2.cell 1
      have hz0 : x < w4.heap.size := hC0.2.lt
      have s271 : a.tmps[271]? = some (vs 4) := (hD.1 rfl).1
      have r4 : vs 4 = .pointer (some ⟨x, 1, none⟩) := (hD.1 rfl).2
      rw [r4] at s271
      clear r4
      clear hD hO hI0
      go_simp
      exact hK _ _ hC0 rfl rfl
    · refine duty_plain rfl fun vs a w4 hO hI0 hC0 hD K hK => ?_
      have c0 : w4.cell? ⟨x, 0, none⟩ = some (.int .u16 y) := hC0.2.cell 0
      have c1 : w4.cell? ⟨x, 1, none⟩ = some (.int .u16 z) := hC0.2.cell 1
      have hz0 : x < w4.heap.size := hC0.2.lt
      have s270 : a.tmps[270]? = some (vs 3) := (hD.1 rfl).1
      have q3 : ∃ g3 cap3, w4.ownsRow (w.heap.size + 3) 5 1 (.slice (some ⟨g3, 0, none⟩) (m + 2) cap3) (m + 2) (u8s (bs ++ be16 y)) ∧ g3 ≠ x ∧ vs 3 = .slice (some ⟨g3, 0, none⟩) (m + 2) cap3 := (hD.1 rfl).2
      obtain ⟨g3, cap3, p3_0, p3_1, r3⟩ := q3
      rw [r3] at s270
      clear r3
      have s272 : a.tmps[272]? = some (vs 5) := (hD.2.1 rfl).1
      have r5 : vs 5 = .int .u16 z := (hD.2.1 rfl).2
      rw [r5] at s272
      clear r5
      clear hD hO hI0
      go_simp
      refine (p16_any (w.heap.size + 3) _ (m + 2) (bs ++ be16 y) z _ p3_0 hC0.1.lt (by omega) hw0 hw1).mono ?_
      rintro e wa ⟨ga, capa, rfl, howna, hga, hata⟩
      have hgx : ga ≠ x := own_ne hata p3_1 hz0
      exact hK _ _ ⟨hC0.1.grown hga fun k hk => (p3_0.lt k hk).1, hC0.2.grown hga (by simp [Value.ownBlock]; omega)⟩ ⟨ga, capa, howna, hgx, rfl⟩ ⟨_, hga, fun k hk => (p3_0.lt k hk).1⟩
    · refine duty_plain rfl fun vs a w4 hO hI0 hC0 hD K hK => ?_
      have c0 : w4.cell? ⟨x, 0, none⟩ = some (.int .u16 y) := hC0.2.cell 0
      have c1 : w4.cell? ⟨x, 1, none⟩ = some (.int .u16 z) := hC0.2.cell 1
      have hz0 : x < w4.heap.size := hC0.2.lt
      have s273 : a.tmps[273]? = some (vs 6) := (hD.1 rfl).1
      have q6 : ∃ g6 cap6, w4.ownsRow (w.heap.size + 3) 5 1 (.slice (some ⟨g6, 0, none⟩) (m + 2 + 2) cap6) (m + 2 + 2) (u8s ((bs ++ be16 y) ++ be16 z)) ∧ g6 ≠ x ∧ vs 6 = .slice (some ⟨g6, 0, none⟩) (m + 2 + 2) cap6 := (hD.1 rfl).2
      obtain ⟨g6, cap6, p6_0, p6_1, r6⟩ := q6
      rw [r6] at s273
      clear r6
      clear hD hO hI0
      go_simp
      exact hK _ _ hC0 ⟨_, _, p6_0, p6_1, rfl⟩ rfl
  case hEnd =>
    intro vs a' w' hC hM hR2
    obtain ⟨g7, cap7, h1, h2, h3⟩ := hR2 7 (by decide) (by simp)
    exact hQ a' w' g7 cap7 (Env.mk' (hM.size.trans hE.size) (hM.defers.trans hE.defers) ⟨(hM.old 1 (by kernel_rfl)).trans (hE.get 1 rfl), (hM.old 2 (by kernel_rfl)).trans (hE.get 2 rfl), (hM.slot 7 3 (by kernel_rfl)).trans (congrArg some h3), (hM.old 4 (by kernel_rfl)).trans (hE.get 4 rfl), (hM.old 261 (by kernel_rfl)).trans (hE.get 261 rfl), (hM.old 262 (by kernel_rfl)).trans (hE.get 262 rfl), (hM.old 263 (by kernel_rfl)).trans (hE.get 263 rfl), trivial⟩) hC.1 h1

set_option maxHeartbeats 2000000 in
set_option maxRecDepth 100000 in
theorem form6_rest (p : Pkt) (w w1 : World) (a1 : Act) (A : Option Addr) (c1 : Nat) (l : List Pair) (g cap : Nat) (b : Bool) (hs : p.cells[14]? = some (.slice A (l.length : Nat) c1)) (hr : Reads w w.heap.size 2 A l.length (l.flatMap Pair.cells)) (hn : l.length ≤ 2147483647)
    (hl : ∀ x ∈ l, 0 ≤ x.id ∧ x.id < 65536 ∧ 0 ≤ x.mask ∧ x.mask < 65536) (hE1 : Env 490 [(1, .pointer (some ⟨w.heap.size, 0, none⟩)), (2, .pointer (some ⟨w.heap.size + 1, 0, none⟩)), (3, .slice (some ⟨g, 0, none⟩) 8 cap), (4, .pointer (some ⟨w.heap.size + 1 + 1, 0, none⟩))] a1) (hH1 : Head p w 1 205 b w1) (hown : w1.ownsRow (w.heap.size + 3) 5 1 (.slice (some ⟨g, 0, none⟩) 8 cap) 8 (u8s (be32 p.sender ++ be32 p.media))) (Q : Exit → Act → World → Prop)
    (hQ : ∀ a' w' g' cap' m, m = 8 + 4 * l.length → Env 490 [(1, .pointer (some ⟨w.heap.size, 0, none⟩)), (2, .pointer (some ⟨w.heap.size + 1, 0, none⟩)), (3, .slice (some ⟨g', 0, none⟩) m cap'), (4, .pointer (some ⟨w.heap.size + 1 + 1, 0, none⟩))] a' → Head p w 1 205 b w' → w'.ownsRow (w.heap.size + 3) 5 1 (.slice (some ⟨g', 0, none⟩) m cap') m (u8s (be32 p.sender ++ be32 p.media ++ pairsB l)) → Q .normal a' w') :
    (formBehind 48).wp Tryz.prog Q a1 w1 := by
  conv => arg 2; whnf
  refine wp_seq_k fun K201 hK201 => ?_
  refine wp_region_lit ?_
  refine wpList_val hE1 260 rfl rfl fun K hK => ?_
  have e1 := hE1.get 1 rfl
  go_simp
  refine hK _ _ fun a202 hE202 => ?_
  clear hK K e1
  clear hE1 a1
  refine wpList_val hE202 261 rfl rfl fun K hK => ?_
  have e260 := hE202.get 260 rfl
  have cf : w1.cell? ⟨w.heap.size, 14, none⟩ = some (.slice A (l.length : Nat) c1) := (hH1.pk.cell 14).trans hs
  have hz0 : w.heap.size < w1.heap.size := by have := hH1.lt; omega
  go_simp
  refine hK _ _ fun a203 hE203 => ?_
  clear hK K e260
  clear hE202 a202
  clear cf hz0
  refine wpList_val hE203 262 rfl rfl fun K hK => ?_
  have e261 := hE203.get 261 rfl
  go_simp
  refine hK _ _ fun a204 hE204 => ?_
  clear hK K e261
  clear hE203 a203
  refine wpList_val hE204 263 rfl rfl fun K hK => ?_
  go_simp
  refine hK _ _ fun a205 hE205 => ?_
  clear hK K
  clear hE204 a204
  refine wpList_nil ?_
  refine hK201 _ _ ?_
  clear hK201 K201
  refine wp_block ?_
  refine wp_loop_up l.length (fun k a w' => ∃ g2 cap2 m, m = 8 + 4 * k ∧ Env 490 [(1, .pointer (some ⟨w.heap.size, 0, none⟩)), (2, .pointer (some ⟨w.heap.size + 1, 0, none⟩)), (3, .slice (some ⟨g2, 0, none⟩) m cap2), (4, .pointer (some ⟨w.heap.size + 1 + 1, 0, none⟩)), (261, .slice A (l.length : Nat) c1), (262, .int .i64 (l.length : Nat)), (263, .int .i64 (k : Nat))] a ∧ Head p w 1 205 b w' ∧ w'.ownsRow (w.heap.size + 3) 5 1 (.slice (some ⟨g2, 0, none⟩) m cap2) m (u8s (be32 p.sender ++ be32 p.media ++ pairsB (l.take k)))) ⟨g, cap, 8, by omega, hE205.keep ⟨hE205.get 1 rfl, hE205.get 2 rfl, hE205.get 3 rfl, hE205.get 4 rfl, hE205.get 261 rfl, hE205.get 262 rfl, hE205.get 263 rfl, trivial⟩, hH1, by simpa [pairsB] using hown⟩ ?_
  clear hown hH1 hE205 a205
  intro k a2 w2 hkl ⟨g2, cap2, m, hm, hE2, hH2, hown2⟩ K hK
  by_cases hlt : k < l.length
  case pos =>
    obtain ⟨b1, off, rfl, hbB⟩ := hr.addr (by omega) (by omega)
    have hrw := hr.below hH2.below
    obtain ⟨r, hrk⟩ : ∃ r, r = l[k] := ⟨_, rfl⟩
    have e0 := hrw.at2 (pair_cells_len l) k 0 hlt (by omega) (v := .int .u16 r.id) (by rw [hrk]; rfl)
    have e1 := hrw.at2 (pair_cells_len l) k 1 hlt (by omega) (v := .int .u16 r.mask) (by rw [hrk]; rfl)
    simp only [Nat.add_zero] at e0
    have hin := hl r (by rw [hrk]; exact List.getElem_mem _)
    have Hrk := Lib.hid hrk
    have Hm := Lib.hid hm
    clear hrk hm hl hr hrw
    obtain ⟨x, y⟩ := r
    simp only at e0 e1 hin
    have hi1 : (k : Int) < (l.length : Int) := by omega
    have hi0 : (0 : Int) ≤ (k : Int) := by omega
    have hw1 : IntKind.i64.wrap ((k : Int) + 1) = (k : Int) + 1 := IntWalk.i64_in _ (by omega)
    have hmx : m ≤ 70368744177000 := by have := Hm.out; omega
    have hzb : b1 < w2.heap.size := by have := hH2.lt; omega
    refine wp_seq_k fun K206 hK206 => ?_
    refine wp_region_lit ?_
    refine wpList_val hE2 264 rfl rfl fun K hK => ?_
    have e262 := hE2.get 262 rfl
    have e263 := hE2.get 263 rfl
    go_simp
    refine hK _ _ fun a207 hE207 => ?_
    clear hK K e262 e263
    clear hE2 a2
    refine wpList_nil ?_
    refine hK206 _ _ ?_
    clear hK206 K206
    refine wp_seq_k fun K208 hK208 => ?_
    refine wp_if_t hE207 264 rfl ?_
    refine wp_skip ?_
    refine hK208 _ _ ?_
    clear hK208 K208
    refine wp_seq_k fun K209 hK209 => ?_
    refine wp_block ?_
    refine wp_seq_k fun K210 hK210 => ?_
    refine wp_region_lit ?_
    refine wpList_val hE207 265 rfl rfl fun K hK => ?_
    have e261 := hE207.get 261 rfl
    have e263 := hE207.get 263 rfl
    go_simp
    refine hK _ _ fun a211 hE211 => ?_
    clear hK K e261 e263
    clear hE207 a207
    refine wpList_val hE211 266 rfl rfl fun K hK => ?_
    have e265 := hE211.get 265 rfl
    go_simp
    refine hK _ _ fun a212 hE212 => ?_
    clear hK K e265
    clear hE211 a211
    refine wpList_val hE212 18 rfl rfl fun K hK => ?_
    go_simp
    refine hK _ _ fun a213 hE213 => ?_
    clear hK K
    clear hE212 a212
    refine wpList_none rfl fun K hK => ?_
    have e18 := hE213.get 18 rfl
    have e266 := hE213.get 266 rfl
    go_simp
    refine hK undef _ ?_
    clear hK K e18 e266
    refine wpList_nil ?_
    refine hK210 _ _ ?_
    clear hK210 K210
    have hx := blk_new w2 97 #[.int .u16 x, .int .u16 y] rfl
    have hH3 := hH2.alloc (.cells #[.int .u16 x, .int .u16 y] 97)
    have hown3 := hown2.alloc (.cells #[.int .u16 x, .int .u16 y] 97)
    have hxw : w2.heap.size < (w2.alloc (.cells #[.int .u16 x, .int .u16 y] 97)).heap.size := by simp
    have hgx : g2 ≠ w2.heap.size := by have := (hown2.lt g2 rfl).2; omega
    clear e0 e1 hH2 hown2
    generalize w2.alloc (.cells #[.int .u16 x, .int .u16 y] 97) = w3 at *
    refine formR52 p w w3 _ w2.heap.size g2 m cap2 _ x y 1 205 b hin.1 hin.2.1 hin.2.2.1 hin.2.2.2 hmx hgx (hE213.keep ⟨hE213.get 1 rfl, hE213.get 2 rfl, hE213.get 3 rfl, hE213.get 4 rfl, hE213.get 18 rfl, hE213.get 261 rfl, hE213.get 262 rfl, hE213.get 263 rfl, trivial⟩) hH3 hx hown3 hxw _ fun a4 w4 g4 cap4 hE4 hH4 hown4 => ?_
    clear hE213 a213
    refine hK209 _ _ ?_
    clear hK209 K209
    refine wp_region_lit ?_
    refine wpList_val hE4 274 rfl rfl fun K hK => ?_
    have e263 := hE4.get 263 rfl
    go_simp
    refine hK _ _ fun a215 hE215 => ?_
    clear hK K e263
    clear hE4 a4
    refine wpList_val hE215 263 rfl rfl fun K hK => ?_
    have e274 := hE215.get 274 rfl
    go_simp
    refine hK _ _ fun a216 hE216 => ?_
    clear hK K e274
    clear hE215 a215
    refine wpList_nil ?_
    have et : (l.take (k + 1)) = l.take k ++ [⟨x, y⟩] := by rw [List.take_succ_eq_append_getElem hlt, Hrk.out]
    exact hK _ _ hlt ⟨g4, cap4, m + 2 + 2, by have := Hm.out; omega, hE216.keep ⟨hE216.get 1 rfl, hE216.get 2 rfl, hE216.get 3 rfl, hE216.get 4 rfl, hE216.get 261 rfl, hE216.get 262 rfl, (hE216.get 263 rfl).trans (congrArg some (by go_num)), trivial⟩, hH4, own_eq hown4 rfl (by rw [et]; simp [pairsB])⟩
  case neg =>
    obtain rfl : k = l.length := by omega
    have hi1 : ¬ (l.length : Int) < (l.length : Int) := by omega
    refine wp_seq_k fun K217 hK217 => ?_
    refine wp_region_lit ?_
    refine wpList_val hE2 264 rfl rfl fun K hK => ?_
    have e262 := hE2.get 262 rfl
    have e263 := hE2.get 263 rfl
    go_simp
    refine hK _ _ fun a218 hE218 => ?_
    clear hK K e262 e263
    clear hE2 a2
    refine wpList_nil ?_
    refine hK217 _ _ ?_
    clear hK217 K217
    refine wp_seq_k fun K219 hK219 => ?_
    refine wp_if_f hE218 264 rfl ?_
    refine wp_exit ?_
    exact hQ _ _ g2 cap2 m hm (hE218.keep ⟨hE218.get 1 rfl, hE218.get 2 rfl, hE218.get 3 rfl, hE218.get 4 rfl, trivial⟩) hH2 (own_eq hown2 rfl (by rw [List.take_length]))

set_option maxHeartbeats 4000000 in
set_option maxRecDepth 100000 in
theorem form_6 (p : Pkt) (w : World) (hk : p.kind = 6) (hs0 : 0 ≤ p.sender) (hs1 : p.sender < 4294967296) (hm0 : 0 ≤ p.media) (hm1 : p.media < 4294967296) (hr : p.pairs.Lies w w.heap.size 2 Pair.cells) (hn : p.pairs.l.length ≤ 2147483647)
    (hl : ∀ x ∈ p.pairs.l, 0 ≤ x.id ∧ x.id < 65536 ∧ 0 ≤ x.mask ∧ x.mask < 65536) :
    Calls Tryz.prog 52 #[.agg p.cells] w (Formed w 1 205 (be32 p.sender ++ be32 p.media ++ pairsB p.pairs.l) (decide (0 < p.pairs.l.length) && decide (((p.pairs.l.length : Nat) : Int) ≤ 253))) := by
  refine form_start p w 6 _ (by rw [hk]; rfl) (by decide) hs0 hs1 hm0 hm1 fun a1 w1 g cap hE1 hH1 hown => ?_
  conv => arg 2; whnf
  replace hH1 : Head p w 1 205 true w1 := hH1
  refine wp_seq_k fun K401 hK401 => ?_
  refine wp_seq_k fun K402 hK402 => ?_
  refine wp_region_lit ?_
  refine wpList_val hE1 50 rfl rfl fun K hK => ?_
  have e1 := hE1.get 1 rfl
  go_simp
  refine hK _ _ fun a403 hE403 => ?_
  clear hK K e1
  clear hE1 a1
  refine wpList_val hE403 51 rfl rfl fun K hK => ?_
  have e50 := hE403.get 50 rfl
  have c0 : w1.cell? ⟨w.heap.size, 0, none⟩ = some (.int .i64 6) := (hH1.pk.cell 0).trans (by rw [← hk]; rfl)
  have hz0 : w.heap.size < w1.heap.size := by have := hH1.lt; omega
  go_simp
  refine hK _ _ fun a404 hE404 => ?_
  clear hK K e50
  clear hE403 a403
  clear c0 hz0
  refine wpList_nil ?_
  refine hK402 _ _ ?_
  clear hK402 K402
  refine wp_block ?_
  refine wp_seq_k fun K405 hK405 => ?_
  refine wp_seq_k fun K406 hK406 => ?_
  refine wp_region_lit ?_
  refine wpList_val hE404 53 rfl rfl fun K hK => ?_
  have e51 := hE404.get 51 rfl
  go_simp
  refine hK _ _ fun a407 hE407 => ?_
  clear hK K e51
  clear hE404 a404
  refine wpList_val hE407 52 rfl rfl fun K hK => ?_
  have e53 := hE407.get 53 rfl
  go_simp
  refine hK _ _ fun a408 hE408 => ?_
  clear hK K e53
  clear hE407 a407
  refine wpList_nil ?_
  refine hK406 _ _ ?_
  clear hK406 K406
  refine wp_if_f hE408 52 rfl ?_
  refine wp_region_lit ?_
  refine wpList_val hE408 54 rfl rfl fun K hK => ?_
  have e51 := hE408.get 51 rfl
  go_simp
  refine hK _ _ fun a409 hE409 => ?_
  clear hK K e51
  clear hE408 a408
  refine wpList_val hE409 52 rfl rfl fun K hK => ?_
  have e54 := hE409.get 54 rfl
  go_simp
  refine hK _ _ fun a410 hE410 => ?_
  clear hK K e54
  clear hE409 a409
  refine wpList_nil ?_
  refine hK405 _ _ ?_
  clear hK405 K405
  refine wp_if_f hE410 52 rfl ?_
  refine wp_seq_k fun K411 hK411 => ?_
  refine wp_region_lit ?_
  refine wpList_val hE410 118 rfl rfl fun K hK => ?_
  have e51 := hE410.get 51 rfl
  go_simp
  refine hK _ _ fun a412 hE412 => ?_
  clear hK K e51
  clear hE410 a410
  refine wpList_val hE412 117 rfl rfl fun K hK => ?_
  have e118 := hE412.get 118 rfl
  go_simp
  refine hK _ _ fun a413 hE413 => ?_
  clear hK K e118
  clear hE412 a412
  refine wpList_nil ?_
  refine hK411 _ _ ?_
  clear hK411 K411
  refine wp_if_f hE413 117 rfl ?_
  refine wp_seq_k fun K414 hK414 => ?_
  refine wp_region_lit ?_
  refine wpList_val hE413 173 rfl rfl fun K hK => ?_
  have e51 := hE413.get 51 rfl
  go_simp
  refine hK _ _ fun a415 hE415 => ?_
  clear hK K e51
  clear hE413 a413
  refine wpList_val hE415 172 rfl rfl fun K hK => ?_
  have e173 := hE415.get 173 rfl
  go_simp
  refine hK _ _ fun a416 hE416 => ?_
  clear hK K e173
  clear hE415 a415
  refine wpList_nil ?_
  refine hK414 _ _ ?_
  clear hK414 K414
  refine wp_if_f hE416 172 rfl ?_
  refine wp_seq_k fun K417 hK417 => ?_
  refine wp_region_lit ?_
  refine wpList_val hE416 212 rfl rfl fun K hK => ?_
  have e51 := hE416.get 51 rfl
  go_simp
  refine hK _ _ fun a418 hE418 => ?_
  clear hK K e51
  clear hE416 a416
  refine wpList_val hE418 211 rfl rfl fun K hK => ?_
  have e212 := hE418.get 212 rfl
  go_simp
  refine hK _ _ fun a419 hE419 => ?_
  clear hK K e212
  clear hE418 a418
  refine wpList_nil ?_
  refine hK417 _ _ ?_
  clear hK417 K417
  refine wp_if_f hE419 211 rfl ?_
  refine wp_seq_k fun K420 hK420 => ?_
  refine wp_region_lit ?_
  refine wpList_val hE419 248 rfl rfl fun K hK => ?_
  have e51 := hE419.get 51 rfl
  go_simp
  refine hK _ _ fun a421 hE421 => ?_
  clear hK K e51
  clear hE419 a419
  refine wpList_val hE421 247 rfl rfl fun K hK => ?_
  have e248 := hE421.get 248 rfl
  go_simp
  refine hK _ _ fun a422 hE422 => ?_
  clear hK K e248
  clear hE421 a421
  refine wpList_nil ?_
  refine hK420 _ _ ?_
  clear hK420 K420
  refine wp_if_t hE422 247 rfl ?_
  refine wp_seq_k fun K423 hK423 => ?_
  by_cases hG : 0 < p.pairs.l.length
  case pos =>
    refine formR48_t p p.pairs w w1 _ (w.heap.size + 3) 8 _ _ true rfl hG (hE422.keep ⟨hE422.get 1 rfl, hE422.get 2 rfl, hE422.get 4 rfl, hE422.get 6 rfl, trivial⟩) hH1 hown (Nat.le_refl _) _ fun a2 w2 hE2 hH2 hown2 => ?_
    refine hK423 _ _ ?_
    refine form6_rest p w w2 a2 p.pairs.A p.pairs.c p.pairs.l g cap (decide (((p.pairs.l.length : Nat) : Int) ≤ 253)) rfl hr hn hl hE2 hH2 hown2 _ fun a3 w3 g3 cap3 m hm hE3 hH3 hown3 => ?_
    refine hK401 _ _ ?_
    refine form_finish p w w3 a3 1 205 (decide (((p.pairs.l.length : Nat) : Int) ≤ 253)) (w.heap.size + 3) m _ _ _ (hE3.keep ⟨hE3.get 2 rfl, hE3.get 3 rfl, hE3.get 4 rfl, trivial⟩) hH3 hown3 (Nat.le_refl _) ?_ fun _ _ h => ?_
    · rw [hm]; simp [pairsB_len, be32_len]; omega
    · exact (show (decide (((p.pairs.l.length : Nat) : Int) ≤ 253)) = (decide (0 < p.pairs.l.length) && decide (((p.pairs.l.length : Nat) : Int) ≤ 253)) by simp [hG]) ▸ h
  case neg =>
    refine formR48_f p p.pairs w w1 _ (w.heap.size + 3) 8 _ _ true rfl hG (hE422.keep ⟨hE422.get 1 rfl, hE422.get 2 rfl, hE422.get 4 rfl, hE422.get 6 rfl, trivial⟩) hH1 hown (Nat.le_refl _) _ fun a2 w2 hE2 hH2 hown2 => ?_
    refine hK423 _ _ ?_
    refine form6_rest p w w2 a2 p.pairs.A p.pairs.c p.pairs.l g cap (false) rfl hr hn hl hE2 hH2 hown2 _ fun a3 w3 g3 cap3 m hm hE3 hH3 hown3 => ?_
    refine hK401 _ _ ?_
    refine form_finish p w w3 a3 1 205 (false) (w.heap.size + 3) m _ _ _ (hE3.keep ⟨hE3.get 2 rfl, hE3.get 3 rfl, hE3.get 4 rfl, trivial⟩) hH3 hown3 (Nat.le_refl _) ?_ fun _ _ h => ?_
    · rw [hm]; simp [pairsB_len, be32_len]; omega
    · exact (show (false) = (decide (0 < p.pairs.l.length) && decide (((p.pairs.l.length : Nat) : Int) ≤ 253)) by simp [hG]) ▸ h

end Go.Proofs.YtmmfpgoodfgkbaaGreat
