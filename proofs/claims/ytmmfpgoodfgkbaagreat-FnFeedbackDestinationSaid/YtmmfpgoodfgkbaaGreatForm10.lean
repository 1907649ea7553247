/-
  THE WALK of the reference's body of a packet: lost slices. Condition: the kind; the numbers fit their kinds; fewer than 2^31 slices.
-/
import Derived.Test.YtmmfpgoodfgkbaaGreatForm2
import Derived.Test.YtmmfpgoodfgkbaaGreatForm6
import Derived.Laws.Closers25b
namespace Go.Proofs.YtmmfpgoodfgkbaaGreat
open Go Go.RowKit
set_option linter.unusedVariables false

/-- The word of a slice. -/
def slcW (x : Slc) : Int := bits .or .u32 (bits .or .u32 (IntKind.u32.wrap (IntKind.u32.wrap x.first * 524288)) (IntKind.u32.wrap (IntKind.u32.wrap x.number * 64))) (IntKind.u32.wrap x.pic)
theorem slcW_bd (x : Slc) : 0 ≤ slcW x ∧ slcW x < 4294967296 := by
  have h := bits_within .or .u32 (bits .or .u32 (IntKind.u32.wrap (IntKind.u32.wrap x.first * 524288)) (IntKind.u32.wrap (IntKind.u32.wrap x.number * 64))) (IntKind.u32.wrap x.pic)
  have hmin : IntKind.u32.min = 0 := rfl
  have hmax : IntKind.u32.max = 4294967295 := rfl
  exact ⟨by have := h.1; unfold slcW; omega, by have := h.2; unfold slcW; omega⟩
/-- May a slice be written? -/
def slcOk (x : Slc) : Bool := decide (x.first < 8192) && (decide (x.number < 8192) && decide (x.pic < 64))
def slcsB (l : List Slc) : List Int := l.flatMap fun x => be32 (slcW x)
theorem slcsB_len (l : List Slc) : (slcsB l).length = 4 * l.length := by
  induction l with
  | nil => rfl
  | cons x l ih => rw [slcsB, List.flatMap_cons, List.length_append, ← slcsB, ih]; simp [be32_len]; omega
theorem slc_cells_len : ∀ (l : List Slc), ∀ x ∈ l, (Slc.cells x).length = 3 := fun _ _ _ => rfl

set_option maxHeartbeats 1000000 in
set_option maxRecDepth 100000 in
theorem formR58_t {α : Type} (p : Pkt) (s : Sl α) (w w3 : World) (a : Act) (B m : Nat) (u : Value) (xs : List Value) (b : Bool) (hs : p.cells[15]? = some (.slice s.A (s.l.length : Nat) s.c)) (hG : 0 < s.l.length)
    (hE : Env 490 [(1, .pointer (some ⟨w.heap.size, 0, none⟩)), (2, .pointer (some ⟨w.heap.size + 1, 0, none⟩)), (4, .pointer (some ⟨w.heap.size + 1 + 1, 0, none⟩)), (6, u)] a) (hH : Head p w 2 206 b w3) (hown : w3.ownsRow B 5 1 u m xs) (hB : w.heap.size + 3 ≤ B) (Q : Exit → Act → World → Prop)
    (hQ : ∀ a' w', Env 490 [(1, .pointer (some ⟨w.heap.size, 0, none⟩)), (2, .pointer (some ⟨w.heap.size + 1, 0, none⟩)), (3, u), (4, .pointer (some ⟨w.heap.size + 1 + 1, 0, none⟩))] a' → Head p w 2 206 (decide (((s.l.length : Nat) : Int) ≤ 253)) w' → w'.ownsRow B 5 1 u m xs → Q .normal a' w') :
    (formR 58).wp Tryz.prog Q a w3 := by
  have hne : ∀ k, u.ownBlock = some k → w.heap.size + 1 + 1 < k := fun k hk => by have := (hown.lt k hk).1; omega
  conv => arg 2; whnf
  refine wp_region_mid (n := 490) [] (by kernel_rfl) (by kernel_rfl) (by kernel_rfl) (by kernel_rfl) hE.size
    [] (fun w' => True)
    (fun w' => (∃ b, Head p w 2 206 b w') ∧ w'.ownsRow B 5 1 u m xs)
    (fun i v w' => match i with
      | 0 => v = u
      | 1 => v = .pointer (some ⟨w.heap.size, 15, none⟩)
      | 2 => v = .slice s.A (s.l.length : Nat) s.c
      | 3 => v = .int .i64 (s.l.length : Nat)
      | 4 => v = .bool true
      | 5 => v = .bool true
      | 6 => v = .pointer (some ⟨w.heap.size, 15, none⟩)
      | 7 => v = .slice s.A (s.l.length : Nat) s.c
      | 8 => v = .int .i64 (s.l.length : Nat)
      | 9 => v = .bool (decide (((s.l.length : Nat) : Int) ≤ 253))
      | 10 => v = .bool (decide (((s.l.length : Nat) : Int) ≤ 253))
      | 11 => v = u
      | 12 => Head p w 2 206 (decide (((s.l.length : Nat) : Int) ≤ 253)) w'
      | _ => True)
    (fun i w1 w2 => match i with
      | 12 => True
      | _ => w2 = w1)
    (trivial) ?hC0 ?hKeep ?hKeepI ?hDuty ?hEnd
  case hC0 => exact ⟨⟨_, hH.drew⟩, own_drew hown⟩
  case hKeep =>
    intro i k v w1 w2 hne hnd hw hC0 hT hR
    match i, hT with
    | 12, hT =>
      match k, hR with
      | 12, _ => exact absurd rfl hne
      | 0, hR | 1, hR | 2, hR | 3, hR | 4, hR | 5, hR | 6, hR | 7, hR | 8, hR | 9, hR | 10, hR | 11, hR => exact hR
      | _ + 13, _ => trivial
    | 0, hT | 1, hT | 2, hT | 3, hT | 4, hT | 5, hT | 6, hT | 7, hT | 8, hT | 9, hT | 10, hT | 11, hT => subst hT; exact hR
    | _ + 13, hT => subst hT; exact hR
  case hKeepI =>
    exact fun _ _ _ _ _ _ h => h
  case hDuty =>
    refine ⟨?_, ?_, ?_, ?_, ?_, ?_, ?_, ?_, ?_, ?_, ?_, ?_, ?_, trivial⟩
    · refine duty_plain rfl fun vs a w4 hO hI0 hC0 hD K hK => ?_
      obtain ⟨⟨b, hH⟩, hO1⟩ := (show (∃ b, Head p w 2 206 b w4) ∧ w4.ownsRow B 5 1 u m xs from hC0)
      have cf : w4.cell? ⟨w.heap.size, 15, none⟩ = some (.slice s.A (s.l.length : Nat) s.c) := (hH.pk.cell 15).trans hs
      have d4 : w4.cell? ⟨w.heap.size + 1 + 1, 0, none⟩ = some (.bool b) := hH.ok.cell 0
      have f4 : w4.frozen? ⟨w.heap.size + 1 + 1, 0, none⟩ = false := hH.ok.frozen 0
      have hz0 : w.heap.size < w4.heap.size := by have := hH.lt; omega
      have hz1 : w.heap.size + 1 + 1 < w4.heap.size := by have := hH.lt; omega
      clear hs
      have e6 : a.tmps[6]? = some (u) := (hO 6 (by kernel_rfl)).trans (hE.get 6 rfl)
      clear hD hO hI0
      go_simp
      exact hK _ _ hC0 rfl rfl
    · refine duty_plain rfl fun vs a w4 hO hI0 hC0 hD K hK => ?_
      obtain ⟨⟨b, hH⟩, hO1⟩ := (show (∃ b, Head p w 2 206 b w4) ∧ w4.ownsRow B 5 1 u m xs from hC0)
      have cf : w4.cell? ⟨w.heap.size, 15, none⟩ = some (.slice s.A (s.l.length : Nat) s.c) := (hH.pk.cell 15).trans hs
      have d4 : w4.cell? ⟨w.heap.size + 1 + 1, 0, none⟩ = some (.bool b) := hH.ok.cell 0
      have f4 : w4.frozen? ⟨w.heap.size + 1 + 1, 0, none⟩ = false := hH.ok.frozen 0
      have hz0 : w.heap.size < w4.heap.size := by have := hH.lt; omega
      have hz1 : w.heap.size + 1 + 1 < w4.heap.size := by have := hH.lt; omega
      clear hs
      have e1 : a.tmps[1]? = some (.pointer (some ⟨w.heap.size, 0, none⟩)) := (hO 1 (by kernel_rfl)).trans (hE.get 1 rfl)
      clear hD hO hI0
      go_simp
      exact hK _ _ hC0 rfl rfl
    · refine duty_plain rfl fun vs a w4 hO hI0 hC0 hD K hK => ?_
      obtain ⟨⟨b, hH⟩, hO1⟩ := (show (∃ b, Head p w 2 206 b w4) ∧ w4.ownsRow B 5 1 u m xs from hC0)
      have cf : w4.cell? ⟨w.heap.size, 15, none⟩ = some (.slice s.A (s.l.length : Nat) s.c) := (hH.pk.cell 15).trans hs
      have d4 : w4.cell? ⟨w.heap.size + 1 + 1, 0, none⟩ = some (.bool b) := hH.ok.cell 0
      have f4 : w4.frozen? ⟨w.heap.size + 1 + 1, 0, none⟩ = false := hH.ok.frozen 0
      have hz0 : w.heap.size < w4.heap.size := by have := hH.lt; omega
      have hz1 : w.heap.size + 1 + 1 < w4.heap.size := by have := hH.lt; omega
      clear hs
      have s282 : a.tmps[282]? = some (vs 1) := (hD.1 rfl).1
      have r1 : vs 1 = .pointer (some ⟨w.heap.size, 15, none⟩) := (hD.1 rfl).2
      rw [r1] at s282
      clear r1
      clear hD hO hI0
      go_simp
      exact hK _ _ hC0 rfl rfl
    · refine duty_plain rfl fun vs a w4 hO hI0 hC0 hD K hK => ?_
      obtain ⟨⟨b, hH⟩, hO1⟩ := (show (∃ b, Head p w 2 206 b w4) ∧ w4.ownsRow B 5 1 u m xs from hC0)
      have cf : w4.cell? ⟨w.heap.size, 15, none⟩ = some (.slice s.A (s.l.length : Nat) s.c) := (hH.pk.cell 15).trans hs
      have d4 : w4.cell? ⟨w.heap.size + 1 + 1, 0, none⟩ = some (.bool b) := hH.ok.cell 0
      have f4 : w4.frozen? ⟨w.heap.size + 1 + 1, 0, none⟩ = false := hH.ok.frozen 0
      have hz0 : w.heap.size < w4.heap.size := by have := hH.lt; omega
      have hz1 : w.heap.size + 1 + 1 < w4.heap.size := by have := hH.lt; omega
      clear hs
      have s283 : a.tmps[283]? = some (vs 2) := (hD.1 rfl).1
      have r2 : vs 2 = .slice s.A (s.l.length : Nat) s.c := (hD.1 rfl).2
      rw [r2] at s283
      clear r2
      clear hD hO hI0
      go_simp
      exact hK _ _ hC0 rfl rfl
    · refine duty_plain rfl fun vs a w4 hO hI0 hC0 hD K hK => ?_
      obtain ⟨⟨b, hH⟩, hO1⟩ := (show (∃ b, Head p w 2 206 b w4) ∧ w4.ownsRow B 5 1 u m xs from hC0)
      have cf : w4.cell? ⟨w.heap.size, 15, none⟩ = some (.slice s.A (s.l.length : Nat) s.c) := (hH.pk.cell 15).trans hs
      have d4 : w4.cell? ⟨w.heap.size + 1 + 1, 0, none⟩ = some (.bool b) := hH.ok.cell 0
      have f4 : w4.frozen? ⟨w.heap.size + 1 + 1, 0, none⟩ = false := hH.ok.frozen 0
      have hz0 : w.heap.size < w4.heap.size := by have := hH.lt; omega
      have hz1 : w.heap.size + 1 + 1 < w4.heap.size := by have := hH.lt; omega
      clear hs
      have s284 : a.tmps[284]? = some (vs 3) := (hD.1 rfl).1
      have r3 : vs 3 = .int .i64 (s.l.length : Nat) := (hD.1 rfl).2
      rw [r3] at s284
      clear r3
      clear hD hO hI0
      go_simp
      exact hK _ _ hC0 rfl rfl
    · refine duty_plain rfl fun vs a w4 hO hI0 hC0 hD K hK => ?_
      obtain ⟨⟨b, hH⟩, hO1⟩ := (show (∃ b, Head p w 2 206 b w4) ∧ w4.ownsRow B 5 1 u m xs from hC0)
      have cf : w4.cell? ⟨w.heap.size, 15, none⟩ = some (.slice s.A (s.l.length : Nat) s.c) := (hH.pk.cell 15).trans hs
      have d4 : w4.cell? ⟨w.heap.size + 1 + 1, 0, none⟩ = some (.bool b) := hH.ok.cell 0
      have f4 : w4.frozen? ⟨w.heap.size + 1 + 1, 0, none⟩ = false := hH.ok.frozen 0
      have hz0 : w.heap.size < w4.heap.size := by have := hH.lt; omega
      have hz1 : w.heap.size + 1 + 1 < w4.heap.size := by have := hH.lt; omega
      clear hs
      have s285 : a.tmps[285]? = some (vs 4) := (hD.1 rfl).1
      have r4 : vs 4 = .bool true := (hD.1 rfl).2
      rw [r4] at s285
      clear r4
      clear hD hO hI0
      go_simp
      exact hK _ _ hC0 rfl rfl
    · refine duty_guarded 5 true 286 rfl rfl fun vs a w4 hO hI0 hC0 hD => ?_
      obtain ⟨⟨b, hH⟩, hO1⟩ := (show (∃ b, Head p w 2 206 b w4) ∧ w4.ownsRow B 5 1 u m xs from hC0)
      have cf : w4.cell? ⟨w.heap.size, 15, none⟩ = some (.slice s.A (s.l.length : Nat) s.c) := (hH.pk.cell 15).trans hs
      have d4 : w4.cell? ⟨w.heap.size + 1 + 1, 0, none⟩ = some (.bool b) := hH.ok.cell 0
      have f4 : w4.frozen? ⟨w.heap.size + 1 + 1, 0, none⟩ = false := hH.ok.frozen 0
      have hz0 : w.heap.size < w4.heap.size := by have := hH.lt; omega
      have hz1 : w.heap.size + 1 + 1 < w4.heap.size := by have := hH.lt; omega
      clear hs
      have s286 : a.tmps[286]? = some (vs 5) := (hD.1 rfl).1
      have r5 : vs 5 = .bool true := (hD.1 rfl).2
      rw [r5] at s286
      clear r5
      have e1 : a.tmps[1]? = some (.pointer (some ⟨w.heap.size, 0, none⟩)) := (hO 1 (by kernel_rfl)).trans (hE.get 1 rfl)
      clear hD hO hI0
      refine ⟨_, s286, fun K hK => ?_⟩
      rw [if_pos rfl]
      go_simp
      exact hK _ _ hC0 rfl rfl
    · refine duty_guarded 5 true 286 rfl rfl fun vs a w4 hO hI0 hC0 hD => ?_
      obtain ⟨⟨b, hH⟩, hO1⟩ := (show (∃ b, Head p w 2 206 b w4) ∧ w4.ownsRow B 5 1 u m xs from hC0)
      have cf : w4.cell? ⟨w.heap.size, 15, none⟩ = some (.slice s.A (s.l.length : Nat) s.c) := (hH.pk.cell 15).trans hs
      have d4 : w4.cell? ⟨w.heap.size + 1 + 1, 0, none⟩ = some (.bool b) := hH.ok.cell 0
      have f4 : w4.frozen? ⟨w.heap.size + 1 + 1, 0, none⟩ = false := hH.ok.frozen 0
      have hz0 : w.heap.size < w4.heap.size := by have := hH.lt; omega
      have hz1 : w.heap.size + 1 + 1 < w4.heap.size := by have := hH.lt; omega
      clear hs
      have s287 : a.tmps[287]? = some (vs 6) := (hD.1 rfl).1
      have r6 : vs 6 = .pointer (some ⟨w.heap.size, 15, none⟩) := (hD.1 rfl).2
      rw [r6] at s287
      clear r6
      have s286 : a.tmps[286]? = some (vs 5) := (hD.2.1 rfl).1
      have r5 : vs 5 = .bool true := (hD.2.1 rfl).2
      rw [r5] at s286
      clear r5
      clear hD hO hI0
      refine ⟨_, s286, fun K hK => ?_⟩
      rw [if_pos rfl]
      go_simp
      exact hK _ _ hC0 rfl rfl
    · refine duty_guarded 5 true 286 rfl rfl fun vs a w4 hO hI0 hC0 hD => ?_
      obtain ⟨⟨b, hH⟩, hO1⟩ := (show (∃ b, Head p w 2 206 b w4) ∧ w4.ownsRow B 5 1 u m xs from hC0)
      have cf : w4.cell? ⟨w.heap.size, 15, none⟩ = some (.slice s.A (s.l.length : Nat) s.c) := (hH.pk.cell 15).trans hs
      have d4 : w4.cell? ⟨w.heap.size + 1 + 1, 0, none⟩ = some (.bool b) := hH.ok.cell 0
      have f4 : w4.frozen? ⟨w.heap.size + 1 + 1, 0, none⟩ = false := hH.ok.frozen 0
      have hz0 : w.heap.size < w4.heap.size := by have := hH.lt; omega
      have hz1 : w.heap.size + 1 + 1 < w4.heap.size := by have := hH.lt; omega
      clear hs
      have s288 : a.tmps[288]? = some (vs 7) := (hD.1 rfl).1
      have r7 : vs 7 = .slice s.A (s.l.length : Nat) s.c := (hD.1 rfl).2
      rw [r7] at s288
      clear r7
      have s286 : a.tmps[286]? = some (vs 5) := (hD.2.1 rfl).1
      have r5 : vs 5 = .bool true := (hD.2.1 rfl).2
      rw [r5] at s286
      clear r5
      clear hD hO hI0
      refine ⟨_, s286, fun K hK => ?_⟩
      rw [if_pos rfl]
      go_simp
      exact hK _ _ hC0 rfl rfl
    · refine duty_guarded 5 true 286 rfl rfl fun vs a w4 hO hI0 hC0 hD => ?_
      obtain ⟨⟨b, hH⟩, hO1⟩ := (show (∃ b, Head p w 2 206 b w4) ∧ w4.ownsRow B 5 1 u m xs from hC0)
      have cf : w4.cell? ⟨w.heap.size, 15, none⟩ = some (.slice s.A (s.l.length : Nat) s.c) := (hH.pk.cell 15).trans hs
      have d4 : w4.cell? ⟨w.heap.size + 1 + 1, 0, none⟩ = some (.bool b) := hH.ok.cell 0
      have f4 : w4.frozen? ⟨w.heap.size + 1 + 1, 0, none⟩ = false := hH.ok.frozen 0
      have hz0 : w.heap.size < w4.heap.size := by have := hH.lt; omega
      have hz1 : w.heap.size + 1 + 1 < w4.heap.size := by have := hH.lt; omega
      clear hs
      have s289 : a.tmps[289]? = some (vs 8) := (hD.1 rfl).1
      have r8 : vs 8 = .int .i64 (s.l.length : Nat) := (hD.1 rfl).2
      rw [r8] at s289
      clear r8
      have s286 : a.tmps[286]? = some (vs 5) := (hD.2.1 rfl).1
      have r5 : vs 5 = .bool true := (hD.2.1 rfl).2
      rw [r5] at s286
      clear r5
      clear hD hO hI0
      refine ⟨_, s286, fun K hK => ?_⟩
      rw [if_pos rfl]
      go_simp
      exact hK _ _ hC0 rfl rfl
    · refine duty_plain rfl fun vs a w4 hO hI0 hC0 hD K hK => ?_
      obtain ⟨⟨b, hH⟩, hO1⟩ := (show (∃ b, Head p w 2 206 b w4) ∧ w4.ownsRow B 5 1 u m xs from hC0)
      have cf : w4.cell? ⟨w.heap.size, 15, none⟩ = some (.slice s.A (s.l.length : Nat) s.c) := (hH.pk.cell 15).trans hs
      have d4 : w4.cell? ⟨w.heap.size + 1 + 1, 0, none⟩ = some (.bool b) := hH.ok.cell 0
      have f4 : w4.frozen? ⟨w.heap.size + 1 + 1, 0, none⟩ = false := hH.ok.frozen 0
      have hz0 : w.heap.size < w4.heap.size := by have := hH.lt; omega
      have hz1 : w.heap.size + 1 + 1 < w4.heap.size := by have := hH.lt; omega
      clear hs
      have s286 : a.tmps[286]? = some (vs 5) := (hD.1 rfl).1
      have r5 : vs 5 = .bool true := (hD.1 rfl).2
      rw [r5] at s286
      clear r5
      have s290 : a.tmps[290]? = some (vs 9) := (hD.2.1 rfl).1
      have r9 : vs 9 = .bool (decide (((s.l.length : Nat) : Int) ≤ 253)) := (hD.2.1 rfl).2
      rw [r9] at s290
      clear r9
      clear hD hO hI0
      go_simp
      exact hK _ _ hC0 rfl rfl
    · refine duty_plain rfl fun vs a w4 hO hI0 hC0 hD K hK => ?_
      obtain ⟨⟨b, hH⟩, hO1⟩ := (show (∃ b, Head p w 2 206 b w4) ∧ w4.ownsRow B 5 1 u m xs from hC0)
      have cf : w4.cell? ⟨w.heap.size, 15, none⟩ = some (.slice s.A (s.l.length : Nat) s.c) := (hH.pk.cell 15).trans hs
      have d4 : w4.cell? ⟨w.heap.size + 1 + 1, 0, none⟩ = some (.bool b) := hH.ok.cell 0
      have f4 : w4.frozen? ⟨w.heap.size + 1 + 1, 0, none⟩ = false := hH.ok.frozen 0
      have hz0 : w.heap.size < w4.heap.size := by have := hH.lt; omega
      have hz1 : w.heap.size + 1 + 1 < w4.heap.size := by have := hH.lt; omega
      clear hs
      have s281 : a.tmps[281]? = some (vs 0) := (hD.1 rfl).1
      have r0 : vs 0 = u := (hD.1 rfl).2
      rw [r0] at s281
      clear r0
      clear hD hO hI0
      go_simp
      exact hK _ _ hC0 rfl rfl
    · refine duty_plain rfl fun vs a w4 hO hI0 hC0 hD K hK => ?_
      obtain ⟨⟨b, hH⟩, hO1⟩ := (show (∃ b, Head p w 2 206 b w4) ∧ w4.ownsRow B 5 1 u m xs from hC0)
      have cf : w4.cell? ⟨w.heap.size, 15, none⟩ = some (.slice s.A (s.l.length : Nat) s.c) := (hH.pk.cell 15).trans hs
      have d4 : w4.cell? ⟨w.heap.size + 1 + 1, 0, none⟩ = some (.bool b) := hH.ok.cell 0
      have f4 : w4.frozen? ⟨w.heap.size + 1 + 1, 0, none⟩ = false := hH.ok.frozen 0
      have hz0 : w.heap.size < w4.heap.size := by have := hH.lt; omega
      have hz1 : w.heap.size + 1 + 1 < w4.heap.size := by have := hH.lt; omega
      clear hs
      have s291 : a.tmps[291]? = some (vs 10) := (hD.1 rfl).1
      have r10 : vs 10 = .bool (decide (((s.l.length : Nat) : Int) ≤ 253)) := (hD.1 rfl).2
      rw [r10] at s291
      clear r10
      have e4 : a.tmps[4]? = some (.pointer (some ⟨w.heap.size + 1 + 1, 0, none⟩)) := (hO 4 (by kernel_rfl)).trans (hE.get 4 rfl)
      clear hD hO hI0
      go_simp
      exact hK undef _ ⟨⟨_, hH.setOk _⟩, own_setCell hO1 (fun e => by have := hne _ e; simp at this) _⟩ (hH.setOk _) trivial
  case hEnd =>
    intro vs a' w' hC hM hR2
    have r3 : vs 11 = u := hR2 11 (by decide) (by simp)
    exact hQ a' w' (Env.mk' (hM.size.trans hE.size) (hM.defers.trans hE.defers) ⟨(hM.old 1 (by kernel_rfl)).trans (hE.get 1 rfl), (hM.old 2 (by kernel_rfl)).trans (hE.get 2 rfl), (hM.slot 11 3 (by kernel_rfl)).trans (congrArg some r3), (hM.old 4 (by kernel_rfl)).trans (hE.get 4 rfl), trivial⟩) (hR2 12 (by decide) (by simp)) hC.2

set_option maxHeartbeats 1000000 in
set_option maxRecDepth 100000 in
theorem formR58_f {α : Type} (p : Pkt) (s : Sl α) (w w3 : World) (a : Act) (B m : Nat) (u : Value) (xs : List Value) (b : Bool) (hs : p.cells[15]? = some (.slice s.A (s.l.length : Nat) s.c)) (hG : ¬ 0 < s.l.length)
    (hE : Env 490 [(1, .pointer (some ⟨w.heap.size, 0, none⟩)), (2, .pointer (some ⟨w.heap.size + 1, 0, none⟩)), (4, .pointer (some ⟨w.heap.size + 1 + 1, 0, none⟩)), (6, u)] a) (hH : Head p w 2 206 b w3) (hown : w3.ownsRow B 5 1 u m xs) (hB : w.heap.size + 3 ≤ B) (Q : Exit → Act → World → Prop)
    (hQ : ∀ a' w', Env 490 [(1, .pointer (some ⟨w.heap.size, 0, none⟩)), (2, .pointer (some ⟨w.heap.size + 1, 0, none⟩)), (3, u), (4, .pointer (some ⟨w.heap.size + 1 + 1, 0, none⟩))] a' → Head p w 2 206 (false) w' → w'.ownsRow B 5 1 u m xs → Q .normal a' w') :
    (formR 58).wp Tryz.prog Q a w3 := by
  have hne : ∀ k, u.ownBlock = some k → w.heap.size + 1 + 1 < k := fun k hk => by have := (hown.lt k hk).1; omega
  conv => arg 2; whnf
  refine wp_region_mid (n := 490) [] (by kernel_rfl) (by kernel_rfl) (by kernel_rfl) (by kernel_rfl) hE.size
    [] (fun w' => True)
    (fun w' => (∃ b, Head p w 2 206 b w') ∧ w'.ownsRow B 5 1 u m xs)
    (fun i v w' => match i with
      | 0 => v = u
      | 1 => v = .pointer (some ⟨w.heap.size, 15, none⟩)
      | 2 => v = .slice s.A (s.l.length : Nat) s.c
      | 3 => v = .int .i64 (s.l.length : Nat)
      | 4 => v = .bool false
      | 5 => v = .bool false
      | 6 => v = undef
      | 7 => v = undef
      | 8 => v = undef
      | 9 => v = undef
      | 10 => v = .bool false
      | 11 => v = u
      | 12 => Head p w 2 206 (false) w'
      | _ => True)
    (fun i w1 w2 => match i with
      | 12 => True
      | _ => w2 = w1)
    (trivial) ?hC0 ?hKeep ?hKeepI ?hDuty ?hEnd
  case hC0 => exact ⟨⟨_, hH.drew⟩, own_drew hown⟩
  case hKeep =>
    intro i k v w1 w2 hne hnd hw hC0 hT hR
    match i, hT with
    | 12, hT =>
      match k, hR with
      | 12, _ => exact absurd rfl hne
      | 0, hR | 1, hR | 2, hR | 3, hR | 4, hR | 5, hR | 6, hR | 7, hR | 8, hR | 9, hR | 10, hR | 11, hR => exact hR
      | _ + 13, _ => trivial
    | 0, hT | 1, hT | 2, hT | 3, hT | 4, hT | 5, hT | 6, hT | 7, hT | 8, hT | 9, hT | 10, hT | 11, hT => subst hT; exact hR
    | _ + 13, hT => subst hT; exact hR
  case hKeepI =>
    exact fun _ _ _ _ _ _ h => h
  case hDuty =>
    refine ⟨?_, ?_, ?_, ?_, ?_, ?_, ?_, ?_, ?_, ?_, ?_, ?_, ?_, trivial⟩
    · refine duty_plain rfl fun vs a w4 hO hI0 hC0 hD K hK => ?_
      obtain ⟨⟨b, hH⟩, hO1⟩ := (show (∃ b, Head p w 2 206 b w4) ∧ w4.ownsRow B 5 1 u m xs from hC0)
      have cf : w4.cell? ⟨w.heap.size, 15, none⟩ = some (.slice s.A (s.l.length : Nat) s.c) := (hH.pk.cell 15).trans hs
      have d4 : w4.cell? ⟨w.heap.size + 1 + 1, 0, none⟩ = some (.bool b) := hH.ok.cell 0
      have f4 : w4.frozen? ⟨w.heap.size + 1 + 1, 0, none⟩ = false := hH.ok.frozen 0
      have hz0 : w.heap.size < w4.heap.size := by have := hH.lt; omega
      have hz1 : w.heap.size + 1 + 1 < w4.heap.size := by have := hH.lt; omega
      clear hs
      have e6 : a.tmps[6]? = some (u) := (hO 6 (by kernel_rfl)).trans (hE.get 6 rfl)
      clear hD hO hI0
      go_simp
      exact hK _ _ hC0 rfl rfl
    · refine duty_plain rfl fun vs a w4 hO hI0 hC0 hD K hK => ?_
      obtain ⟨⟨b, hH⟩, hO1⟩ := (show (∃ b, Head p w 2 206 b w4) ∧ w4.ownsRow B 5 1 u m xs from hC0)
      have cf : w4.cell? ⟨w.heap.size, 15, none⟩ = some (.slice s.A (s.l.length : Nat) s.c) := (hH.pk.cell 15).trans hs
      have d4 : w4.cell? ⟨w.heap.size + 1 + 1, 0, none⟩ = some (.bool b) := hH.ok.cell 0
      have f4 : w4.frozen? ⟨w.heap.size + 1 + 1, 0, none⟩ = false := hH.ok.frozen 0
      have hz0 : w.heap.size < w4.heap.size := by have := hH.lt; omega
      have hz1 : w.heap.size + 1 + 1 < w4.heap.size := by have := hH.lt; omega
      clear hs
      have e1 : a.tmps[1]? = some (.pointer (some ⟨w.heap.size, 0, none⟩)) := (hO 1 (by kernel_rfl)).trans (hE.get 1 rfl)
      clear hD hO hI0
      go_simp
      exact hK _ _ hC0 rfl rfl
    · refine duty_plain rfl fun vs a w4 hO hI0 hC0 hD K hK => ?_
      obtain ⟨⟨b, hH⟩, hO1⟩ := (show (∃ b, Head p w 2 206 b w4) ∧ w4.ownsRow B 5 1 u m xs from hC0)
      have cf : w4.cell? ⟨w.heap.size, 15, none⟩ = some (.slice s.A (s.l.length : Nat) s.c) := (hH.pk.cell 15).trans hs
      have d4 : w4.cell? ⟨w.heap.size + 1 + 1, 0, none⟩ = some (.bool b) := hH.ok.cell 0
      have f4 : w4.frozen? ⟨w.heap.size + 1 + 1, 0, none⟩ = false := hH.ok.frozen 0
      have hz0 : w.heap.size < w4.heap.size := by have := hH.lt; omega
      have hz1 : w.heap.size + 1 + 1 < w4.heap.size := by have := hH.lt; omega
      clear hs
      have s282 : a.tmps[282]? = some (vs 1) := (hD.1 rfl).1
      have r1 : vs 1 = .pointer (some ⟨w.heap.size, 15, none⟩) := (hD.1 rfl).2
      rw [r1] at s282
      clear r1
      clear hD hO hI0
      go_simp
      exact hK _ _ hC0 rfl rfl
    · refine duty_plain rfl fun vs a w4 hO hI0 hC0 hD K hK => ?_
      obtain ⟨⟨b, hH⟩, hO1⟩ := (show (∃ b, Head p w 2 206 b w4) ∧ w4.ownsRow B 5 1 u m xs from hC0)
      have cf : w4.cell? ⟨w.heap.size, 15, none⟩ = some (.slice s.A (s.l.length : Nat) s.c) := (hH.pk.cell 15).trans hs
      have d4 : w4.cell? ⟨w.heap.size + 1 + 1, 0, none⟩ = some (.bool b) := hH.ok.cell 0
      have f4 : w4.frozen? ⟨w.heap.size + 1 + 1, 0, none⟩ = false := hH.ok.frozen 0
      have hz0 : w.heap.size < w4.heap.size := by have := hH.lt; omega
      have hz1 : w.heap.size + 1 + 1 < w4.heap.size := by have := hH.lt; omega
      clear hs
      have s283 : a.tmps[283]? = some (vs 2) := (hD.1 rfl).1
      have r2 : vs 2 = .slice s.A (s.l.length : Nat) s.c := (hD.1 rfl).2
      rw [r2] at s283
      clear r2
      clear hD hO hI0
      go_simp
      exact hK _ _ hC0 rfl rfl
    · refine duty_plain rfl fun vs a w4 hO hI0 hC0 hD K hK => ?_
      obtain ⟨⟨b, hH⟩, hO1⟩ := (show (∃ b, Head p w 2 206 b w4) ∧ w4.ownsRow B 5 1 u m xs from hC0)
      have cf : w4.cell? ⟨w.heap.size, 15, none⟩ = some (.slice s.A (s.l.length : Nat) s.c) := (hH.pk.cell 15).trans hs
      have d4 : w4.cell? ⟨w.heap.size + 1 + 1, 0, none⟩ = some (.bool b) := hH.ok.cell 0
      have f4 : w4.frozen? ⟨w.heap.size + 1 + 1, 0, none⟩ = false := hH.ok.frozen 0
      have hz0 : w.heap.size < w4.heap.size := by have := hH.lt; omega
      have hz1 : w.heap.size + 1 + 1 < w4.heap.size := by have := hH.lt; omega
      clear hs
      have s284 : a.tmps[284]? = some (vs 3) := (hD.1 rfl).1
      have r3 : vs 3 = .int .i64 (s.l.length : Nat) := (hD.1 rfl).2
      rw [r3] at s284
      clear r3
      clear hD hO hI0
      go_simp
      exact hK _ _ hC0 rfl rfl
    · refine duty_plain rfl fun vs a w4 hO hI0 hC0 hD K hK => ?_
      obtain ⟨⟨b, hH⟩, hO1⟩ := (show (∃ b, Head p w 2 206 b w4) ∧ w4.ownsRow B 5 1 u m xs from hC0)
      have cf : w4.cell? ⟨w.heap.size, 15, none⟩ = some (.slice s.A (s.l.length : Nat) s.c) := (hH.pk.cell 15).trans hs
      have d4 : w4.cell? ⟨w.heap.size + 1 + 1, 0, none⟩ = some (.bool b) := hH.ok.cell 0
      have f4 : w4.frozen? ⟨w.heap.size + 1 + 1, 0, none⟩ = false := hH.ok.frozen 0
      have hz0 : w.heap.size < w4.heap.size := by have := hH.lt; omega
      have hz1 : w.heap.size + 1 + 1 < w4.heap.size := by have := hH.lt; omega
      clear hs
      have s285 : a.tmps[285]? = some (vs 4) := (hD.1 rfl).1
      have r4 : vs 4 = .bool false := (hD.1 rfl).2
      rw [r4] at s285
      clear r4
      clear hD hO hI0
      go_simp
      exact hK _ _ hC0 rfl rfl
    · refine duty_guarded 5 true 286 rfl rfl fun vs a w4 hO hI0 hC0 hD => ?_
      obtain ⟨⟨b, hH⟩, hO1⟩ := (show (∃ b, Head p w 2 206 b w4) ∧ w4.ownsRow B 5 1 u m xs from hC0)
      have cf : w4.cell? ⟨w.heap.size, 15, none⟩ = some (.slice s.A (s.l.length : Nat) s.c) := (hH.pk.cell 15).trans hs
      have d4 : w4.cell? ⟨w.heap.size + 1 + 1, 0, none⟩ = some (.bool b) := hH.ok.cell 0
      have f4 : w4.frozen? ⟨w.heap.size + 1 + 1, 0, none⟩ = false := hH.ok.frozen 0
      have hz0 : w.heap.size < w4.heap.size := by have := hH.lt; omega
      have hz1 : w.heap.size + 1 + 1 < w4.heap.size := by have := hH.lt; omega
      clear hs
      have s286 : a.tmps[286]? = some (vs 5) := (hD.1 rfl).1
      have r5 : vs 5 = .bool false := (hD.1 rfl).2
      rw [r5] at s286
      clear r5
      clear hD hO hI0
      refine ⟨_, s286, fun K hK => ?_⟩
      rw [if_neg (by decide)]
      exact hK undef _ hC0 rfl rfl
    · refine duty_guarded 5 true 286 rfl rfl fun vs a w4 hO hI0 hC0 hD => ?_
      obtain ⟨⟨b, hH⟩, hO1⟩ := (show (∃ b, Head p w 2 206 b w4) ∧ w4.ownsRow B 5 1 u m xs from hC0)
      have cf : w4.cell? ⟨w.heap.size, 15, none⟩ = some (.slice s.A (s.l.length : Nat) s.c) := (hH.pk.cell 15).trans hs
      have d4 : w4.cell? ⟨w.heap.size + 1 + 1, 0, none⟩ = some (.bool b) := hH.ok.cell 0
      have f4 : w4.frozen? ⟨w.heap.size + 1 + 1, 0, none⟩ = false := hH.ok.frozen 0
      have hz0 : w.heap.size < w4.heap.size := by have := hH.lt; omega
      have hz1 : w.heap.size + 1 + 1 < w4.heap.size := by have := hH.lt; omega
      clear hs
      have s286 : a.tmps[286]? = some (vs 5) := (hD.2.1 rfl).1
      have r5 : vs 5 = .bool false := (hD.2.1 rfl).2
      rw [r5] at s286
      clear r5
      clear hD hO hI0
      refine ⟨_, s286, fun K hK => ?_⟩
      rw [if_neg (by decide)]
      exact hK undef _ hC0 rfl rfl
    · refine duty_guarded 5 true 286 rfl rfl fun vs a w4 hO hI0 hC0 hD => ?_
      obtain ⟨⟨b, hH⟩, hO1⟩ := (show (∃ b, Head p w 2 206 b w4) ∧ w4.ownsRow B 5 1 u m xs from hC0)
      have cf : w4.cell? ⟨w.heap.size, 15, none⟩ = some (.slice s.A (s.l.length : Nat) s.c) := (hH.pk.cell 15).trans hs
      have d4 : w4.cell? ⟨w.heap.size + 1 + 1, 0, none⟩ = some (.bool b) := hH.ok.cell 0
      have f4 : w4.frozen? ⟨w.heap.size + 1 + 1, 0, none⟩ = false := hH.ok.frozen 0
      have hz0 : w.heap.size < w4.heap.size := by have := hH.lt; omega
      have hz1 : w.heap.size + 1 + 1 < w4.heap.size := by have := hH.lt; omega
      clear hs
      have s286 : a.tmps[286]? = some (vs 5) := (hD.2.1 rfl).1
      have r5 : vs 5 = .bool false := (hD.2.1 rfl).2
      rw [r5] at s286
      clear r5
      clear hD hO hI0
      refine ⟨_, s286, fun K hK => ?_⟩
      rw [if_neg (by decide)]
      exact hK undef _ hC0 rfl rfl
    · refine duty_guarded 5 true 286 rfl rfl fun vs a w4 hO hI0 hC0 hD => ?_
      obtain ⟨⟨b, hH⟩, hO1⟩ := (show (∃ b, Head p w 2 206 b w4) ∧ w4.ownsRow B 5 1 u m xs from hC0)
      have cf : w4.cell? ⟨w.heap.size, 15, none⟩ = some (.slice s.A (s.l.length : Nat) s.c) := (hH.pk.cell 15).trans hs
      have d4 : w4.cell? ⟨w.heap.size + 1 + 1, 0, none⟩ = some (.bool b) := hH.ok.cell 0
      have f4 : w4.frozen? ⟨w.heap.size + 1 + 1, 0, none⟩ = false := hH.ok.frozen 0
      have hz0 : w.heap.size < w4.heap.size := by have := hH.lt; omega
      have hz1 : w.heap.size + 1 + 1 < w4.heap.size := by have := hH.lt; omega
      clear hs
      have s286 : a.tmps[286]? = some (vs 5) := (hD.2.1 rfl).1
      have r5 : vs 5 = .bool false := (hD.2.1 rfl).2
      rw [r5] at s286
      clear r5
      clear hD hO hI0
      refine ⟨_, s286, fun K hK => ?_⟩
      rw [if_neg (by decide)]
      exact hK undef _ hC0 rfl rfl
    · refine duty_plain rfl fun vs a w4 hO hI0 hC0 hD K hK => ?_
      obtain ⟨⟨b, hH⟩, hO1⟩ := (show (∃ b, Head p w 2 206 b w4) ∧ w4.ownsRow B 5 1 u m xs from hC0)
      have cf : w4.cell? ⟨w.heap.size, 15, none⟩ = some (.slice s.A (s.l.length : Nat) s.c) := (hH.pk.cell 15).trans hs
      have d4 : w4.cell? ⟨w.heap.size + 1 + 1, 0, none⟩ = some (.bool b) := hH.ok.cell 0
      have f4 : w4.frozen? ⟨w.heap.size + 1 + 1, 0, none⟩ = false := hH.ok.frozen 0
      have hz0 : w.heap.size < w4.heap.size := by have := hH.lt; omega
      have hz1 : w.heap.size + 1 + 1 < w4.heap.size := by have := hH.lt; omega
      clear hs
      have s286 : a.tmps[286]? = some (vs 5) := (hD.1 rfl).1
      have r5 : vs 5 = .bool false := (hD.1 rfl).2
      rw [r5] at s286
      clear r5
      have s290 : a.tmps[290]? = some (vs 9) := (hD.2.1 rfl).1
      have r9 : vs 9 = undef := (hD.2.1 rfl).2
      rw [r9] at s290
      clear r9
      clear hD hO hI0
      go_simp
      exact hK _ _ hC0 rfl rfl
    · refine duty_plain rfl fun vs a w4 hO hI0 hC0 hD K hK => ?_
      obtain ⟨⟨b, hH⟩, hO1⟩ := (show (∃ b, Head p w 2 206 b w4) ∧ w4.ownsRow B 5 1 u m xs from hC0)
      have cf : w4.cell? ⟨w.heap.size, 15, none⟩ = some (.slice s.A (s.l.length : Nat) s.c) := (hH.pk.cell 15).trans hs
      have d4 : w4.cell? ⟨w.heap.size + 1 + 1, 0, none⟩ = some (.bool b) := hH.ok.cell 0
      have f4 : w4.frozen? ⟨w.heap.size + 1 + 1, 0, none⟩ = false := hH.ok.frozen 0
      have hz0 : w.heap.size < w4.heap.size := by have := hH.lt; omega
      have hz1 : w.heap.size + 1 + 1 < w4.heap.size := by have := hH.lt; omega
      clear hs
      have s281 : a.tmps[281]? = some (vs 0) := (hD.1 rfl).1
      have r0 : vs 0 = u := (hD.1 rfl).2
      rw [r0] at s281
      clear r0
      clear hD hO hI0
      go_simp
      exact hK _ _ hC0 rfl rfl
    · refine duty_plain rfl fun vs a w4 hO hI0 hC0 hD K hK => ?_
      obtain ⟨⟨b, hH⟩, hO1⟩ := (show (∃ b, Head p w 2 206 b w4) ∧ w4.ownsRow B 5 1 u m xs from hC0)
      have cf : w4.cell? ⟨w.heap.size, 15, none⟩ = some (.slice s.A (s.l.length : Nat) s.c) := (hH.pk.cell 15).trans hs
      have d4 : w4.cell? ⟨w.heap.size + 1 + 1, 0, none⟩ = some (.bool b) := hH.ok.cell 0
      have f4 : w4.frozen? ⟨w.heap.size + 1 + 1, 0, none⟩ = false := hH.ok.frozen 0
      have hz0 : w.heap.size < w4.heap.size := by have := hH.lt; omega
      have hz1 : w.heap.size + 1 + 1 < w4.heap.size := by have := hH.lt; omega
      clear hs
      have s291 : a.tmps[291]? = some (vs 10) := (hD.1 rfl).1
      have r10 : vs 10 = .bool false := (hD.1 rfl).2
      rw [r10] at s291
      clear r10
      have e4 : a.tmps[4]? = some (.pointer (some ⟨w.heap.size + 1 + 1, 0, none⟩)) := (hO 4 (by kernel_rfl)).trans (hE.get 4 rfl)
      clear hD hO hI0
      go_simp
      exact hK undef _ ⟨⟨_, hH.setOk _⟩, own_setCell hO1 (fun e => by have := hne _ e; simp at this) _⟩ (hH.setOk _) trivial
  case hEnd =>
    intro vs a' w' hC hM hR2
    have r3 : vs 11 = u := hR2 11 (by decide) (by simp)
    exact hQ a' w' (Env.mk' (hM.size.trans hE.size) (hM.defers.trans hE.defers) ⟨(hM.old 1 (by kernel_rfl)).trans (hE.get 1 rfl), (hM.old 2 (by kernel_rfl)).trans (hE.get 2 rfl), (hM.slot 11 3 (by kernel_rfl)).trans (congrArg some r3), (hM.old 4 (by kernel_rfl)).trans (hE.get 4 rfl), trivial⟩) (hR2 12 (by decide) (by simp)) hC.2

set_option maxHeartbeats 1000000 in
set_option maxRecDepth 100000 in
theorem formR62a (p : Pkt) (w w3 : World) (a : Act) (x : Nat) (y z q c t : Int) (v3 : Value)
    {A : Option Addr} {len c1 k : Nat} (hE : Env 490 [(1, .pointer (some ⟨w.heap.size, 0, none⟩)), (2, .pointer (some ⟨w.heap.size + 1, 0, none⟩)), (3, v3), (4, .pointer (some ⟨w.heap.size + 1 + 1, 0, none⟩)), (20, .pointer (some ⟨x, 0, none⟩)), (293, .slice A len c1), (294, .int .i64 (len : Nat)), (295, .int .i64 (k : Nat))] a) (hH : Head p w c t false w3) (hx : Blk w3 x 100 #[.int .u16 y, .int .u16 z, .int .u8 q]) (hxw : w.heap.size + 3 ≤ x) (Q : Exit → Act → World → Prop)
    (hQ : ∀ a', Env 490 [(1, .pointer (some ⟨w.heap.size, 0, none⟩)), (2, .pointer (some ⟨w.heap.size + 1, 0, none⟩)), (3, v3), (4, .pointer (some ⟨w.heap.size + 1 + 1, 0, none⟩)), (20, .pointer (some ⟨x, 0, none⟩)), (293, .slice A len c1), (294, .int .i64 (len : Nat)), (295, .int .i64 (k : Nat))] a' → Q .normal a' (w3.setCell ⟨w.heap.size + 1 + 1, 0, none⟩ (.bool (false)))) :
    (formR 62).wp Tryz.prog Q a w3 := by
  conv => arg 2; whnf
  have c0 : w3.cell? ⟨x, 0, none⟩ = some (.int .u16 y) := hx.cell 0
  have c1 : w3.cell? ⟨x, 1, none⟩ = some (.int .u16 z) := hx.cell 1
  have c2 : w3.cell? ⟨x, 2, none⟩ = some (.int .u8 q) := hx.cell 2
  have d4 : w3.cell? ⟨w.heap.size + 1 + 1, 0, none⟩ = some (.bool false) := hH.ok.cell 0
  have f4 : w3.frozen? ⟨w.heap.size + 1 + 1, 0, none⟩ = false := hH.ok.frozen 0
  have hz0 : x < w3.heap.size := hx.lt
  have hz1 : w.heap.size + 1 + 1 < w3.heap.size := by have := hH.lt; omega
  refine wp_region_lit ?_
  refine wpList_val hE 299 rfl rfl fun K hK => ?_
  have e4 := hE.get 4 rfl
  go_simp
  refine hK _ _ fun a601 hE601 => ?_
  clear hK K e4
  clear hE a
  refine wpList_val hE601 300 rfl rfl fun K hK => ?_
  have e299 := hE601.get 299 rfl
  go_simp
  refine hK _ _ fun a602 hE602 => ?_
  clear hK K e299
  clear hE601 a601
  refine wpList_gskip hE602 301 1 true 300 rfl rfl rfl rfl rfl fun a603 hE603 => ?_
  clear hE602 a602
  refine wpList_gskip hE603 302 1 true 300 rfl rfl rfl rfl rfl fun a604 hE604 => ?_
  clear hE603 a603
  refine wpList_gskip hE604 303 1 true 300 rfl rfl rfl rfl rfl fun a605 hE605 => ?_
  clear hE604 a604
  refine wpList_val hE605 304 rfl rfl fun K hK => ?_
  have e300 := hE605.get 300 rfl
  have e303 := hE605.get 303 rfl
  go_simp
  refine hK _ _ fun a606 hE606 => ?_
  clear hK K e300 e303
  clear hE605 a605
  refine wpList_val hE606 305 rfl rfl fun K hK => ?_
  have e304 := hE606.get 304 rfl
  go_simp
  refine hK _ _ fun a607 hE607 => ?_
  clear hK K e304
  clear hE606 a606
  refine wpList_gskip hE607 306 6 true 305 rfl rfl rfl rfl rfl fun a608 hE608 => ?_
  clear hE607 a607
  refine wpList_gskip hE608 307 6 true 305 rfl rfl rfl rfl rfl fun a609 hE609 => ?_
  clear hE608 a608
  refine wpList_gskip hE609 308 6 true 305 rfl rfl rfl rfl rfl fun a610 hE610 => ?_
  clear hE609 a609
  refine wpList_val hE610 309 rfl rfl fun K hK => ?_
  have e305 := hE610.get 305 rfl
  have e308 := hE610.get 308 rfl
  go_simp
  refine hK _ _ fun a611 hE611 => ?_
  clear hK K e305 e308
  clear hE610 a610
  refine wpList_val hE611 310 rfl rfl fun K hK => ?_
  have e309 := hE611.get 309 rfl
  go_simp
  refine hK _ _ fun a612 hE612 => ?_
  clear hK K e309
  clear hE611 a611
  refine wpList_gskip hE612 311 11 true 310 rfl rfl rfl rfl rfl fun a613 hE613 => ?_
  clear hE612 a612
  refine wpList_gskip hE613 312 11 true 310 rfl rfl rfl rfl rfl fun a614 hE614 => ?_
  clear hE613 a613
  refine wpList_gskip hE614 313 11 true 310 rfl rfl rfl rfl rfl fun a615 hE615 => ?_
  clear hE614 a614
  refine wpList_val hE615 314 rfl rfl fun K hK => ?_
  have e310 := hE615.get 310 rfl
  have e313 := hE615.get 313 rfl
  go_simp
  refine hK _ _ fun a616 hE616 => ?_
  clear hK K e310 e313
  clear hE615 a615
  refine wpList_none rfl fun K hK => ?_
  have e4 := hE616.get 4 rfl
  have e314 := hE616.get 314 rfl
  go_simp
  refine hK undef _ ?_
  clear hK K e4 e314
  refine wpList_nil ?_
  exact hQ _ (hE616.keep ⟨hE616.get 1 rfl, hE616.get 2 rfl, hE616.get 3 rfl, hE616.get 4 rfl, hE616.get 20 rfl, hE616.get 293 rfl, hE616.get 294 rfl, hE616.get 295 rfl, trivial⟩)

set_option maxHeartbeats 1000000 in
set_option maxRecDepth 100000 in
theorem formR62b (p : Pkt) (w w3 : World) (a : Act) (x : Nat) (y z q c t : Int) (v3 : Value) (h1 : ¬ y < 8192)
    {A : Option Addr} {len c1 k : Nat} (hE : Env 490 [(1, .pointer (some ⟨w.heap.size, 0, none⟩)), (2, .pointer (some ⟨w.heap.size + 1, 0, none⟩)), (3, v3), (4, .pointer (some ⟨w.heap.size + 1 + 1, 0, none⟩)), (20, .pointer (some ⟨x, 0, none⟩)), (293, .slice A len c1), (294, .int .i64 (len : Nat)), (295, .int .i64 (k : Nat))] a) (hH : Head p w c t true w3) (hx : Blk w3 x 100 #[.int .u16 y, .int .u16 z, .int .u8 q]) (hxw : w.heap.size + 3 ≤ x) (Q : Exit → Act → World → Prop)
    (hQ : ∀ a', Env 490 [(1, .pointer (some ⟨w.heap.size, 0, none⟩)), (2, .pointer (some ⟨w.heap.size + 1, 0, none⟩)), (3, v3), (4, .pointer (some ⟨w.heap.size + 1 + 1, 0, none⟩)), (20, .pointer (some ⟨x, 0, none⟩)), (293, .slice A len c1), (294, .int .i64 (len : Nat)), (295, .int .i64 (k : Nat))] a' → Q .normal a' (w3.setCell ⟨w.heap.size + 1 + 1, 0, none⟩ (.bool (false)))) :
    (formR 62).wp Tryz.prog Q a w3 := by
  conv => arg 2; whnf
  have c0 : w3.cell? ⟨x, 0, none⟩ = some (.int .u16 y) := hx.cell 0
  have c1 : w3.cell? ⟨x, 1, none⟩ = some (.int .u16 z) := hx.cell 1
  have c2 : w3.cell? ⟨x, 2, none⟩ = some (.int .u8 q) := hx.cell 2
  have d4 : w3.cell? ⟨w.heap.size + 1 + 1, 0, none⟩ = some (.bool true) := hH.ok.cell 0
  have f4 : w3.frozen? ⟨w.heap.size + 1 + 1, 0, none⟩ = false := hH.ok.frozen 0
  have hz0 : x < w3.heap.size := hx.lt
  have hz1 : w.heap.size + 1 + 1 < w3.heap.size := by have := hH.lt; omega
  refine wp_region_lit ?_
  refine wpList_val hE 299 rfl rfl fun K hK => ?_
  have e4 := hE.get 4 rfl
  go_simp
  refine hK _ _ fun a601 hE601 => ?_
  clear hK K e4
  clear hE a
  refine wpList_val hE601 300 rfl rfl fun K hK => ?_
  have e299 := hE601.get 299 rfl
  go_simp
  refine hK _ _ fun a602 hE602 => ?_
  clear hK K e299
  clear hE601 a601
  refine wpList_gval hE602 301 1 true 300 rfl rfl rfl rfl fun K hK => ?_
  have e20 := hE602.get 20 rfl
  go_simp
  refine hK _ _ fun a603 hE603 => ?_
  clear hK K e20
  clear hE602 a602
  refine wpList_gval hE603 302 1 true 300 rfl rfl rfl rfl fun K hK => ?_
  have e301 := hE603.get 301 rfl
  go_simp
  refine hK _ _ fun a604 hE604 => ?_
  clear hK K e301
  clear hE603 a603
  refine wpList_gval hE604 303 1 true 300 rfl rfl rfl rfl fun K hK => ?_
  have e302 := hE604.get 302 rfl
  go_simp
  refine hK _ _ fun a605 hE605 => ?_
  clear hK K e302
  clear hE604 a604
  refine wpList_val hE605 304 rfl rfl fun K hK => ?_
  have e300 := hE605.get 300 rfl
  have e303 := hE605.get 303 rfl
  go_simp
  refine hK _ _ fun a606 hE606 => ?_
  clear hK K e300 e303
  clear hE605 a605
  refine wpList_val hE606 305 rfl rfl fun K hK => ?_
  have e304 := hE606.get 304 rfl
  go_simp
  refine hK _ _ fun a607 hE607 => ?_
  clear hK K e304
  clear hE606 a606
  refine wpList_gskip hE607 306 6 true 305 rfl rfl rfl rfl rfl fun a608 hE608 => ?_
  clear hE607 a607
  refine wpList_gskip hE608 307 6 true 305 rfl rfl rfl rfl rfl fun a609 hE609 => ?_
  clear hE608 a608
  refine wpList_gskip hE609 308 6 true 305 rfl rfl rfl rfl rfl fun a610 hE610 => ?_
  clear hE609 a609
  refine wpList_val hE610 309 rfl rfl fun K hK => ?_
  have e305 := hE610.get 305 rfl
  have e308 := hE610.get 308 rfl
  go_simp
  refine hK _ _ fun a611 hE611 => ?_
  clear hK K e305 e308
  clear hE610 a610
  refine wpList_val hE611 310 rfl rfl fun K hK => ?_
  have e309 := hE611.get 309 rfl
  go_simp
  refine hK _ _ fun a612 hE612 => ?_
  clear hK K e309
  clear hE611 a611
  refine wpList_gskip hE612 311 11 true 310 rfl rfl rfl rfl rfl fun a613 hE613 => ?_
  clear hE612 a612
  refine wpList_gskip hE613 312 11 true 310 rfl rfl rfl rfl rfl fun a614 hE614 => ?_
  clear hE613 a613
  refine wpList_gskip hE614 313 11 true 310 rfl rfl rfl rfl rfl fun a615 hE615 => ?_
  clear hE614 a614
  refine wpList_val hE615 314 rfl rfl fun K hK => ?_
  have e310 := hE615.get 310 rfl
  have e313 := hE615.get 313 rfl
  go_simp
  refine hK _ _ fun a616 hE616 => ?_
  clear hK K e310 e313
  clear hE615 a615
  refine wpList_none rfl fun K hK => ?_
  have e4 := hE616.get 4 rfl
  have e314 := hE616.get 314 rfl
  go_simp
  refine hK undef _ ?_
  clear hK K e4 e314
  refine wpList_nil ?_
  exact hQ _ (hE616.keep ⟨hE616.get 1 rfl, hE616.get 2 rfl, hE616.get 3 rfl, hE616.get 4 rfl, hE616.get 20 rfl, hE616.get 293 rfl, hE616.get 294 rfl, hE616.get 295 rfl, trivial⟩)

set_option maxHeartbeats 1000000 in
set_option maxRecDepth 100000 in
theorem formR62c (p : Pkt) (w w3 : World) (a : Act) (x : Nat) (y z q c t : Int) (v3 : Value) (h1 : y < 8192) (h2 : ¬ z < 8192)
    {A : Option Addr} {len c1 k : Nat} (hE : Env 490 [(1, .pointer (some ⟨w.heap.size, 0, none⟩)), (2, .pointer (some ⟨w.heap.size + 1, 0, none⟩)), (3, v3), (4, .pointer (some ⟨w.heap.size + 1 + 1, 0, none⟩)), (20, .pointer (some ⟨x, 0, none⟩)), (293, .slice A len c1), (294, .int .i64 (len : Nat)), (295, .int .i64 (k : Nat))] a) (hH : Head p w c t true w3) (hx : Blk w3 x 100 #[.int .u16 y, .int .u16 z, .int .u8 q]) (hxw : w.heap.size + 3 ≤ x) (Q : Exit → Act → World → Prop)
    (hQ : ∀ a', Env 490 [(1, .pointer (some ⟨w.heap.size, 0, none⟩)), (2, .pointer (some ⟨w.heap.size + 1, 0, none⟩)), (3, v3), (4, .pointer (some ⟨w.heap.size + 1 + 1, 0, none⟩)), (20, .pointer (some ⟨x, 0, none⟩)), (293, .slice A len c1), (294, .int .i64 (len : Nat)), (295, .int .i64 (k : Nat))] a' → Q .normal a' (w3.setCell ⟨w.heap.size + 1 + 1, 0, none⟩ (.bool (false)))) :
    (formR 62).wp Tryz.prog Q a w3 := by
  conv => arg 2; whnf
  have c0 : w3.cell? ⟨x, 0, none⟩ = some (.int .u16 y) := hx.cell 0
  have c1 : w3.cell? ⟨x, 1, none⟩ = some (.int .u16 z) := hx.cell 1
  have c2 : w3.cell? ⟨x, 2, none⟩ = some (.int .u8 q) := hx.cell 2
  have d4 : w3.cell? ⟨w.heap.size + 1 + 1, 0, none⟩ = some (.bool true) := hH.ok.cell 0
  have f4 : w3.frozen? ⟨w.heap.size + 1 + 1, 0, none⟩ = false := hH.ok.frozen 0
  have hz0 : x < w3.heap.size := hx.lt
  have hz1 : w.heap.size + 1 + 1 < w3.heap.size := by have := hH.lt; omega
  refine wp_region_lit ?_
  refine wpList_val hE 299 rfl rfl fun K hK => ?_
  have e4 := hE.get 4 rfl
  go_simp
  refine hK _ _ fun a601 hE601 => ?_
  clear hK K e4
  clear hE a
  refine wpList_val hE601 300 rfl rfl fun K hK => ?_
  have e299 := hE601.get 299 rfl
  go_simp
  refine hK _ _ fun a602 hE602 => ?_
  clear hK K e299
  clear hE601 a601
  refine wpList_gval hE602 301 1 true 300 rfl rfl rfl rfl fun K hK => ?_
  have e20 := hE602.get 20 rfl
  go_simp
  refine hK _ _ fun a603 hE603 => ?_
  clear hK K e20
  clear hE602 a602
  refine wpList_gval hE603 302 1 true 300 rfl rfl rfl rfl fun K hK => ?_
  have e301 := hE603.get 301 rfl
  go_simp
  refine hK _ _ fun a604 hE604 => ?_
  clear hK K e301
  clear hE603 a603
  refine wpList_gval hE604 303 1 true 300 rfl rfl rfl rfl fun K hK => ?_
  have e302 := hE604.get 302 rfl
  go_simp
  refine hK _ _ fun a605 hE605 => ?_
  clear hK K e302
  clear hE604 a604
  refine wpList_val hE605 304 rfl rfl fun K hK => ?_
  have e300 := hE605.get 300 rfl
  have e303 := hE605.get 303 rfl
  go_simp
  refine hK _ _ fun a606 hE606 => ?_
  clear hK K e300 e303
  clear hE605 a605
  refine wpList_val hE606 305 rfl rfl fun K hK => ?_
  have e304 := hE606.get 304 rfl
  go_simp
  refine hK _ _ fun a607 hE607 => ?_
  clear hK K e304
  clear hE606 a606
  refine wpList_gval hE607 306 6 true 305 rfl rfl rfl rfl fun K hK => ?_
  have e20 := hE607.get 20 rfl
  go_simp
  refine hK _ _ fun a608 hE608 => ?_
  clear hK K e20
  clear hE607 a607
  refine wpList_gval hE608 307 6 true 305 rfl rfl rfl rfl fun K hK => ?_
  have e306 := hE608.get 306 rfl
  go_simp
  refine hK _ _ fun a609 hE609 => ?_
  clear hK K e306
  clear hE608 a608
  refine wpList_gval hE609 308 6 true 305 rfl rfl rfl rfl fun K hK => ?_
  have e307 := hE609.get 307 rfl
  go_simp
  refine hK _ _ fun a610 hE610 => ?_
  clear hK K e307
  clear hE609 a609
  refine wpList_val hE610 309 rfl rfl fun K hK => ?_
  have e305 := hE610.get 305 rfl
  have e308 := hE610.get 308 rfl
  go_simp
  refine hK _ _ fun a611 hE611 => ?_
  clear hK K e305 e308
  clear hE610 a610
  refine wpList_val hE611 310 rfl rfl fun K hK => ?_
  have e309 := hE611.get 309 rfl
  go_simp
  refine hK _ _ fun a612 hE612 => ?_
  clear hK K e309
  clear hE611 a611
  refine wpList_gskip hE612 311 11 true 310 rfl rfl rfl rfl rfl fun a613 hE613 => ?_
  clear hE612 a612
  refine wpList_gskip hE613 312 11 true 310 rfl rfl rfl rfl rfl fun a614 hE614 => ?_
  clear hE613 a613
  refine wpList_gskip hE614 313 11 true 310 rfl rfl rfl rfl rfl fun a615 hE615 => ?_
  clear hE614 a614
  refine wpList_val hE615 314 rfl rfl fun K hK => ?_
  have e310 := hE615.get 310 rfl
  have e313 := hE615.get 313 rfl
  go_simp
  refine hK _ _ fun a616 hE616 => ?_
  clear hK K e310 e313
  clear hE615 a615
  refine wpList_none rfl fun K hK => ?_
  have e4 := hE616.get 4 rfl
  have e314 := hE616.get 314 rfl
  go_simp
  refine hK undef _ ?_
  clear hK K e4 e314
  refine wpList_nil ?_
  exact hQ _ (hE616.keep ⟨hE616.get 1 rfl, hE616.get 2 rfl, hE616.get 3 rfl, hE616.get 4 rfl, hE616.get 20 rfl, hE616.get 293 rfl, hE616.get 294 rfl, hE616.get 295 rfl, trivial⟩)

set_option maxHeartbeats 1000000 in
set_option maxRecDepth 100000 in
theorem formR62d (p : Pkt) (w w3 : World) (a : Act) (x : Nat) (y z q c t : Int) (v3 : Value) (h1 : y < 8192) (h2 : z < 8192)
    {A : Option Addr} {len c1 k : Nat} (hE : Env 490 [(1, .pointer (some ⟨w.heap.size, 0, none⟩)), (2, .pointer (some ⟨w.heap.size + 1, 0, none⟩)), (3, v3), (4, .pointer (some ⟨w.heap.size + 1 + 1, 0, none⟩)), (20, .pointer (some ⟨x, 0, none⟩)), (293, .slice A len c1), (294, .int .i64 (len : Nat)), (295, .int .i64 (k : Nat))] a) (hH : Head p w c t true w3) (hx : Blk w3 x 100 #[.int .u16 y, .int .u16 z, .int .u8 q]) (hxw : w.heap.size + 3 ≤ x) (Q : Exit → Act → World → Prop)
    (hQ : ∀ a', Env 490 [(1, .pointer (some ⟨w.heap.size, 0, none⟩)), (2, .pointer (some ⟨w.heap.size + 1, 0, none⟩)), (3, v3), (4, .pointer (some ⟨w.heap.size + 1 + 1, 0, none⟩)), (20, .pointer (some ⟨x, 0, none⟩)), (293, .slice A len c1), (294, .int .i64 (len : Nat)), (295, .int .i64 (k : Nat))] a' → Q .normal a' (w3.setCell ⟨w.heap.size + 1 + 1, 0, none⟩ (.bool (decide (q < 64))))) :
    (formR 62).wp Tryz.prog Q a w3 := by
  conv => arg 2; whnf
  have c0 : w3.cell? ⟨x, 0, none⟩ = some (.int .u16 y) := hx.cell 0
  have c1 : w3.cell? ⟨x, 1, none⟩ = some (.int .u16 z) := hx.cell 1
  have c2 : w3.cell? ⟨x, 2, none⟩ = some (.int .u8 q) := hx.cell 2
  have d4 : w3.cell? ⟨w.heap.size + 1 + 1, 0, none⟩ = some (.bool true) := hH.ok.cell 0
  have f4 : w3.frozen? ⟨w.heap.size + 1 + 1, 0, none⟩ = false := hH.ok.frozen 0
  have hz0 : x < w3.heap.size := hx.lt
  have hz1 : w.heap.size + 1 + 1 < w3.heap.size := by have := hH.lt; omega
  refine wp_region_lit ?_
  refine wpList_val hE 299 rfl rfl fun K hK => ?_
  have e4 := hE.get 4 rfl
  go_simp
  refine hK _ _ fun a601 hE601 => ?_
  clear hK K e4
  clear hE a
  refine wpList_val hE601 300 rfl rfl fun K hK => ?_
  have e299 := hE601.get 299 rfl
  go_simp
  refine hK _ _ fun a602 hE602 => ?_
  clear hK K e299
  clear hE601 a601
  refine wpList_gval hE602 301 1 true 300 rfl rfl rfl rfl fun K hK => ?_
  have e20 := hE602.get 20 rfl
  go_simp
  refine hK _ _ fun a603 hE603 => ?_
  clear hK K e20
  clear hE602 a602
  refine wpList_gval hE603 302 1 true 300 rfl rfl rfl rfl fun K hK => ?_
  have e301 := hE603.get 301 rfl
  go_simp
  refine hK _ _ fun a604 hE604 => ?_
  clear hK K e301
  clear hE603 a603
  refine wpList_gval hE604 303 1 true 300 rfl rfl rfl rfl fun K hK => ?_
  have e302 := hE604.get 302 rfl
  go_simp
  refine hK _ _ fun a605 hE605 => ?_
  clear hK K e302
  clear hE604 a604
  refine wpList_val hE605 304 rfl rfl fun K hK => ?_
  have e300 := hE605.get 300 rfl
  have e303 := hE605.get 303 rfl
  go_simp
  refine hK _ _ fun a606 hE606 => ?_
  clear hK K e300 e303
  clear hE605 a605
  refine wpList_val hE606 305 rfl rfl fun K hK => ?_
  have e304 := hE606.get 304 rfl
  go_simp
  refine hK _ _ fun a607 hE607 => ?_
  clear hK K e304
  clear hE606 a606
  refine wpList_gval hE607 306 6 true 305 rfl rfl rfl rfl fun K hK => ?_
  have e20 := hE607.get 20 rfl
  go_simp
  refine hK _ _ fun a608 hE608 => ?_
  clear hK K e20
  clear hE607 a607
  refine wpList_gval hE608 307 6 true 305 rfl rfl rfl rfl fun K hK => ?_
  have e306 := hE608.get 306 rfl
  go_simp
  refine hK _ _ fun a609 hE609 => ?_
  clear hK K e306
  clear hE608 a608
  refine wpList_gval hE609 308 6 true 305 rfl rfl rfl rfl fun K hK => ?_
  have e307 := hE609.get 307 rfl
  go_simp
  refine hK _ _ fun a610 hE610 => ?_
  clear hK K e307
  clear hE609 a609
  refine wpList_val hE610 309 rfl rfl fun K hK => ?_
  have e305 := hE610.get 305 rfl
  have e308 := hE610.get 308 rfl
  go_simp
  refine hK _ _ fun a611 hE611 => ?_
  clear hK K e305 e308
  clear hE610 a610
  refine wpList_val hE611 310 rfl rfl fun K hK => ?_
  have e309 := hE611.get 309 rfl
  go_simp
  refine hK _ _ fun a612 hE612 => ?_
  clear hK K e309
  clear hE611 a611
  refine wpList_gval hE612 311 11 true 310 rfl rfl rfl rfl fun K hK => ?_
  have e20 := hE612.get 20 rfl
  go_simp
  refine hK _ _ fun a613 hE613 => ?_
  clear hK K e20
  clear hE612 a612
  refine wpList_gval hE613 312 11 true 310 rfl rfl rfl rfl fun K hK => ?_
  have e311 := hE613.get 311 rfl
  go_simp
  refine hK _ _ fun a614 hE614 => ?_
  clear hK K e311
  clear hE613 a613
  refine wpList_gval hE614 313 11 true 310 rfl rfl rfl rfl fun K hK => ?_
  have e312 := hE614.get 312 rfl
  go_simp
  refine hK _ _ fun a615 hE615 => ?_
  clear hK K e312
  clear hE614 a614
  refine wpList_val hE615 314 rfl rfl fun K hK => ?_
  have e310 := hE615.get 310 rfl
  have e313 := hE615.get 313 rfl
  go_simp
  refine hK _ _ fun a616 hE616 => ?_
  clear hK K e310 e313
  clear hE615 a615
  refine wpList_none rfl fun K hK => ?_
  have e4 := hE616.get 4 rfl
  have e314 := hE616.get 314 rfl
  go_simp
  refine hK undef _ ?_
  clear hK K e4 e314
  refine wpList_nil ?_
  exact hQ _ (hE616.keep ⟨hE616.get 1 rfl, hE616.get 2 rfl, hE616.get 3 rfl, hE616.get 4 rfl, hE616.get 20 rfl, hE616.get 293 rfl, hE616.get 294 rfl, hE616.get 295 rfl, trivial⟩)

set_option maxHeartbeats 1000000 in
set_option maxRecDepth 100000 in
theorem formR63 (p : Pkt) (w w3 : World) (a : Act) (x g m cap : Nat) (bs : List Int) (y z q c t : Int) (b : Bool) (hy0 : 0 ≤ y) (hy1 : y < 65536) (hz0 : 0 ≤ z) (hz1 : z < 65536) (hq0 : 0 ≤ q) (hq1 : q < 256) (hm : m ≤ 70368744177000)
    {A : Option Addr} {len c1 k : Nat} (hE : Env 490 [(1, .pointer (some ⟨w.heap.size, 0, none⟩)), (2, .pointer (some ⟨w.heap.size + 1, 0, none⟩)), (3, .slice (some ⟨g, 0, none⟩) m cap), (4, .pointer (some ⟨w.heap.size + 1 + 1, 0, none⟩)), (20, .pointer (some ⟨x, 0, none⟩)), (293, .slice A len c1), (294, .int .i64 (len : Nat)), (295, .int .i64 (k : Nat))] a) (hH : Head p w c t b w3) (hx : Blk w3 x 100 #[.int .u16 y, .int .u16 z, .int .u8 q]) (hown : w3.ownsRow (w.heap.size + 3) 5 1 (.slice (some ⟨g, 0, none⟩) m cap) m (u8s bs)) (Q : Exit → Act → World → Prop)
    (hQ : ∀ a' w' g' cap', Env 490 [(1, .pointer (some ⟨w.heap.size, 0, none⟩)), (2, .pointer (some ⟨w.heap.size + 1, 0, none⟩)), (3, .slice (some ⟨g', 0, none⟩) (m + 4) cap'), (4, .pointer (some ⟨w.heap.size + 1 + 1, 0, none⟩)), (293, .slice A len c1), (294, .int .i64 (len : Nat)), (295, .int .i64 (k : Nat))] a' → Head p w c t b w' → w'.ownsRow (w.heap.size + 3) 5 1 (.slice (some ⟨g', 0, none⟩) (m + 4) cap') (m + 4) (u8s (bs ++ be32 (slcW ⟨y, z, q⟩))) → Q .normal a' w') :
    (formR 63).wp Tryz.prog Q a w3 := by
  conv => arg 2; whnf
  have c0 : w3.cell? ⟨x, 0, none⟩ = some (.int .u16 y) := hx.cell 0
  have c1 : w3.cell? ⟨x, 1, none⟩ = some (.int .u16 z) := hx.cell 1
  have c2 : w3.cell? ⟨x, 2, none⟩ = some (.int .u8 q) := hx.cell 2
  have hzx : x < w3.heap.size := hx.lt
  have hS := slcW_bd ⟨y, z, q⟩
  refine wp_region_lit ?_
  refine wpList_val hE 315 rfl rfl fun K hK => ?_
  have e3 := hE.get 3 rfl
  go_simp
  refine hK _ _ fun a601 hE601 => ?_
  clear hK K e3
  clear hE a
  refine wpList_val hE601 316 rfl rfl fun K hK => ?_
  have e20 := hE601.get 20 rfl
  go_simp
  refine hK _ _ fun a602 hE602 => ?_
  clear hK K e20
  clear hE601 a601
  refine wpList_val hE602 317 rfl rfl fun K hK => ?_
  have e316 := hE602.get 316 rfl
  go_simp
  refine hK _ _ fun a603 hE603 => ?_
  clear hK K e316
  clear hE602 a602
  refine wpList_val hE603 318 rfl rfl fun K hK => ?_
  have e317 := hE603.get 317 rfl
  go_simp
  refine hK _ _ fun a604 hE604 => ?_
  clear hK K e317
  clear hE603 a603
  refine wpList_val hE604 319 rfl rfl fun K hK => ?_
  have e318 := hE604.get 318 rfl
  go_simp
  refine hK _ _ fun a605 hE605 => ?_
  clear hK K e318
  clear hE604 a604
  refine wpList_val hE605 320 rfl rfl fun K hK => ?_
  have e20 := hE605.get 20 rfl
  go_simp
  refine hK _ _ fun a606 hE606 => ?_
  clear hK K e20
  clear hE605 a605
  refine wpList_val hE606 321 rfl rfl fun K hK => ?_
  have e320 := hE606.get 320 rfl
  go_simp
  refine hK _ _ fun a607 hE607 => ?_
  clear hK K e320
  clear hE606 a606
  refine wpList_val hE607 322 rfl rfl fun K hK => ?_
  have e321 := hE607.get 321 rfl
  go_simp
  refine hK _ _ fun a608 hE608 => ?_
  clear hK K e321
  clear hE607 a607
  refine wpList_val hE608 323 rfl rfl fun K hK => ?_
  have e322 := hE608.get 322 rfl
  go_simp
  refine hK _ _ fun a609 hE609 => ?_
  clear hK K e322
  clear hE608 a608
  refine wpList_val hE609 324 rfl rfl fun K hK => ?_
  have e319 := hE609.get 319 rfl
  have e323 := hE609.get 323 rfl
  go_simp
  refine hK _ _ fun a610 hE610 => ?_
  clear hK K e319 e323
  clear hE609 a609
  refine wpList_val hE610 325 rfl rfl fun K hK => ?_
  have e20 := hE610.get 20 rfl
  go_simp
  refine hK _ _ fun a611 hE611 => ?_
  clear hK K e20
  clear hE610 a610
  refine wpList_val hE611 326 rfl rfl fun K hK => ?_
  have e325 := hE611.get 325 rfl
  go_simp
  refine hK _ _ fun a612 hE612 => ?_
  clear hK K e325
  clear hE611 a611
  refine wpList_val hE612 327 rfl rfl fun K hK => ?_
  have e326 := hE612.get 326 rfl
  go_simp
  refine hK _ _ fun a613 hE613 => ?_
  clear hK K e326
  clear hE612 a612
  refine wpList_val hE613 328 rfl rfl fun K hK => ?_
  have e324 := hE613.get 324 rfl
  have e327 := hE613.get 327 rfl
  go_simp
  refine hK _ _ fun a614 hE614 => ?_
  clear hK K e324 e327
  clear hE613 a613
  refine wpList_val hE614 329 rfl rfl fun K hK => ?_
  have e315 := hE614.get 315 rfl
  have e328 := hE614.get 328 rfl
  go_simp
  refine (p32_any (w.heap.size + 3) _ m bs (slcW ⟨y, z, q⟩) _ hown hH.lt (by omega) hS.1 hS.2).mono ?_
  rintro e wa ⟨ga, capa, rfl, howna, hga, hata⟩
  refine hK _ _ fun a615 hE615 => ?_
  clear hK K e315 e328
  clear hE614 a614
  have hH2 := hH.grown hga fun k hk => (hown.lt k hk).1
  clear c0 c1 c2 hzx
  refine wpList_val hE615 3 rfl rfl fun K hK => ?_
  have e329 := hE615.get 329 rfl
  go_simp
  refine hK _ _ fun a616 hE616 => ?_
  clear hK K e329
  clear hE615 a615
  refine wpList_nil ?_
  exact hQ _ wa ga capa (hE616.keep ⟨hE616.get 1 rfl, hE616.get 2 rfl, hE616.get 3 rfl, hE616.get 4 rfl, hE616.get 293 rfl, hE616.get 294 rfl, hE616.get 295 rfl, trivial⟩) hH2 howna

set_option maxHeartbeats 4000000 in
set_option maxRecDepth 100000 in
theorem form10_rest (p : Pkt) (w w1 : World) (a1 : Act) (A : Option Addr) (c1 : Nat) (l : List Slc) (g cap : Nat) (b : Bool) (hs : p.cells[15]? = some (.slice A (l.length : Nat) c1)) (hr : Reads w w.heap.size 3 A l.length (l.flatMap Slc.cells)) (hn : l.length ≤ 2147483647)
    (hl : ∀ x ∈ l, 0 ≤ x.first ∧ x.first < 65536 ∧ 0 ≤ x.number ∧ x.number < 65536 ∧ 0 ≤ x.pic ∧ x.pic < 256) (hE1 : Env 490 [(1, .pointer (some ⟨w.heap.size, 0, none⟩)), (2, .pointer (some ⟨w.heap.size + 1, 0, none⟩)), (3, .slice (some ⟨g, 0, none⟩) 8 cap), (4, .pointer (some ⟨w.heap.size + 1 + 1, 0, none⟩))] a1) (hH1 : Head p w 2 206 b w1) (hown : w1.ownsRow (w.heap.size + 3) 5 1 (.slice (some ⟨g, 0, none⟩) 8 cap) 8 (u8s (be32 p.sender ++ be32 p.media))) (Q : Exit → Act → World → Prop)
    (hQ : ∀ a' w' g' cap' m, m = 8 + 4 * l.length → Env 490 [(1, .pointer (some ⟨w.heap.size, 0, none⟩)), (2, .pointer (some ⟨w.heap.size + 1, 0, none⟩)), (3, .slice (some ⟨g', 0, none⟩) m cap'), (4, .pointer (some ⟨w.heap.size + 1 + 1, 0, none⟩))] a' → Head p w 2 206 (b && l.all slcOk) w' → w'.ownsRow (w.heap.size + 3) 5 1 (.slice (some ⟨g', 0, none⟩) m cap') m (u8s (be32 p.sender ++ be32 p.media ++ slcsB l)) → Q .normal a' w') :
    (formBehind 58).wp Tryz.prog Q a1 w1 := by
  conv => arg 2; whnf
  refine wp_seq_k fun K201 hK201 => ?_
  refine wp_region_lit ?_
  refine wpList_val hE1 292 rfl rfl fun K hK => ?_
  have e1 := hE1.get 1 rfl
  go_simp
  refine hK _ _ fun a202 hE202 => ?_
  clear hK K e1
  clear hE1 a1
  refine wpList_val hE202 293 rfl rfl fun K hK => ?_
  have e292 := hE202.get 292 rfl
  have cf : w1.cell? ⟨w.heap.size, 15, none⟩ = some (.slice A (l.length : Nat) c1) := (hH1.pk.cell 15).trans hs
  have hz0 : w.heap.size < w1.heap.size := by have := hH1.lt; omega
  go_simp
  refine hK _ _ fun a203 hE203 => ?_
  clear hK K e292
  clear hE202 a202
  clear cf hz0
  refine wpList_val hE203 294 rfl rfl fun K hK => ?_
  have e293 := hE203.get 293 rfl
  go_simp
  refine hK _ _ fun a204 hE204 => ?_
  clear hK K e293
  clear hE203 a203
  refine wpList_val hE204 295 rfl rfl fun K hK => ?_
  go_simp
  refine hK _ _ fun a205 hE205 => ?_
  clear hK K
  clear hE204 a204
  refine wpList_nil ?_
  refine hK201 _ _ ?_
  clear hK201 K201
  refine wp_block ?_
  refine wp_loop_up l.length (fun k a w' => ∃ g2 cap2 m, m = 8 + 4 * k ∧ Env 490 [(1, .pointer (some ⟨w.heap.size, 0, none⟩)), (2, .pointer (some ⟨w.heap.size + 1, 0, none⟩)), (3, .slice (some ⟨g2, 0, none⟩) m cap2), (4, .pointer (some ⟨w.heap.size + 1 + 1, 0, none⟩)), (293, .slice A (l.length : Nat) c1), (294, .int .i64 (l.length : Nat)), (295, .int .i64 (k : Nat))] a ∧ Head p w 2 206 (b && (l.take k).all slcOk) w' ∧ w'.ownsRow (w.heap.size + 3) 5 1 (.slice (some ⟨g2, 0, none⟩) m cap2) m (u8s (be32 p.sender ++ be32 p.media ++ slcsB (l.take k)))) ⟨g, cap, 8, by omega, hE205.keep ⟨hE205.get 1 rfl, hE205.get 2 rfl, hE205.get 3 rfl, hE205.get 4 rfl, hE205.get 293 rfl, hE205.get 294 rfl, hE205.get 295 rfl, trivial⟩, by simpa using hH1, by simpa [slcsB] using hown⟩ ?_
  clear hown hH1 hE205 a205
  intro k a2 w2 hkl ⟨g2, cap2, m, hm, hE2, hH2, hown2⟩ K hK
  by_cases hlt : k < l.length
  case pos =>
    obtain ⟨b1, off, rfl, hbB⟩ := hr.addr (by omega) (by omega)
    have hrw := hr.below hH2.below
    obtain ⟨r, hrk⟩ : ∃ r, r = l[k] := ⟨_, rfl⟩
    have e0 := hrw.at2 (slc_cells_len l) k 0 hlt (by omega) (v := .int .u16 r.first) (by rw [hrk]; rfl)
    have e1 := hrw.at2 (slc_cells_len l) k 1 hlt (by omega) (v := .int .u16 r.number) (by rw [hrk]; rfl)
    have e2 := hrw.at2 (slc_cells_len l) k 2 hlt (by omega) (v := .int .u8 r.pic) (by rw [hrk]; rfl)
    simp only [Nat.add_zero] at e0
    have hin := hl r (by rw [hrk]; exact List.getElem_mem _)
    have Hrk := Lib.hid hrk
    have Hm := Lib.hid hm
    clear hrk hm hl hr hrw
    obtain ⟨x, y, q⟩ := r
    simp only at e0 e1 e2 hin
    have hi1 : (k : Int) < (l.length : Int) := by omega
    have hi0 : (0 : Int) ≤ (k : Int) := by omega
    have hw1 : IntKind.i64.wrap ((k : Int) + 1) = (k : Int) + 1 := IntWalk.i64_in _ (by omega)
    have hmx : m ≤ 70368744177000 := by have := Hm.out; omega
    have hzb : b1 < w2.heap.size := by have := hH2.lt; omega
    refine wp_seq_k fun K206 hK206 => ?_
    refine wp_region_lit ?_
    refine wpList_val hE2 296 rfl rfl fun K hK => ?_
    have e294 := hE2.get 294 rfl
    have e295 := hE2.get 295 rfl
    go_simp
    refine hK _ _ fun a207 hE207 => ?_
    clear hK K e294 e295
    clear hE2 a2
    refine wpList_nil ?_
    refine hK206 _ _ ?_
    clear hK206 K206
    refine wp_seq_k fun K208 hK208 => ?_
    refine wp_if_t hE207 296 rfl ?_
    refine wp_skip ?_
    refine hK208 _ _ ?_
    clear hK208 K208
    refine wp_seq_k fun K209 hK209 => ?_
    refine wp_block ?_
    refine wp_seq_k fun K210 hK210 => ?_
    refine wp_region_lit ?_
    refine wpList_val hE207 297 rfl rfl fun K hK => ?_
    have e293 := hE207.get 293 rfl
    have e295 := hE207.get 295 rfl
    go_simp
    refine hK _ _ fun a211 hE211 => ?_
    clear hK K e293 e295
    clear hE207 a207
    refine wpList_val hE211 298 rfl rfl fun K hK => ?_
    have e297 := hE211.get 297 rfl
    go_simp
    refine hK _ _ fun a212 hE212 => ?_
    clear hK K e297
    clear hE211 a211
    refine wpList_val hE212 20 rfl rfl fun K hK => ?_
    go_simp
    refine hK _ _ fun a213 hE213 => ?_
    clear hK K
    clear hE212 a212
    refine wpList_none rfl fun K hK => ?_
    have e20 := hE213.get 20 rfl
    have e298 := hE213.get 298 rfl
    go_simp
    refine hK undef _ ?_
    clear hK K e20 e298
    refine wpList_nil ?_
    refine hK210 _ _ ?_
    clear hK210 K210
    refine wp_seq_k fun K215 hK215 => ?_
    have hx := blk_new w2 100 #[.int .u16 x, .int .u16 y, .int .u8 q] rfl
    have hH3 := hH2.alloc (.cells #[.int .u16 x, .int .u16 y, .int .u8 q] 100)
    have hown3 := hown2.alloc (.cells #[.int .u16 x, .int .u16 y, .int .u8 q] 100)
    have hxw : w.heap.size + 3 ≤ w2.heap.size := hH2.lt
    have hgx : g2 ≠ w2.heap.size := by have := (hown2.lt g2 rfl).2; omega
    have hne3 : ∀ j, (Value.slice (some ⟨g2, 0, none⟩) m cap2).ownBlock = some j → w.heap.size + 1 + 1 < j := fun j hj => by have := (hown2.lt j hj).1; omega
    clear e0 e1 e2 hH2 hown2
    generalize w2.alloc (.cells #[.int .u16 x, .int .u16 y, .int .u8 q] 100) = w3 at *
    have h62 : ∀ Q : Exit → Act → World → Prop, (∀ a' w', Env 490 [(1, .pointer (some ⟨w.heap.size, 0, none⟩)), (2, .pointer (some ⟨w.heap.size + 1, 0, none⟩)), (3, .slice (some ⟨g2, 0, none⟩) m cap2), (4, .pointer (some ⟨w.heap.size + 1 + 1, 0, none⟩)), (20, .pointer (some ⟨w2.heap.size, 0, none⟩)), (293, .slice (some ⟨b1, off, none⟩) (l.length : Nat) c1), (294, .int .i64 (l.length : Nat)), (295, .int .i64 (k : Nat))] a' → Head p w 2 206 ((b && (l.take k).all slcOk) && slcOk ⟨x, y, q⟩) w' → Blk w' w2.heap.size 100 #[.int .u16 x, .int .u16 y, .int .u8 q] → w'.ownsRow (w.heap.size + 3) 5 1 (.slice (some ⟨g2, 0, none⟩) m cap2) m (u8s (be32 p.sender ++ be32 p.media ++ slcsB (l.take k))) → Q .normal a' w') → (formR 62).wp Tryz.prog Q a213 w3 := by
      intro Q hQ
      have hE9 := hE213.keep (l' := [(1, _), (2, _), (3, _), (4, _), (20, _), (293, _), (294, _), (295, _)]) ⟨hE213.get 1 rfl, hE213.get 2 rfl, hE213.get 3 rfl, hE213.get 4 rfl, hE213.get 20 rfl, hE213.get 293 rfl, hE213.get 294 rfl, hE213.get 295 rfl, trivial⟩
      cases hb : (b && (l.take k).all slcOk) with
      | false =>
        rw [hb] at hH3
        refine formR62a p w w3 _ w2.heap.size x y q 2 206 _ hE9 hH3 hx hxw Q fun a' hE' => ?_
        exact hQ a' _ hE' (by rw [hb]; exact hH3.setOk _) (hx.far (by simp; omega) _) (own_setCell hown3 (fun e => by have := hne3 _ e; simp at this) _)
      | true =>
        rw [hb] at hH3
        by_cases h1 : x < 8192
        · by_cases h2 : y < 8192
          · refine formR62d p w w3 _ w2.heap.size x y q 2 206 _ h1 h2 hE9 hH3 hx hxw Q fun a' hE' => ?_
            exact hQ a' _ hE' (by rw [hb]; simpa [slcOk, h1, h2] using hH3.setOk (decide (q < 64))) (hx.far (by simp; omega) _) (own_setCell hown3 (fun e => by have := hne3 _ e; simp at this) _)
          · refine formR62c p w w3 _ w2.heap.size x y q 2 206 _ h1 h2 hE9 hH3 hx hxw Q fun a' hE' => ?_
            exact hQ a' _ hE' (by rw [hb]; simpa [slcOk, h1, h2] using hH3.setOk false) (hx.far (by simp; omega) _) (own_setCell hown3 (fun e => by have := hne3 _ e; simp at this) _)
        · refine formR62b p w w3 _ w2.heap.size x y q 2 206 _ h1 hE9 hH3 hx hxw Q fun a' hE' => ?_
          exact hQ a' _ hE' (by rw [hb]; simpa [slcOk, h1] using hH3.setOk false) (hx.far (by simp; omega) _) (own_setCell hown3 (fun e => by have := hne3 _ e; simp at this) _)
    refine h62 _ fun a5 w5 hE5 hH5 hx5 hown5 => ?_
    clear h62 hH3 hx hown3
    clear hE213 a213
    refine hK215 _ _ ?_
    clear hK215 K215
    refine formR63 p w w5 _ w2.heap.size g2 m cap2 _ x y q 2 206 _ hin.1 hin.2.1 hin.2.2.1 hin.2.2.2.1 hin.2.2.2.2.1 hin.2.2.2.2.2 hmx (hE5.keep ⟨hE5.get 1 rfl, hE5.get 2 rfl, hE5.get 3 rfl, hE5.get 4 rfl, hE5.get 20 rfl, hE5.get 293 rfl, hE5.get 294 rfl, hE5.get 295 rfl, trivial⟩) hH5 hx5 hown5 _ fun a6 w6 g6 cap6 hE6 hH6 hown6 => ?_
    clear hE5 a5
    refine hK209 _ _ ?_
    clear hK209 K209
    refine wp_region_lit ?_
    refine wpList_val hE6 330 rfl rfl fun K hK => ?_
    have e295 := hE6.get 295 rfl
    go_simp
    refine hK _ _ fun a216 hE216 => ?_
    clear hK K e295
    clear hE6 a6
    refine wpList_val hE216 295 rfl rfl fun K hK => ?_
    have e330 := hE216.get 330 rfl
    go_simp
    refine hK _ _ fun a217 hE217 => ?_
    clear hK K e330
    clear hE216 a216
    refine wpList_nil ?_
    have et : (l.take (k + 1)) = l.take k ++ [⟨x, y, q⟩] := by rw [List.take_succ_eq_append_getElem hlt, Hrk.out]
    exact hK _ _ hlt ⟨g6, cap6, m + 4, by have := Hm.out; omega, hE217.keep ⟨hE217.get 1 rfl, hE217.get 2 rfl, hE217.get 3 rfl, hE217.get 4 rfl, hE217.get 293 rfl, hE217.get 294 rfl, (hE217.get 295 rfl).trans (congrArg some (by go_num)), trivial⟩, by rw [et]; simpa [Bool.and_assoc] using hH6, own_eq hown6 rfl (by rw [et]; simp [slcsB])⟩
  case neg =>
    obtain rfl : k = l.length := by omega
    have hi1 : ¬ (l.length : Int) < (l.length : Int) := by omega
    refine wp_seq_k fun K218 hK218 => ?_
    refine wp_region_lit ?_
    refine wpList_val hE2 296 rfl rfl fun K hK => ?_
    have e294 := hE2.get 294 rfl
    have e295 := hE2.get 295 rfl
    go_simp
    refine hK _ _ fun a219 hE219 => ?_
    clear hK K e294 e295
    clear hE2 a2
    refine wpList_nil ?_
    refine hK218 _ _ ?_
    clear hK218 K218
    refine wp_seq_k fun K220 hK220 => ?_
    refine wp_if_f hE219 296 rfl ?_
    refine wp_exit ?_
    rw [List.take_length] at hH2 hown2
    exact hQ _ _ g2 cap2 m hm (hE219.keep ⟨hE219.get 1 rfl, hE219.get 2 rfl, hE219.get 3 rfl, hE219.get 4 rfl, trivial⟩) hH2 hown2

set_option maxHeartbeats 4000000 in
set_option maxRecDepth 100000 in
theorem form_10 (p : Pkt) (w : World) (hk : p.kind = 10) (hs0 : 0 ≤ p.sender) (hs1 : p.sender < 4294967296) (hm0 : 0 ≤ p.media) (hm1 : p.media < 4294967296) (hr : p.slices.Lies w w.heap.size 3 Slc.cells) (hn : p.slices.l.length ≤ 2147483647)
    (hl : ∀ x ∈ p.slices.l, 0 ≤ x.first ∧ x.first < 65536 ∧ 0 ≤ x.number ∧ x.number < 65536 ∧ 0 ≤ x.pic ∧ x.pic < 256) :
    Calls Tryz.prog 52 #[.agg p.cells] w (Formed w 2 206 (be32 p.sender ++ be32 p.media ++ slcsB p.slices.l) ((decide (0 < p.slices.l.length) && decide (((p.slices.l.length : Nat) : Int) ≤ 253)) && p.slices.l.all slcOk)) := by
  refine form_start p w 10 _ (by rw [hk]; rfl) (by decide) hs0 hs1 hm0 hm1 fun a1 w1 g cap hE1 hH1 hown => ?_
  conv => arg 2; whnf
  replace hH1 : Head p w 2 206 true w1 := hH1
  refine wp_seq_k fun K401 hK401 => ?_
  refine wp_seq_k fun K402 hK402 => ?_
  refine wp_region_lit ?_
  refine wpList_val hE1 50 rfl rfl fun K hK => ?_
  have e1 := hE1.get 1 rfl
  go_simp
  refine hK _ _ fun a403 hE403 => ?_
  clear hK K e1
  clear hE1 a1
  refine wpList_val hE403 51 rfl rfl fun K hK => ?_
  have e50 := hE403.get 50 rfl
  have c0 : w1.cell? ⟨w.heap.size, 0, none⟩ = some (.int .i64 10) := (hH1.pk.cell 0).trans (by rw [← hk]; rfl)
  have hz0 : w.heap.size < w1.heap.size := by have := hH1.lt; omega
  go_simp
  refine hK _ _ fun a404 hE404 => ?_
  clear hK K e50
  clear hE403 a403
  clear c0 hz0
  refine wpList_nil ?_
  refine hK402 _ _ ?_
  clear hK402 K402
  refine wp_block ?_
  refine wp_seq_k fun K405 hK405 => ?_
  refine wp_seq_k fun K406 hK406 => ?_
  refine wp_region_lit ?_
  refine wpList_val hE404 53 rfl rfl fun K hK => ?_
  have e51 := hE404.get 51 rfl
  go_simp
  refine hK _ _ fun a407 hE407 => ?_
  clear hK K e51
  clear hE404 a404
  refine wpList_val hE407 52 rfl rfl fun K hK => ?_
  have e53 := hE407.get 53 rfl
  go_simp
  refine hK _ _ fun a408 hE408 => ?_
  clear hK K e53
  clear hE407 a407
  refine wpList_nil ?_
  refine hK406 _ _ ?_
  clear hK406 K406
  refine wp_if_f hE408 52 rfl ?_
  refine wp_region_lit ?_
  refine wpList_val hE408 54 rfl rfl fun K hK => ?_
  have e51 := hE408.get 51 rfl
  go_simp
  refine hK _ _ fun a409 hE409 => ?_
  clear hK K e51
  clear hE408 a408
  refine wpList_val hE409 52 rfl rfl fun K hK => ?_
  have e54 := hE409.get 54 rfl
  go_simp
  refine hK _ _ fun a410 hE410 => ?_
  clear hK K e54
  clear hE409 a409
  refine wpList_nil ?_
  refine hK405 _ _ ?_
  clear hK405 K405
  refine wp_if_f hE410 52 rfl ?_
  refine wp_seq_k fun K411 hK411 => ?_
  refine wp_region_lit ?_
  refine wpList_val hE410 118 rfl rfl fun K hK => ?_
  have e51 := hE410.get 51 rfl
  go_simp
  refine hK _ _ fun a412 hE412 => ?_
  clear hK K e51
  clear hE410 a410
  refine wpList_val hE412 117 rfl rfl fun K hK => ?_
  have e118 := hE412.get 118 rfl
  go_simp
  refine hK _ _ fun a413 hE413 => ?_
  clear hK K e118
  clear hE412 a412
  refine wpList_nil ?_
  refine hK411 _ _ ?_
  clear hK411 K411
  refine wp_if_f hE413 117 rfl ?_
  refine wp_seq_k fun K414 hK414 => ?_
  refine wp_region_lit ?_
  refine wpList_val hE413 173 rfl rfl fun K hK => ?_
  have e51 := hE413.get 51 rfl
  go_simp
  refine hK _ _ fun a415 hE415 => ?_
  clear hK K e51
  clear hE413 a413
  refine wpList_val hE415 172 rfl rfl fun K hK => ?_
  have e173 := hE415.get 173 rfl
  go_simp
  refine hK _ _ fun a416 hE416 => ?_
  clear hK K e173
  clear hE415 a415
  refine wpList_nil ?_
  refine hK414 _ _ ?_
  clear hK414 K414
  refine wp_if_f hE416 172 rfl ?_
  refine wp_seq_k fun K417 hK417 => ?_
  refine wp_region_lit ?_
  refine wpList_val hE416 212 rfl rfl fun K hK => ?_
  have e51 := hE416.get 51 rfl
  go_simp
  refine hK _ _ fun a418 hE418 => ?_
  clear hK K e51
  clear hE416 a416
  refine wpList_val hE418 211 rfl rfl fun K hK => ?_
  have e212 := hE418.get 212 rfl
  go_simp
  refine hK _ _ fun a419 hE419 => ?_
  clear hK K e212
  clear hE418 a418
  refine wpList_nil ?_
  refine hK417 _ _ ?_
  clear hK417 K417
  refine wp_if_f hE419 211 rfl ?_
  refine wp_seq_k fun K420 hK420 => ?_
  refine wp_region_lit ?_
  refine wpList_val hE419 248 rfl rfl fun K hK => ?_
  have e51 := hE419.get 51 rfl
  go_simp
  refine hK _ _ fun a421 hE421 => ?_
  clear hK K e51
  clear hE419 a419
  refine wpList_val hE421 247 rfl rfl fun K hK => ?_
  have e248 := hE421.get 248 rfl
  go_simp
  refine hK _ _ fun a422 hE422 => ?_
  clear hK K e248
  clear hE421 a421
  refine wpList_nil ?_
  refine hK420 _ _ ?_
  clear hK420 K420
  refine wp_if_f hE422 247 rfl ?_
  refine wp_seq_k fun K423 hK423 => ?_
  refine wp_seq_k fun K424 hK424 => ?_
  refine wp_region_lit ?_
  refine wpList_val hE422 276 rfl rfl fun K hK => ?_
  have e51 := hE422.get 51 rfl
  go_simp
  refine hK _ _ fun a425 hE425 => ?_
  clear hK K e51
  clear hE422 a422
  refine wpList_val hE425 275 rfl rfl fun K hK => ?_
  have e276 := hE425.get 276 rfl
  go_simp
  refine hK _ _ fun a426 hE426 => ?_
  clear hK K e276
  clear hE425 a425
  refine wpList_nil ?_
  refine hK424 _ _ ?_
  clear hK424 K424
  refine wp_if_f hE426 275 rfl ?_
  refine wp_region_lit ?_
  refine wpList_val hE426 277 rfl rfl fun K hK => ?_
  have e51 := hE426.get 51 rfl
  go_simp
  refine hK _ _ fun a427 hE427 => ?_
  clear hK K e51
  clear hE426 a426
  refine wpList_val hE427 275 rfl rfl fun K hK => ?_
  have e277 := hE427.get 277 rfl
  go_simp
  refine hK _ _ fun a428 hE428 => ?_
  clear hK K e277
  clear hE427 a427
  refine wpList_nil ?_
  refine hK423 _ _ ?_
  clear hK423 K423
  refine wp_if_f hE428 275 rfl ?_
  refine wp_seq_k fun K429 hK429 => ?_
  refine wp_region_lit ?_
  refine wpList_val hE428 280 rfl rfl fun K hK => ?_
  have e51 := hE428.get 51 rfl
  go_simp
  refine hK _ _ fun a430 hE430 => ?_
  clear hK K e51
  clear hE428 a428
  refine wpList_val hE430 279 rfl rfl fun K hK => ?_
  have e280 := hE430.get 280 rfl
  go_simp
  refine hK _ _ fun a431 hE431 => ?_
  clear hK K e280
  clear hE430 a430
  refine wpList_nil ?_
  refine hK429 _ _ ?_
  clear hK429 K429
  refine wp_if_t hE431 279 rfl ?_
  refine wp_seq_k fun K432 hK432 => ?_
  by_cases hG : 0 < p.slices.l.length
  case pos =>
    refine formR58_t p p.slices w w1 _ (w.heap.size + 3) 8 _ _ true rfl hG (hE431.keep ⟨hE431.get 1 rfl, hE431.get 2 rfl, hE431.get 4 rfl, hE431.get 6 rfl, trivial⟩) hH1 hown (Nat.le_refl _) _ fun a2 w2 hE2 hH2 hown2 => ?_
    refine hK432 _ _ ?_
    refine form10_rest p w w2 a2 p.slices.A p.slices.c p.slices.l g cap (decide (((p.slices.l.length : Nat) : Int) ≤ 253)) rfl hr hn hl hE2 hH2 hown2 _ fun a3 w3 g3 cap3 m hm hE3 hH3 hown3 => ?_
    refine hK401 _ _ ?_
    refine form_finish p w w3 a3 2 206 ((decide (((p.slices.l.length : Nat) : Int) ≤ 253)) && p.slices.l.all slcOk) (w.heap.size + 3) m _ _ _ (hE3.keep ⟨hE3.get 2 rfl, hE3.get 3 rfl, hE3.get 4 rfl, trivial⟩) hH3 hown3 (Nat.le_refl _) ?_ fun _ _ h => ?_
    · rw [hm]; simp [slcsB_len, be32_len]; omega
    · exact (show ((decide (((p.slices.l.length : Nat) : Int) ≤ 253)) && p.slices.l.all slcOk) = ((decide (0 < p.slices.l.length) && decide (((p.slices.l.length : Nat) : Int) ≤ 253)) && p.slices.l.all slcOk) by simp [hG]) ▸ h
  case neg =>
    refine formR58_f p p.slices w w1 _ (w.heap.size + 3) 8 _ _ true rfl hG (hE431.keep ⟨hE431.get 1 rfl, hE431.get 2 rfl, hE431.get 4 rfl, hE431.get 6 rfl, trivial⟩) hH1 hown (Nat.le_refl _) _ fun a2 w2 hE2 hH2 hown2 => ?_
    refine hK432 _ _ ?_
    refine form10_rest p w w2 a2 p.slices.A p.slices.c p.slices.l g cap (false) rfl hr hn hl hE2 hH2 hown2 _ fun a3 w3 g3 cap3 m hm hE3 hH3 hown3 => ?_
    refine hK401 _ _ ?_
    refine form_finish p w w3 a3 2 206 ((false) && p.slices.l.all slcOk) (w.heap.size + 3) m _ _ _ (hE3.keep ⟨hE3.get 2 rfl, hE3.get 3 rfl, hE3.get 4 rfl, trivial⟩) hH3 hown3 (Nat.le_refl _) ?_ fun _ _ h => ?_
    · rw [hm]; simp [slcsB_len, be32_len]; omega
    · exact (show ((false) && p.slices.l.all slcOk) = ((decide (0 < p.slices.l.length) && decide (((p.slices.l.length : Nat) : Int) ≤ 253)) && p.slices.l.all slcOk) by simp [hG]) ▸ h

end Go.Proofs.YtmmfpgoodfgkbaaGreat
