/-
  PLAIN LAW: the numbers that a pair names (an identifier and a mask of sixteen bits), and the pairs that growing numbers are packed into.
  No condition. No program in sight.
-/
namespace Go.Proofs.Ytcikhjolehlchaa.Nack

/-- The numbers that a pair names, by the first k bits of its mask. -/
def lstTo (id mask k : Nat) : List Nat := id :: ((List.range k).filter (fun i => mask.testBit i)).map (fun i => (id + i + 1) % 65536)
def lst (id mask : Nat) : List Nat := lstTo id mask 16

theorem lstTo_zero (id mask : Nat) : lstTo id mask 0 = [id] := rfl
theorem lstTo_hit {id mask k : Nat} (h : mask.testBit k = true) : lstTo id mask (k + 1) = lstTo id mask k ++ [(id + k + 1) % 65536] := by
  unfold lstTo; rw [List.range_succ, List.filter_append]; simp [h]
theorem lstTo_miss {id mask k : Nat} (h : mask.testBit k = false) : lstTo id mask (k + 1) = lstTo id mask k := by
  unfold lstTo; rw [List.range_succ, List.filter_append]; simp [h]
theorem lstTo_len (id mask k : Nat) : (lstTo id mask k).length ≤ k + 1 := by
  unfold lstTo
  have := List.length_filter_le (fun i => mask.testBit i) (List.range k)
  simp at this ⊢; omega
theorem lstTo_pos (id mask k : Nat) : 1 ≤ (lstTo id mask k).length := by simp [lstTo]
theorem lstTo_lt {id mask k : Nat} (hid : id < 65536) : ∀ x ∈ lstTo id mask k, x < 65536 := by
  intro x hx
  simp only [lstTo, List.mem_cons, List.mem_map] at hx
  rcases hx with rfl | ⟨i, _, rfl⟩
  · exact hid
  · exact Nat.mod_lt _ (by omega)
/-- Bits that are not set add nothing. -/
theorem lstTo_stop {id mask k : Nat} : ∀ n, (∀ i, k ≤ i → i < k + n → mask.testBit i = false) → lstTo id mask (k + n) = lstTo id mask k := by
  intro n
  induction n with
  | zero => intro _; rfl
  | succ n ih =>
    intro h
    rw [← Nat.add_assoc, lstTo_miss (h (k + n) (by omega) (by omega)), ih fun i h1 h2 => h i h1 (by omega)]

/-! ### The mask with its low bits struck -/
theorem strike_succ_hit {m k : Nat} (_h : m.testBit k = true) : m >>> k <<< k - 2 ^ k = m >>> (k + 1) <<< (k + 1) := by
  have e : m >>> k = 2 * (m >>> (k + 1)) + 1 := by
    have h1 : (m >>> k) % 2 = 1 := by
      have := _h; rw [Nat.testBit_eq_decide_div_mod_eq] at this
      rw [Nat.shiftRight_eq_div_pow]; simpa using this
    have h2 : m >>> (k + 1) = (m >>> k) / 2 := by rw [Nat.shiftRight_succ]
    omega
  rw [e, Nat.shiftLeft_eq, Nat.shiftLeft_eq, Nat.pow_succ, Nat.add_mul, Nat.one_mul, Nat.add_sub_cancel]
  rw [Nat.mul_comm 2, Nat.mul_assoc, Nat.mul_comm 2]
theorem strike_succ_miss {m k : Nat} (h : m.testBit k = false) : m >>> k <<< k = m >>> (k + 1) <<< (k + 1) := by
  have e : m >>> k = 2 * (m >>> (k + 1)) := by
    have h1 : (m >>> k) % 2 = 0 := by
      rw [Nat.testBit_eq_decide_div_mod_eq] at h
      rw [Nat.shiftRight_eq_div_pow]
      simp at h; omega
    have h2 : m >>> (k + 1) = (m >>> k) / 2 := by rw [Nat.shiftRight_succ]
    omega
  rw [e, Nat.shiftLeft_eq, Nat.shiftLeft_eq, Nat.pow_succ]
  rw [Nat.mul_comm 2, Nat.mul_assoc, Nat.mul_comm 2]
theorem strike_testBit (m k i : Nat) : (m >>> k <<< k).testBit i = (decide (k ≤ i) && m.testBit i) := by
  rw [Nat.testBit_shiftLeft, Nat.testBit_shiftRight]
  by_cases h : k ≤ i
  · simp [h, Nat.add_sub_cancel' h]
  · simp [h]
theorem strike_and {m k : Nat} : (m >>> k <<< k) &&& 2 ^ k = if m.testBit k then 2 ^ k else 0 := by
  apply Nat.eq_of_testBit_eq
  intro i
  rw [Nat.testBit_and, strike_testBit, Nat.testBit_two_pow]
  by_cases hi : k = i
  · subst hi
    cases h : m.testBit k <;> simp
  · by_cases hm : m.testBit k
    · simp [hi, hm]
    · simp [hi, hm]
theorem strike_zero {m k : Nat} (h : m >>> k <<< k = 0) : ∀ i, k ≤ i → m.testBit i = false := by
  intro i hi
  have := strike_testBit m k i
  rw [h] at this
  simpa [hi] using this.symm
theorem strike_done {m : Nat} (h : m < 65536) : m >>> 16 <<< 16 = 0 := by
  rw [Nat.shiftRight_eq_div_pow, Nat.div_eq_of_lt (by simpa using h)]; rfl
theorem strike_le (m k : Nat) : m >>> k <<< k ≤ m := by
  rw [Nat.shiftRight_eq_div_pow, Nat.shiftLeft_eq]; exact Nat.div_mul_le_self _ _
/-- Where nothing is left of the mask, all that it names has been named. -/
theorem lst_of_struck {id m k : Nat} (hk : k ≤ 16) (h : m >>> k <<< k = 0) : lstTo id m k = lst id m := by
  have := lstTo_stop (id := id) (mask := m) (k := k) (16 - k) (fun i h1 _ => strike_zero h i h1)
  rw [Nat.add_sub_cancel' hk] at this
  exact this.symm

/-! ### Growing numbers and their pairs -/
def pk (id mask : Nat) : List Nat → List (Nat × Nat)
  | [] => [(id, mask)]
  | m :: r => if 16 < (m + 65536 - id) % 65536 then (id, mask) :: pk m 0 r else pk id (mask ||| 2 ^ ((m + 65536 - id) % 65536 - 1)) r

/-- The pairs name just these numbers, in order, and each takes as many as it can. -/
def Covers : List Nat → List (Nat × Nat) → Prop
  | l, [] => l = []
  | l, p :: ps => ∃ rest, l = lst p.1 p.2 ++ rest ∧ (∀ x, rest.head? = some x → p.1 + 16 < x) ∧ Covers rest ps

def Grows (l : List Nat) : Prop := ∀ i j : Nat, i < j → ∀ a b : Nat, l[i]? = some a → l[j]? = some b → a < b

theorem Grows.tail {a : Nat} {l : List Nat} (h : Grows (a :: l)) : Grows l := fun i j hij x y hx hy => h (i + 1) (j + 1) (by omega) x y (by simpa using hx) (by simpa using hy)
theorem Grows.head_lt {a : Nat} {l : List Nat} (h : Grows (a :: l)) : ∀ x ∈ l, a < x := by
  intro x hx
  obtain ⟨i, hi⟩ := List.getElem?_of_mem hx
  exact h 0 (i + 1) (by omega) a x (by simp) (by simpa using hi)

theorem lstTo_or {id mask d : Nat} (hd : ∀ i, d ≤ i → mask.testBit i = false) (hd16 : d < 16) :
    lst id (mask ||| 2 ^ d) = lst id mask ++ [(id + d + 1) % 65536] := by
  have hlow : ∀ k, k ≤ d → lstTo id (mask ||| 2 ^ d) k = lstTo id mask k := by
    intro k
    induction k with
    | zero => intro _; rfl
    | succ k ih =>
      intro hk
      have e : (mask ||| 2 ^ d).testBit k = mask.testBit k := by
        rw [Nat.testBit_or, Nat.testBit_two_pow]
        have : ¬ d = k := by omega
        simp [this]
      by_cases hb : mask.testBit k = true
      · rw [lstTo_hit (by rw [e]; exact hb), lstTo_hit hb, ih (by omega)]
      · rw [lstTo_miss (by rw [e]; simpa using hb), lstTo_miss (by simpa using hb), ih (by omega)]
  have h1 : lst id mask = lstTo id mask d := by
    have := lstTo_stop (id := id) (mask := mask) (k := d) (16 - d) (fun i a _ => hd i a)
    rw [Nat.add_sub_cancel' (by omega)] at this
    exact this
  have h2 : lst id (mask ||| 2 ^ d) = lstTo id (mask ||| 2 ^ d) (d + 1) := by
    have := lstTo_stop (id := id) (mask := mask ||| 2 ^ d) (k := d + 1) (15 - d) (fun i a _ => by
      rw [Nat.testBit_or, hd i (by omega), Nat.testBit_two_pow]
      have : ¬ d = i := by omega
      simp [this])
    rw [show d + 1 + (15 - d) = 16 by omega] at this
    exact this
  rw [h2, lstTo_hit (by rw [Nat.testBit_or, Nat.testBit_two_pow]; simp), hlow d (Nat.le_refl _), h1]

theorem pk_covers : ∀ (l : List Nat) (id mask : Nat) (top : Nat), id ≤ top → top ≤ id + 16 → Grows (top :: l) → (∀ x ∈ top :: l, x < 65536) →
    (∀ i, top - id ≤ i → mask.testBit i = false) → Covers (lst id mask ++ l) (pk id mask l) := by
  intro l
  induction l with
  | nil => intro id mask top _ _ _ _ _; exact ⟨[], by simp, by simp, rfl⟩
  | cons m r ih =>
    intro id mask top h1 h2 hg hl hm
    have htm : top < m := hg.head_lt m (by simp)
    have hmlt : m < 65536 := hl m (by simp)
    have hd : (m + 65536 - id) % 65536 = m - id := by omega
    unfold pk
    rw [hd]
    by_cases hbig : 16 < m - id
    · rw [if_pos hbig]
      refine ⟨m :: r, rfl, ?_, ?_⟩
      · intro x hx
        simp at hx; subst hx
        show id + 16 < m
        omega
      · have := ih m 0 m (Nat.le_refl _) (by omega) hg.tail (fun x hx => hl x (List.mem_cons_of_mem _ hx)) (fun i _ => Nat.zero_testBit i)
        have e : lst m 0 = [m] := by
          have := lstTo_stop (id := m) (mask := 0) (k := 0) 16 (fun i _ _ => Nat.zero_testBit i)
          simpa [lst, lstTo_zero] using this
        rw [e] at this
        exact this
    · rw [if_neg hbig]
      have e : lst id (mask ||| 2 ^ (m - id - 1)) = lst id mask ++ [m] := by
        rw [lstTo_or (fun i hi => hm i (by omega)) (by omega)]
        have : (id + (m - id - 1) + 1) % 65536 = m := by omega
        rw [this]
      have := ih id (mask ||| 2 ^ (m - id - 1)) m (by omega) (by omega) hg.tail (fun x hx => hl x (List.mem_cons_of_mem _ hx)) (fun i hi => by
        rw [Nat.testBit_or, hm i (by omega), Nat.testBit_two_pow]
        have : ¬ m - id - 1 = i := by omega
        simp [this])
      rw [e, List.append_assoc] at this
      exact this

theorem pk_mask : ∀ (l : List Nat) (id mask : Nat), mask < 65536 → ∀ p ∈ pk id mask l, p.2 < 65536 := by
  intro l
  induction l with
  | nil => intro id mask hm p hp; simp [pk] at hp; rw [hp]; exact hm
  | cons m r ih =>
    intro id mask hm p hp
    unfold pk at hp
    by_cases h : 16 < (m + 65536 - id) % 65536
    · rw [if_pos h] at hp
      rcases List.mem_cons.1 hp with rfl | hp
      · exact hm
      · exact ih m 0 (by omega) p hp
    · rw [if_neg h] at hp
      refine ih id _ ?_ p hp
      refine Nat.or_lt_two_pow (n := 16) hm ?_
      have := Nat.pow_lt_pow_right (a := 2) (m := (m + 65536 - id) % 65536 - 1) (n := 16) (by omega) (by omega)
      exact this
theorem lst_head (id mask : Nat) : (lst id mask)[0]? = some id := rfl

theorem pairs_cover {a : Nat} {l : List Nat} (hg : Grows (a :: l)) (hl : ∀ x ∈ a :: l, x < 65536) : Covers (a :: l) (pk a 0 l) := by
  have := pk_covers l a 0 a (Nat.le_refl _) (by omega) hg hl (fun i _ => Nat.zero_testBit i)
  have e : lst a 0 = [a] := by
    have := lstTo_stop (id := a) (mask := 0) (k := 0) 16 (fun i _ _ => Nat.zero_testBit i)
    simpa [lst, lstTo_zero] using this
  rw [e] at this
  exact this

end Go.Proofs.Ytcikhjolehlchaa.Nack
