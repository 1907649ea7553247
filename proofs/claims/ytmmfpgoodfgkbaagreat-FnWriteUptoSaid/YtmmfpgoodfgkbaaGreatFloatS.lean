/-
  FLOATS of the narrower kind: halving, comparing, widening: what a bitrate goes through when it is written. No condition.
-/
import Derived.Test.YtmmfpgoodfgkbaaGreatFloat
namespace Go.Proofs.YtmmfpgoodfgkbaaGreat
open Ieee
set_option linter.unusedVariables false

theorem cmp_scale (a b c : Int) (hc : 0 < c) : compare (a * c) (b * c) = compare a b := by
  show (if a * c < b * c then Ordering.lt else if a * c = b * c then .eq else .gt) = (if a < b then Ordering.lt else if a = b then .eq else .gt)
  by_cases h1 : a < b
  · rw [if_pos h1, if_pos (Int.mul_lt_mul_of_pos_right h1 hc)]
  · rw [if_neg h1, if_neg (fun h => h1 (Int.lt_of_mul_lt_mul_right h (Int.le_of_lt hc)))]
    by_cases h2 : a = b
    · rw [if_pos h2, if_pos (by rw [h2])]
    · rw [if_neg h2, if_neg (fun h => h2 (Int.eq_of_mul_eq_mul_right (by omega) h))]
theorem order_scale (m n a : Nat) (i j : Int) : Datum.order (.number false (m * 2 ^ a) (i - a)) (.number false n j) = Datum.order (.number false m i) (.number false n j) := by
  rw [order_num, order_num]
  congr 1
  obtain ⟨s, hs⟩ : ∃ s, s = (min i j - min (i - a) j).toNat := ⟨_, rfl⟩
  have h1 : m * 2 ^ a * 2 ^ (i - a - min (i - a) j).toNat = m * 2 ^ (i - min i j).toNat * 2 ^ s := by
    rw [Nat.mul_assoc, ← Nat.pow_add, Nat.mul_assoc, ← Nat.pow_add]
    congr 2; omega
  have h2 : n * 2 ^ (j - min (i - a) j).toNat = n * 2 ^ (j - min i j).toNat * 2 ^ s := by
    rw [Nat.mul_assoc, ← Nat.pow_add]
    congr 2; omega
  rw [h1, h2]
  generalize n * 2 ^ (j - min i j).toNat = y
  generalize m * 2 ^ (i - min i j).toNat = x
  rw [Int.natCast_mul, Int.natCast_mul]
  exact cmp_scale _ _ ((2 ^ s : Nat) : Int) (by have := Nat.two_pow_pos s; omega)
theorem order_scaleR (m n a : Nat) (i j : Int) : Datum.order (.number false m i) (.number false (n * 2 ^ a) (j - a)) = Datum.order (.number false m i) (.number false n j) := by
  rw [order_num, order_num]
  congr 1
  obtain ⟨s, hs⟩ : ∃ s, s = (min i j - min i (j - a)).toNat := ⟨_, rfl⟩
  have h1 : n * 2 ^ a * 2 ^ (j - a - min i (j - a)).toNat = n * 2 ^ (j - min i j).toNat * 2 ^ s := by
    rw [Nat.mul_assoc, ← Nat.pow_add, Nat.mul_assoc, ← Nat.pow_add]
    congr 2; omega
  have h2 : m * 2 ^ (i - min i (j - a)).toNat = m * 2 ^ (i - min i j).toNat * 2 ^ s := by
    rw [Nat.mul_assoc, ← Nat.pow_add]
    congr 2; omega
  rw [h1, h2]
  generalize n * 2 ^ (j - min i j).toNat = y
  generalize m * 2 ^ (i - min i j).toNat = x
  rw [Int.natCast_mul, Int.natCast_mul]
  exact cmp_scale _ _ ((2 ^ s : Nat) : Int) (by have := Nat.two_pow_pos s; omega)
/-- The same number in its full form. -/
theorem full_order {b M : Nat} {E : Int} (h : fullOf b = some (M, E)) (n : Nat) (j : Int) : Datum.order (single.read b) (.number false n j) = Datum.order (.number false M E) (.number false n j) := by
  obtain ⟨_, _, _, _, m, p, hr, hm, hl, hM, hE⟩ := fullOf_some h
  rw [hr, hM, hE, order_scale]
def s18 : Nat := 1216348160
def sTwo : Nat := 1073741824
def sMax : Nat := 1744830400
theorem read_s18 : single.read s18 = .number false 8388608 (-5) := by decide +kernel
theorem read_sTwo : single.read sTwo = .number false single.binade (1 - single.fractionBits) := by decide +kernel
theorem read_sMax : single.read sMax = .number false 16777152 57 := by decide +kernel
theorem full_sMax : fullOf sMax = some (16777152 * 2 ^ 29, 28) := by decide +kernel
theorem read_s0 : single.read 0 = .number false 0 (-149) := by decide +kernel
theorem s_geq18 {b M : Nat} {E : Int} (h : fullOf b = some (M, E)) : (single.order b s18 == some .gt || single.order b s18 == some .eq) = decide (-34 ≤ E) := by
  obtain ⟨h1, h2, h3, h4, _⟩ := fullOf_some h
  have e : single.order b s18 = double.order (wd double M E) two18 := by
    unfold Format.order
    rw [read_s18, full_order h, read_wd h1 h2 (least_le (by omega)) (wd_lt h2 (by omega)), read_two18]
    rw [show (-34 : Int) = -5 - (29 : Nat) by omega, show double.binade = 8388608 * 2 ^ 29 by decide +kernel, order_scaleR]
  rw [e]
  exact geq18 h1 h2 (by omega) (by omega)
theorem s_pos {b M : Nat} {E : Int} (h : fullOf b = some (M, E)) : (single.order b 0 == some .lt) = false := by
  obtain ⟨h1, h2, h3, h4, _⟩ := fullOf_some h
  unfold Format.order
  rw [read_s0, full_order h, order_num, Nat.zero_mul]
  generalize hc : compare ((M * 2 ^ (E - min E (-149)).toNat : Nat) : Int) ((0 : Nat) : Int) = o
  cases o
  · have := cmp_lt.1 hc; omega
  · rfl
  · rfl
theorem s_read {b M : Nat} {E : Int} (h : fullOf b = some (M, E)) (hE : -34 ≤ E) : ∃ m p, single.binade ≤ m ∧ m < 2 * single.binade ∧ single.read b = .number false m p ∧ -30 ≤ p ∧ p ≤ 104 ∧ M = m * 2 ^ (52 - m.log2) ∧ E = p - (52 - m.log2 : Nat) := by
  obtain ⟨_, _, _, h4, m, p, hr, hm, hl, hM, hE'⟩ := fullOf_some h
  have hp : -5 ≤ p := by omega
  have hb := read_single hr
  have hB : single.binade = 8388608 := rfl
  have hn : single.binade ≤ m := by
    have hI : single.infRung = 2139095040 := rfl
    have hL : single.leastPlace = -149 := rfl
    unfold Format.read at hr
    simp only at hr
    split at hr
    · injection hr with _ _ h3; omega
    · split at hr
      · injection hr with _ h2 _; omega
      · split at hr <;> cases hr
  have hl23 : m.log2 = 23 := log2_eq (by omega) (by have := hb.1; omega)
  exact ⟨m, p, hn, by have := hb.1; omega, hr, by omega, by omega, hM, hE'⟩
theorem full_at {x m : Nat} {p : Int} (hr : single.read x = .number false m p) (hm : m ≠ 0) : fullOf x = some (m * 2 ^ (52 - m.log2), p - (52 - m.log2 : Nat)) := by
  unfold fullOf
  rw [hr]
  simp only
  rw [if_neg hm]
theorem div_read {b b' t : Nat} (h : single.read b = single.read b') : single.div b t = single.div b' t := by
  unfold Format.div; rw [h]
set_option maxRecDepth 20000 in
theorem s_halve {b M : Nat} {E : Int} (h : fullOf b = some (M, E)) (hE : -34 ≤ E) : ∃ y, single.div b sTwo = some y ∧ fullOf y = some (M, E - 1) := by
  obtain ⟨m, p, h1, h2, hr, hp, hp2, hM, hE'⟩ := s_read h hE
  have hB : single.binade = 8388608 := rfl
  have hI : single.infRung = 2139095040 := rfl
  have hL : single.leastPlace = -149 := rfl
  have hw : ∀ q : Int, -100 ≤ q → q ≤ 104 → single.read (wd single m q) = .number false m q := fun q a c => read_wd h1 h2 (by omega) (by
    unfold wd; rw [hI, hL]; rw [hB] at h2 ⊢; omega)
  have hd := div_two (f := single) (M := m) (E := p) (by decide) h1 h2 (by omega) (by unfold wd; rw [hI, hL]; rw [hB] at h2 ⊢; omega) sTwo read_sTwo
  refine ⟨wd single m (p - 1), ?_, ?_⟩
  · rw [div_read (b' := wd single m p) (by rw [hr, hw p (by omega) hp2]), hd]
  · rw [full_at (hw (p - 1) (by omega) (by omega)) (by omega), hM, hE']
    generalize ((52 - m.log2 : Nat) : Int) = z
    have : p - 1 - z = p - z - 1 := by omega
    rw [this]
/-- A number that can be written is no more than the most; where it is not less, it is the most. -/
theorem s_max {b M : Nat} {E : Int} (h : fullOf b = some (M, E)) (hm : mantF b = true) (hg : (single.order b sMax == some .gt || single.order b sMax == some .eq) = true) : fullOf sMax = some (M, E) := by
  obtain ⟨h1, h2, h3, h4, _⟩ := fullOf_some h
  have hB : double.binade = 4503599627370496 := rfl
  unfold mantF at hm
  rw [h] at hm
  simp only [Bool.and_eq_true, decide_eq_true_eq] at hm
  obtain ⟨hm1, hm2⟩ := hm
  have hq := (toInt_last (E := E) h1 h2 (by omega) (by omega)).2
  obtain ⟨hr0, hr1, hr2⟩ := rest_pos E (by omega)
  have e : single.order b sMax = Datum.order (.number false M E) (.number false (16777152 * 2 ^ 29) 28) := by
    unfold Format.order
    rw [read_sMax, full_order h, show (28 : Int) = 57 - (29 : Nat) by omega, order_scaleR]
  rw [e] at hg
  rw [full_sMax]
  have hE : E ≤ 28 := by unfold halves at hm1; omega
  have hno : Datum.order (.number false M E) (.number false (16777152 * 2 ^ 29) 28) ≠ some .lt := by
    intro hc; rw [hc] at hg; exact absurd hg (by decide)
  by_cases hlt : E < 28
  · exfalso
    apply hno
    rw [order_le (by omega)]
    congr 1
    rw [cmp_lt]
    have : 2 ≤ 2 ^ (28 - E).toNat := by
      have h3 : (2 : Nat) ^ 1 ≤ 2 ^ (28 - E).toNat := Nat.pow_le_pow_right (by omega) (by omega)
      simpa using h3
    have h5 : 16777152 * 2 ^ 29 * 2 = 18014329790005248 := by decide +kernel
    generalize 16777152 * 2 ^ 29 = z at h5 ⊢
    have h4 := Nat.mul_le_mul_left z this
    omega
  · have hE28 : E = 28 := by omega
    subst hE28
    have hrest : rest 28 = 35 := by decide +kernel
    rw [hrest] at hq hm2
    rw [order_le (Int.le_refl _), Int.sub_self] at hno
    simp only [Int.toNat_zero, Nat.pow_zero, Nat.mul_one] at hno
    have h29 : 16777152 * 2 ^ 29 = 9007164895002624 := by decide +kernel
    rw [h29] at hno
    have hge : 9007164895002624 ≤ M := by
      apply Classical.byContradiction
      intro hn
      exact hno (congrArg some (cmp_lt.2 (by omega)))
    have h35 : 2 ^ 35 = 34359738368 := by decide +kernel
    have h18 : 2 ^ 18 = 262144 := by decide +kernel
    rw [h35, h18] at hq
    rw [h35] at hm2
    rw [h29]
    simp only [Option.some.injEq, Prod.mk.injEq, and_true]
    omega
theorem down_cut (M d : Nat) : Toward.down.cut false M d = M / 2 ^ d := by
  simp only [Toward.cut, Nat.shiftLeft_eq, Nat.one_mul, Bool.false_and, Bool.toNat_false, Nat.add_zero]
  by_cases h : d ≤ M.log2 + 2
  · rw [Nat.min_eq_left h]
  · rw [Nat.min_eq_right (by omega)]
    have h3 : M < 2 ^ (M.log2 + 1) := Nat.lt_log2_self
    have h4 : M < 2 ^ (M.log2 + 2) := Nat.lt_of_lt_of_le h3 (Nat.pow_le_pow_right (by omega) (by omega))
    have h5 : M < 2 ^ d := Nat.lt_of_lt_of_le h4 (Nat.pow_le_pow_right (by omega) (by omega))
    rw [Nat.div_eq_of_lt h4, Nat.div_eq_of_lt h5]
/-- The whole number under a number, as a float. -/
def flo (q : Nat) : Nat := double.write (.number false q 0)
theorem s_floor {M : Nat} {E : Int} (h1 : double.binade ≤ M) (h2 : M < 2 * double.binade) (h3 : -900 ≤ E) (h4 : E ≤ 200) : Go.FloatKind.f64.decode (wd double M (E - halves E)) = .number false M (E - halves E) ∧ Go.FloatKind.f64.encode ((Datum.number false M (E - halves E)).integral .down) = flo (M / 2 ^ rest E) := by
  obtain ⟨hr0, hr1, hr2⟩ := rest_pos E h4
  have hE' : E - halves E ≤ 200 ∧ -1000 ≤ E - halves E := by unfold halves; omega
  refine ⟨read_wd h1 h2 (least_le hE'.2) (wd_lt h2 hE'.1), ?_⟩
  have e1 : (E - halves E).toNat = 0 := by omega
  have e2 : (-(E - halves E)).toNat = rest E := by omega
  simp only [Datum.integral, e1, e2, Nat.shiftLeft_zero, down_cut]
  rfl
theorem u64_in (q : Nat) (hq : q < 2 ^ 18) : (if Go.IntKind.u64.min ≤ (q : Int) ∧ (q : Int) ≤ Go.IntKind.u64.max then some (q : Int) else none) = some (q : Int) := by
  have h18 : (2 : Nat) ^ 18 = 262144 := by simp
  rw [h18] at hq
  have hmin : Go.IntKind.u64.min = 0 := by decide
  have hmax : Go.IntKind.u64.max = 18446744073709551615 := by decide
  rw [hmin, hmax, if_pos (by omega)]
theorem flo_int (q : Nat) (h0 : 0 < q) (hq18 : q < 2 ^ 18) : Go.floatToIntVal .f64 (flo q) .u64 = some (q : Int) := by
  have hl : q.log2 ≤ 17 := by have := (Nat.log2_lt (by omega : q ≠ 0)).2 hq18; omega
  have h52 : double.fractionBits = 52 := rfl
  have hn := full_norm (f := double) (m := q) (by omega) (show q.log2 ≤ 52 by omega)
  rw [h52] at hn
  have hw : flo q = wd double (q * 2 ^ (52 - q.log2)) (0 - (52 - q.log2 : Nat)) :=
    write_exact (f := double) (by omega) (show q.log2 ≤ 52 by omega) (by rw [h52]; exact least_le (by omega)) (by rw [h52]; exact wd_lt hn.2 (by omega))
  unfold Go.floatToIntVal
  have hr : Go.FloatKind.decode .f64 (flo q) = .number false (q * 2 ^ (52 - q.log2)) (0 - (52 - q.log2 : Nat)) := by
    rw [hw]; exact read_wd hn.1 hn.2 (least_le (by omega)) (wd_lt hn.2 (by omega))
  have h54 : q * 2 ^ (52 - q.log2) < 2 ^ 54 := Nat.lt_of_lt_of_le hn.2 (by decide +kernel)
  rw [hr, toInt_neg (d := 52 - q.log2) h54 (by omega) (by omega), Nat.mul_div_cancel _ (Nat.two_pow_pos _)]
  exact u64_in q hq18
/-- The mantissa of what can be written is no nought. -/
theorem mantQ_pos {b M : Nat} {E : Int} (h : fullOf b = some (M, E)) (hm : mantF b = true) : 0 < M / 2 ^ rest E ∧ M / 2 ^ rest E < 2 ^ 18 ∧ halves E ≤ 63 ∧ M = M / 2 ^ rest E * 2 ^ rest E := by
  obtain ⟨h1, h2, h3, h4, _⟩ := fullOf_some h
  have hB : double.binade = 4503599627370496 := rfl
  unfold mantF at hm
  rw [h] at hm
  simp only [Bool.and_eq_true, decide_eq_true_eq] at hm
  obtain ⟨hm1, hm2⟩ := hm
  have hq := (toInt_last (E := E) h1 h2 (by omega) (by omega)).2
  have hd := Nat.div_add_mod M (2 ^ rest E)
  rw [hm2, Nat.mul_comm] at hd
  refine ⟨Nat.pos_of_ne_zero fun h0 => ?_, hq, hm1, by omega⟩
  rw [h0] at hd
  omega
end Go.Proofs.YtmmfpgoodfgkbaaGreat
