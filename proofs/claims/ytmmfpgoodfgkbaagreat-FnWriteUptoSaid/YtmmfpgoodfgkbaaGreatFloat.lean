/-
  FLOATS as the model has them: the word of a full significand; writing what fits exactly; halving; comparing with a power of two; cutting to a whole number. No condition.
-/
import Derived.Laws.FloatArith
namespace Go.Proofs.YtmmfpgoodfgkbaaGreat
open Ieee
set_option linter.unusedVariables false

/-- The word of M * 2 ^ E, M a full significand. -/
def wd (f : Format) (M : Nat) (E : Int) : Nat := (E - f.leastPlace).toNat * f.binade + M
theorem binade_pos (f : Format) : 0 < f.binade := Nat.two_pow_pos _
theorem log2_eq {m k : Nat} (h1 : 2 ^ k ≤ m) (h2 : m < 2 ^ (k + 1)) : m.log2 = k := by
  have hm : m ≠ 0 := by have := Nat.two_pow_pos k; omega
  have h3 := (Nat.le_log2 hm).2 h1
  have h4 := (Nat.log2_lt hm).2 h2
  omega
theorem log2_bounds {m : Nat} (h : m ≠ 0) : 2 ^ m.log2 ≤ m ∧ m < 2 ^ (m.log2 + 1) := ⟨Nat.log2_self_le h, Nat.lt_log2_self⟩
theorem read_wd {f : Format} {M : Nat} {E : Int} (h1 : f.binade ≤ M) (h2 : M < 2 * f.binade) (hE : f.leastPlace ≤ E) (hI : wd f M E < f.infRung) : f.read (wd f M E) = .number false M E := by
  have hB := binade_pos f
  have hs := Ieee.Format.infRung_lt f
  have h3 : wd f M E / f.signWeight = 0 := Nat.div_eq_of_lt (by omega)
  have h4 : wd f M E % f.signWeight = wd f M E := Nat.mod_eq_of_lt (by omega)
  have h5 : ¬ wd f M E < f.binade := by unfold wd; have := Nat.le_add_left M ((E - f.leastPlace).toNat * f.binade); omega
  have hk : wd f M E = (M - f.binade) + f.binade * ((E - f.leastPlace).toNat + 1) := by
    unfold wd
    rw [Nat.mul_add, Nat.mul_one, Nat.mul_comm]
    omega
  have h6 : wd f M E % f.binade = M - f.binade := by rw [hk, Nat.add_mul_mod_self_left, Nat.mod_eq_of_lt (by omega)]
  have h7 : wd f M E / f.binade = (E - f.leastPlace).toNat + 1 := by rw [hk, Nat.add_mul_div_left _ _ hB, Nat.div_eq_of_lt (by omega), Nat.zero_add]
  unfold Format.read
  simp only [h3, h4]
  rw [if_neg h5, if_pos hI, h6, h7]
  have h8 : f.binade + (M - f.binade) = M := by omega
  have h9 : f.leastPlace + ((((E - f.leastPlace).toNat + 1 - 1 : Nat)) : Int) = E := by omega
  rw [h8, h9]
  rfl
theorem cut_zero (way : Toward) (neg : Bool) (n : Nat) : way.cut neg n 0 = n := by
  cases way <;> simp [Toward.cut, Nat.mod_one]
theorem cut_eight (n : Nat) (h : 2 ≤ n.log2) : Toward.even.cut false (8 * n) 3 = n := by
  have h1 : min 3 ((8 * n).log2 + 2) = 3 := by
    have h0 : n ≠ 0 := by rintro rfl; simp at h
    have : 3 ≤ (8 * n).log2 := (Nat.le_log2 (by omega)).2 (by omega)
    omega
  simp only [Toward.cut, h1]
  have h2 : 1 <<< 3 = 8 := rfl
  rw [h2, Nat.mul_div_cancel_left _ (by omega), Nat.mul_mod_right]
  simp
/-- What fits a format is written as it is. -/
theorem write_exact {f : Format} {m : Nat} {e : Int} (hm : 0 < m) (hl : m.log2 ≤ f.fractionBits) (hE : f.leastPlace ≤ e - (f.fractionBits - m.log2 : Nat)) (hI : wd f (m * 2 ^ (f.fractionBits - m.log2)) (e - (f.fractionBits - m.log2 : Nat)) < f.infRung) :
    f.write (.number false m e) = wd f (m * 2 ^ (f.fractionBits - m.log2)) (e - (f.fractionBits - m.log2 : Nat)) := by
  have h1 : max (e + (m.log2 : Int) - f.fractionBits) f.leastPlace = e - (f.fractionBits - m.log2 : Nat) := by omega
  show f.nearest false m e = _
  unfold Format.nearest
  rw [if_neg (by omega)]
  simp only [h1]
  have h2 : (e - (e - (f.fractionBits - m.log2 : Nat))).toNat = f.fractionBits - m.log2 := by omega
  have h3 : (e - (f.fractionBits - m.log2 : Nat) - e).toNat = 0 := by omega
  rw [h2, h3, cut_zero, Nat.shiftLeft_eq]
  unfold Format.word
  rw [if_neg (by simp)]
  exact Nat.min_eq_left (Nat.le_of_lt hI)
theorem full_norm {f : Format} {m : Nat} (hm : 0 < m) (hl : m.log2 ≤ f.fractionBits) : f.binade ≤ m * 2 ^ (f.fractionBits - m.log2) ∧ m * 2 ^ (f.fractionBits - m.log2) < 2 * f.binade := by
  obtain ⟨h1, h2⟩ := log2_bounds (m := m) (by omega)
  have hp := Nat.two_pow_pos (f.fractionBits - m.log2)
  have e1 : f.binade = 2 ^ m.log2 * 2 ^ (f.fractionBits - m.log2) := by unfold Format.binade; rw [← Nat.pow_add]; congr 1; omega
  have e2 : 2 * f.binade = 2 ^ (m.log2 + 1) * 2 ^ (f.fractionBits - m.log2) := by rw [e1, Nat.pow_succ]; rw [Nat.mul_comm (2 ^ m.log2) 2, Nat.mul_assoc]
  rw [e2]
  exact ⟨by rw [e1]; exact Nat.mul_le_mul_right _ h1, Nat.mul_lt_mul_of_pos_right h2 hp⟩
theorem full_log2 {f : Format} {M : Nat} (h1 : f.binade ≤ M) (h2 : M < 2 * f.binade) : M.log2 = f.fractionBits := log2_eq h1 (by rw [Nat.pow_succ]; unfold Format.binade at h2; omega)
/-- Halving. -/
theorem div_two {f : Format} {M : Nat} {E : Int} (hf : 2 ≤ f.fractionBits) (h1 : f.binade ≤ M) (h2 : M < 2 * f.binade) (hE : f.leastPlace + 1 ≤ E) (hI : wd f M E < f.infRung) (two : Nat) (h2w : f.read two = .number false f.binade (1 - f.fractionBits)) :
    f.div (wd f M E) two = some (wd f M (E - 1)) := by
  have hB := binade_pos f
  unfold Format.div
  rw [read_wd h1 h2 (by omega) hI, h2w]
  have hl := full_log2 h1 h2
  have hlb : f.binade.log2 = f.fractionBits := full_log2 (Nat.le_refl _) (by omega)
  have hq : Datum.quotient (f.fractionBits + 2) (.number false M E) (.number false f.binade (1 - f.fractionBits)) = some (.number false (8 * M) (E - 4)) := by
    simp only [Datum.quotient]
    rw [if_neg (by omega)]
    simp only [hl, hlb]
    have h3 : f.fractionBits + 2 + f.fractionBits - f.fractionBits = f.fractionBits + 2 := by omega
    have h4 : M <<< (f.fractionBits + 2) = f.binade * (4 * M) := by
      rw [Nat.shiftLeft_eq, Nat.pow_add, show (2 : Nat) ^ 2 = 4 by rfl]
      unfold Format.binade
      rw [Nat.mul_comm M, Nat.mul_assoc]
    rw [h3, h4, Nat.mul_div_cancel_left _ hB, Nat.mul_mod_right]
    have h5 : 2 * (4 * M) + ((0 : Nat) != 0).toNat = 8 * M := by simp; omega
    have h6 : E - (1 - (f.fractionBits : Int)) - ((f.fractionBits + 2 : Nat) : Int) - 1 = E - 4 := by omega
    rw [h5, h6]
    rfl
  rw [hq]
  show some (f.nearest false (8 * M) (E - 4)) = _
  have hl8 : (8 * M).log2 = f.fractionBits + 3 := by
    refine log2_eq ?_ ?_
    · rw [Nat.pow_add]; unfold Format.binade at h1; omega
    · rw [show f.fractionBits + 3 + 1 = f.fractionBits + 4 by omega, Nat.pow_add]; unfold Format.binade at h2; omega
  unfold Format.nearest
  rw [if_neg (by omega), hl8]
  have h7 : max (E - 4 + ((f.fractionBits + 3 : Nat) : Int) - f.fractionBits) f.leastPlace = E - 1 := by omega
  simp only [h7]
  have h8 : (E - 4 - (E - 1)).toNat = 0 := by omega
  have h9 : (E - 1 - (E - 4)).toNat = 3 := by omega
  rw [h8, h9, Nat.shiftLeft_zero, cut_eight _ (by omega)]
  unfold Format.word
  rw [if_neg (by simp), Nat.min_eq_left]
  · rfl
  · have : (E - 1 - f.leastPlace).toNat * f.binade + M ≤ wd f M E := by
      unfold wd
      exact Nat.add_le_add_right (Nat.mul_le_mul_right _ (by omega)) _
    omega
theorem signed_pos (m up : Nat) : signed false m up = (m * 2 ^ up : Nat) := by simp [signed, Nat.shiftLeft_eq]
theorem order_num (m n : Nat) (i j : Int) : Datum.order (.number false m i) (.number false n j) = some (compare (((m * 2 ^ (i - min i j).toNat : Nat)) : Int) ((n * 2 ^ (j - min i j).toNat : Nat))) := by
  simp [Datum.order, signed_pos]
theorem order_le {m n : Nat} {i j : Int} (h : i ≤ j) : Datum.order (.number false m i) (.number false n j) = some (compare (m : Int) ((n * 2 ^ (j - i).toNat : Nat))) := by
  rw [order_num, show min i j = i by omega, Int.sub_self]
  simp
theorem order_ge {m n : Nat} {i j : Int} (h : j ≤ i) : Datum.order (.number false m i) (.number false n j) = some (compare (((m * 2 ^ (i - j).toNat : Nat)) : Int) (n : Int)) := by
  rw [order_num, show min i j = j by omega, Int.sub_self]
  simp
theorem cmp_eq {a b : Int} : (compare a b = .eq) ↔ a = b := by
  show (if a < b then Ordering.lt else if a = b then .eq else .gt) = .eq ↔ _
  constructor
  · intro h
    split at h
    · cases h
    · split at h
      · assumption
      · cases h
  · intro h
    rw [if_neg (by omega), if_pos h]
theorem cmp_lt {a b : Int} : (compare a b = .lt) ↔ a < b := by
  show (if a < b then Ordering.lt else if a = b then .eq else .gt) = .lt ↔ _
  constructor
  · intro h
    apply Classical.byContradiction
    intro hn
    rw [if_neg hn] at h
    split at h <;> cases h
  · intro h; rw [if_pos h]
/-- Against a power of two. -/
theorem order_pow {f : Format} {M : Nat} {E P : Int} (h1 : f.binade ≤ M) (h2 : M < 2 * f.binade) : (P ≤ E → Datum.order (.number false M E) (.number false f.binade P) ≠ some .lt) ∧ (E < P → Datum.order (.number false M E) (.number false f.binade P) = some .lt) := by
  have hB := binade_pos f
  refine ⟨fun h => ?_, fun h => ?_⟩
  · rw [order_ge h]
    intro he
    injection he with he
    rw [cmp_lt] at he
    have := Nat.le_mul_of_pos_right M (Nat.two_pow_pos (E - P).toNat)
    omega
  · rw [order_le (by omega)]
    congr 1
    rw [cmp_lt]
    have : 2 ≤ 2 ^ (P - E).toNat := by
      have h3 : (2 : Nat) ^ 1 ≤ 2 ^ (P - E).toNat := Nat.pow_le_pow_right (by omega) (by omega)
      simpa using h3
    have h4 := Nat.mul_le_mul_left f.binade this
    omega
theorem order_self (m : Nat) (i : Int) : Datum.order (.number false m i) (.number false m i) = some .eq := by
  rw [order_le (Int.le_refl _), Int.sub_self]
  simp
/-- A number below one and above nought, or any with a negative place, cut to a whole one. -/
theorem toInt_neg {M d : Nat} {E : Int} (hM : M < 2 ^ 54) (hd : E = -(d : Int)) (hd0 : 0 < d) : Datum.toInt .zero (.number false M E) = some ((M / 2 ^ d : Nat) : Int) := by
  have h1 : E.toNat = 0 := by omega
  have h2 : (-E).toNat = d := by omega
  simp only [Datum.toInt, Datum.integral, h1, h2, Nat.shiftLeft_zero]
  have hc : Toward.zero.cut false M d = M / 2 ^ d := by
    simp only [Toward.cut, Nat.shiftLeft_eq, Nat.one_mul, Bool.toNat_false, Nat.add_zero]
    by_cases h : d ≤ M.log2 + 2
    · rw [Nat.min_eq_left h]
    · rw [Nat.min_eq_right (by omega)]
      have h3 : M < 2 ^ (M.log2 + 1) := Nat.lt_log2_self
      have h4 : M < 2 ^ (M.log2 + 2) := Nat.lt_of_lt_of_le h3 (Nat.pow_le_pow_right (by omega) (by omega))
      have h5 : M < 2 ^ d := Nat.lt_of_lt_of_le h4 (Nat.pow_le_pow_right (by omega) (by omega))
      rw [Nat.div_eq_of_lt h4, Nat.div_eq_of_lt h5]
  rw [hc, signed_pos]
  simp

/-! ## REMB's number -/
/-- What a word of 32 bits says as a full significand of 53 bits and a place; nothing of noughts, of what is less than nought, of what is no number. -/
def fullOf (b : Nat) : Option (Nat × Int) :=
  match single.read b with
  | .number false m p => if m = 0 then none else some (m * 2 ^ (52 - m.log2), p - (52 - m.log2 : Nat))
  | _ => none
/-- How often a number is halved until it is below 2^18; the digits behind the point then. -/
def halves (E : Int) : Nat := (E + 35).toNat
def rest (E : Int) : Nat := ((halves E : Int) - E).toNat
def mantF (b : Nat) : Bool := match fullOf b with
  | none => false
  | some (M, E) => decide (halves E ≤ 63) && decide (M % 2 ^ rest E = 0)
def mantQ (b : Nat) : Nat × Nat := match fullOf b with
  | none => (0, 0)
  | some (M, E) => (halves E, M / 2 ^ rest E)
theorem read_single {b m : Nat} {p : Int} (h : single.read b = .number false m p) : m < 2 ^ 24 ∧ -149 ≤ p ∧ p ≤ 104 := by
  have hs : single.signWeight = 2147483648 := rfl
  have hB : single.binade = 8388608 := rfl
  have hI : single.infRung = 2139095040 := rfl
  have hL : single.leastPlace = -149 := rfl
  unfold Format.read at h
  simp only [hs, hB, hI, hL] at h
  split at h
  · injection h with _ h2 h3
    subst h2 h3
    omega
  · split at h
    · injection h with _ h2 h3
      subst h2 h3
      omega
    · split at h <;> cases h
theorem fullOf_some {b M : Nat} {E : Int} (h : fullOf b = some (M, E)) : double.binade ≤ M ∧ M < 2 * double.binade ∧ -201 ≤ E ∧ E ≤ 75 ∧ ∃ m p, single.read b = .number false m p ∧ 0 < m ∧ m.log2 ≤ 23 ∧ M = m * 2 ^ (52 - m.log2) ∧ E = p - (52 - m.log2 : Nat) := by
  unfold fullOf at h
  split at h
  · rename_i m p hr
    split at h
    · cases h
    · rename_i hm
      injection h with h
      injection h with h1 h2
      obtain ⟨hb1, hb2, hb3⟩ := read_single hr
      have hl : m.log2 ≤ 23 := by
        have := (Nat.log2_lt hm).2 hb1
        omega
      have hf := full_norm (f := double) (m := m) (by omega) (show m.log2 ≤ 52 by omega)
      have h52 : double.fractionBits = 52 := rfl
      rw [h52] at hf
      subst h1 h2
      exact ⟨hf.1, hf.2, by omega, by omega, m, p, hr, by omega, hl, rfl, rfl⟩
  · cases h
theorem wd_lt {M : Nat} {E : Int} (h2 : M < 2 * double.binade) (hE : E ≤ 200) : wd double M E < double.infRung := by
  have hB : double.binade = 4503599627370496 := rfl
  have hI : double.infRung = 9218868437227405312 := rfl
  have hL : double.leastPlace = -1074 := rfl
  unfold wd
  rw [hB] at h2 ⊢
  rw [hI, hL]
  omega
theorem least_le {E : Int} (h : -1000 ≤ E) : double.leastPlace ≤ E := by
  have hL : double.leastPlace = -1074 := rfl
  omega
/-- The wider word. -/
theorem widen {b M : Nat} {E : Int} (h : fullOf b = some (M, E)) : Go.floatToFloatBits .f32 b .f64 = some (wd double M E) := by
  obtain ⟨h1, h2, h3, h4, m, p, hr, hm, hl, hM, hE⟩ := fullOf_some h
  have hw : double.write (.number false m p) = wd double M E := by
    rw [hM, hE]
    exact write_exact (f := double) hm (show m.log2 ≤ 52 by omega) (by rw [show double.fractionBits = 52 from rfl, ← hE]; exact least_le (by omega)) (by rw [show double.fractionBits = 52 from rfl, ← hE, ← hM]; exact wd_lt h2 (by omega))
  unfold Go.floatToFloatBits
  rw [if_neg (by decide)]
  show (match single.read b with | .nan _ _ => none | .infinity s => _ | .number s m e => _) = _
  rw [hr]
  show (if (double.read (double.write (.number false m p))).isInfinity then none else some (double.write (.number false m p))) = _
  rw [hw, read_wd h1 h2 (least_le (by omega)) (wd_lt h2 (by omega))]
  rfl
def two18 : Nat := 4688247212092686336
def two1 : Nat := 4611686018427387904
theorem read_two18 : double.read two18 = .number false double.binade (-34) := by decide +kernel
theorem read_two1 : double.read two1 = .number false double.binade (1 - double.fractionBits) := by decide +kernel
theorem read_zero : double.read 0 = .number false 0 (-1074) := by decide +kernel
theorem halve {M : Nat} {E : Int} (h1 : double.binade ≤ M) (h2 : M < 2 * double.binade) (h3 : -900 ≤ E) (h4 : E ≤ 200) : double.div (wd double M E) two1 = some (wd double M (E - 1)) :=
  div_two (by decide) h1 h2 (by have hL : double.leastPlace = -1074 := rfl; omega) (wd_lt h2 h4) two1 read_two1
theorem geq18 {M : Nat} {E : Int} (h1 : double.binade ≤ M) (h2 : M < 2 * double.binade) (h3 : -900 ≤ E) (h4 : E ≤ 200) : (double.order (wd double M E) two18 == some .gt || double.order (wd double M E) two18 == some .eq) = decide (-34 ≤ E) := by
  unfold Format.order
  rw [read_wd h1 h2 (least_le (by omega)) (wd_lt h2 h4), read_two18]
  obtain ⟨ha, hb⟩ := order_pow (P := -34) (E := E) h1 h2
  by_cases h : -34 ≤ E
  · have := ha h
    rw [decide_eq_true h]
    rw [order_num] at this ⊢
    generalize compare (_ : Int) (_ : Int) = o at this ⊢
    cases o
    · exact absurd rfl this
    · rfl
    · rfl
  · rw [decide_eq_false h, hb (by omega)]
    rfl
theorem self_eq {M : Nat} {E : Int} (h1 : double.binade ≤ M) (h2 : M < 2 * double.binade) (h3 : -900 ≤ E) (h4 : E ≤ 200) : double.order (wd double M E) (wd double M E) = some .eq := by
  unfold Format.order
  rw [read_wd h1 h2 (least_le (by omega)) (wd_lt h2 h4)]
  exact order_self M E
theorem self_sub {M : Nat} {E : Int} (h1 : double.binade ≤ M) (h2 : M < 2 * double.binade) (h3 : -900 ≤ E) (h4 : E ≤ 200) : double.sub (wd double M E) (wd double M E) = some 0 := by
  unfold Format.sub
  rw [read_wd h1 h2 (least_le (by omega)) (wd_lt h2 h4)]
  have : Datum.sum (.number false M E) (Datum.number false M E).opposite = some (.number false 0 E) := by
    simp only [Datum.opposite, Datum.sum, Int.min_self, Int.sub_self, signed]
    simp
    omega
  rw [this]
  show some (double.nearest false 0 E) = _
  unfold Format.nearest
  rw [if_pos rfl]
  rfl
theorem not_zero {M : Nat} {E : Int} (h1 : double.binade ≤ M) (h2 : M < 2 * double.binade) (h3 : -900 ≤ E) (h4 : E ≤ 200) : (double.order (wd double M E) 0 == some .eq) = false := by
  unfold Format.order
  rw [read_wd h1 h2 (least_le (by omega)) (wd_lt h2 h4), read_zero, order_ge (by omega)]
  have hB := binade_pos double
  have : ¬ ((M * 2 ^ (E - -1074).toNat : Nat) : Int) = ((0 : Nat) : Int) := by
    have := Nat.le_mul_of_pos_right M (Nat.two_pow_pos (E - -1074).toNat)
    omega
  generalize hc : compare ((M * 2 ^ (E - -1074).toNat : Nat) : Int) ((0 : Nat) : Int) = o
  cases o
  · rfl
  · exact absurd (cmp_eq.1 hc) this
  · rfl
theorem rest_pos (E : Int) (h : E ≤ 200) : 0 < rest E ∧ 35 ≤ rest E ∧ E - halves E = -(rest E : Int) := by
  unfold rest halves; omega
theorem u32_in (q : Nat) (hq : q < 2 ^ 18) : (if Go.IntKind.u32.min ≤ (q : Int) ∧ (q : Int) ≤ Go.IntKind.u32.max then some (q : Int) else none) = some (q : Int) := by
  have h18 : (2 : Nat) ^ 18 = 262144 := by simp
  rw [h18] at hq
  have hmin : Go.IntKind.u32.min = 0 := by decide
  have hmax : Go.IntKind.u32.max = 4294967295 := by decide
  rw [hmin, hmax, if_pos (by omega)]
theorem ftoi (x q : Nat) (h : (double.read x).toInt .zero = some (q : Int)) (hq : q < 2 ^ 18) : Go.floatToIntVal .f64 x .u32 = some (q : Int) := by
  unfold Go.floatToIntVal
  rw [show Go.FloatKind.decode .f64 x = double.read x from rfl, h]
  exact u32_in q hq
/-- The last number cut to a whole one. -/
theorem toInt_last {M : Nat} {E : Int} (h1 : double.binade ≤ M) (h2 : M < 2 * double.binade) (h3 : -900 ≤ E) (h4 : E ≤ 200) : Go.floatToIntVal .f64 (wd double M (E - halves E)) .u32 = some ((M / 2 ^ rest E : Nat) : Int) ∧ M / 2 ^ rest E < 2 ^ 18 := by
  obtain ⟨hr0, hr1, hr2⟩ := rest_pos E h4
  have hB : double.binade = 4503599627370496 := rfl
  have hq : M / 2 ^ rest E < 2 ^ 18 := by
    refine Nat.div_lt_of_lt_mul ?_
    have : (2 : Nat) ^ 35 ≤ 2 ^ rest E := Nat.pow_le_pow_right (by omega) hr1
    exact Nat.lt_of_lt_of_le h2 (Nat.le_trans (by decide +kernel : 2 * double.binade ≤ 2 ^ 35 * 2 ^ 18) (Nat.mul_le_mul_right _ this))
  refine ⟨?_, hq⟩
  have hE' : E - halves E ≤ 200 ∧ -1000 ≤ E - halves E := by unfold halves; omega
  have hd : double.read (wd double M (E - halves E)) = .number false M (E - halves E) := read_wd h1 h2 (least_le hE'.2) (wd_lt h2 hE'.1)
  have h54 : M < 2 ^ 54 := Nat.lt_of_lt_of_le h2 (by decide +kernel)
  exact ftoi _ _ (by rw [hd, toInt_neg h54 hr2 hr0]) hq
/-- The whole number as a float again: the same just if nothing was cut off. -/
theorem back_eq {M : Nat} {E : Int} (h1 : double.binade ≤ M) (h2 : M < 2 * double.binade) (h3 : -900 ≤ E) (h4 : E ≤ 200) : (double.order (wd double M (E - halves E)) (Go.floatOfInt .f64 ((M / 2 ^ rest E : Nat) : Int)) != some .eq) = !decide (M % 2 ^ rest E = 0) := by
  obtain ⟨hr0, hr1, hr2⟩ := rest_pos E h4
  have hE' : E - halves E ≤ 200 ∧ -1000 ≤ E - halves E := by unfold halves; omega
  have hB : double.binade = 4503599627370496 := rfl
  obtain ⟨q, hq⟩ : ∃ q, q = M / 2 ^ rest E := ⟨_, rfl⟩
  have hq18 := (toInt_last h1 h2 h3 h4).2
  rw [← hq] at hq18 ⊢
  have hdm : M = q * 2 ^ rest E + M % 2 ^ rest E := by rw [hq, Nat.mul_comm]; exact (Nat.div_add_mod M _).symm
  have key : ∀ o : Option Ordering, (o = some .eq ↔ M = q * 2 ^ rest E) → (o != some .eq) = !decide (M % 2 ^ rest E = 0) := fun o ho => by
    by_cases hz : M % 2 ^ rest E = 0
    · rw [ho.2 (by omega), decide_eq_true hz]; rfl
    · rw [decide_eq_false hz]
      have hne : o ≠ some .eq := fun e => hz (by have := ho.1 e; omega)
      cases o with
      | none => rfl
      | some o => cases o <;> first | rfl | exact absurd rfl hne
  refine key _ ?_
  unfold Format.order
  rw [read_wd h1 h2 (least_le hE'.2) (wd_lt h2 hE'.1), hr2]
  have hfl : Go.floatOfInt .f64 ((q : Nat) : Int) = double.write (.number false q 0) := by
    show double.write (.number (decide (((q : Nat) : Int) < 0)) (((q : Nat) : Int).natAbs) 0) = _
    rw [decide_eq_false (by omega), Int.natAbs_natCast]
  rw [hfl]
  by_cases hq0 : q = 0
  · subst hq0
    have hw : double.write (.number false 0 0) = 0 := rfl
    rw [hw, read_zero]
    have hMne : M ≠ 0 := by omega
    by_cases hle : -(rest E : Int) ≤ -1074
    · rw [order_le hle]
      constructor
      · intro he; injection he with he; rw [cmp_eq] at he; omega
      · intro he; omega
    · rw [order_ge (by omega)]
      constructor
      · intro he
        injection he with he
        rw [cmp_eq] at he
        have := Nat.le_mul_of_pos_right M (Nat.two_pow_pos (-(rest E : Int) - -1074).toNat)
        omega
      · intro he; omega
  · have hl : q.log2 ≤ 17 := by have := (Nat.log2_lt hq0).2 hq18; omega
    have h52 : double.fractionBits = 52 := rfl
    have hn := full_norm (f := double) (m := q) (by omega) (show q.log2 ≤ 52 by omega)
    rw [h52] at hn
    have hw : double.write (.number false q 0) = wd double (q * 2 ^ (52 - q.log2)) (0 - (52 - q.log2 : Nat)) :=
      write_exact (f := double) (by omega) (show q.log2 ≤ 52 by omega) (by rw [h52]; exact least_le (by omega)) (by rw [h52]; exact wd_lt hn.2 (by omega))
    rw [hw, read_wd hn.1 hn.2 (least_le (by omega)) (wd_lt hn.2 (by omega))]
    by_cases hle : -(rest E : Int) ≤ 0 - ((52 - q.log2 : Nat) : Int)
    · rw [order_le hle]
      have hp : q * 2 ^ (52 - q.log2) * 2 ^ (0 - ((52 - q.log2 : Nat) : Int) - -(rest E : Int)).toNat = q * 2 ^ rest E := by
        rw [Nat.mul_assoc, ← Nat.pow_add]
        congr 2
        omega
      rw [hp]
      constructor
      · intro he; injection he with he; rw [cmp_eq] at he; omega
      · intro he; congr 1; rw [cmp_eq]; omega
    · rw [order_ge (by omega)]
      have hs : 52 - q.log2 = (-(rest E : Int) - (0 - ((52 - q.log2 : Nat) : Int))).toNat + rest E := by omega
      obtain ⟨x, hx⟩ : ∃ x, x = (-(rest E : Int) - (0 - ((52 - q.log2 : Nat) : Int))).toNat := ⟨_, rfl⟩
      rw [← hx] at hs ⊢
      have hp : q * 2 ^ (52 - q.log2) = q * 2 ^ rest E * 2 ^ x := by
        rw [Nat.mul_assoc, ← Nat.pow_add, hs, Nat.add_comm]
      rw [hp]
      constructor
      · intro he
        injection he with he
        rw [cmp_eq] at he
        have := Nat.eq_of_mul_eq_mul_right (Nat.two_pow_pos x) (show M * 2 ^ x = q * 2 ^ rest E * 2 ^ x by omega)
        exact this
      · intro he; congr 1; rw [cmp_eq, he]
end Go.Proofs.YtmmfpgoodfgkbaaGreat
