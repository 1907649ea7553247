/-
  FLOATS as the model has them: the word of a full significand; writing what fits exactly; halving; comparing with a power of two; cutting to a whole number. No condition.
-/
import Derived.Laws.FloatArith
namespace Go.Proofs.YtmmfpgoodfgkbaaGreatDoor
open Ieee
set_option linter.unusedVariables false

def wd (f : Format) (M : Nat) (E : Int) : Nat := (E - f.leastPlace).toNat * f.binade + M
theorem binade_pos (f : Format) : 0 < f.binade := Nat.two_pow_pos _
theorem log2_eq {m k : Nat} (h1 : 2 ^ k ≤ m) (h2 : m < 2 ^ (k + 1)) : m.log2 = k := by
 have hm : m ≠ 0 := by have := Nat.two_pow_pos k; omega
 have h3 := (Nat.le_log2 hm).2 h1
 have h4 := (Nat.log2_lt hm).2 h2
 omega
theorem log2_bounds {m : Nat} (h : m ≠ 0) : 2 ^ m.log2 ≤ m ∧ m < 2 ^ (m.log2 + 1) := ⟨Nat.log2_self_le h, Nat.lt_log2_self⟩
theorem read_wd {f : Format} {M : Nat} {E : Int} (h1 : f.binade ≤ M) (h2 : M < 2 * f.binade) (hE : f.leastPlace ≤ E) (hI : wd f M E < f.infRung) : f.read (wd f M E) = .number false M E := by
 have hB := binade_pos f
 have hs := Ieee.Format.infRung_lt f
 have h3 : wd f M E / f.signWeight = 0 := Nat.div_eq_of_lt (by omega)
 have h4 : wd f M E % f.signWeight = wd f M E := Nat.mod_eq_of_lt (by omega)
 have h5 : ¬ wd f M E < f.binade := by unfold wd; have := Nat.le_add_left M ((E - f.leastPlace).toNat * f.binade); omega
 have hk : wd f M E = (M - f.binade) + f.binade * ((E - f.leastPlace).toNat + 1) := by
  unfold wd
  rw [Nat.mul_add, Nat.mul_one, Nat.mul_comm]
  omega
 have h6 : wd f M E % f.binade = M - f.binade := by rw [hk, Nat.add_mul_mod_self_left, Nat.mod_eq_of_lt (by omega)]
 have h7 : wd f M E / f.binade = (E - f.leastPlace).toNat + 1 := by rw [hk, Nat.add_mul_div_left _ _ hB, Nat.div_eq_of_lt (by omega), Nat.zero_add]
 unfold Format.read
 simp only [h3, h4]
 rw [if_neg h5, if_pos hI, h6, h7]
 have h8 : f.binade + (M - f.binade) = M := by omega
 have h9 : f.leastPlace + ((((E - f.leastPlace).toNat + 1 - 1 : Nat)) : Int) = E := by omega
 rw [h8, h9]
 rfl
theorem cut_zero (way : Toward) (neg : Bool) (n : Nat) : way.cut neg n 0 = n := by
 cases way <;> simp [Toward.cut, Nat.mod_one]
theorem write_exact {f : Format} {m : Nat} {e : Int} (hm : 0 < m) (hl : m.log2 ≤ f.fractionBits) (hE : f.leastPlace ≤ e - (f.fractionBits - m.log2 : Nat)) (hI : wd f (m * 2 ^ (f.fractionBits - m.log2)) (e - (f.fractionBits - m.log2 : Nat)) < f.infRung) :
  f.write (.number false m e) = wd f (m * 2 ^ (f.fractionBits - m.log2)) (e - (f.fractionBits - m.log2 : Nat)) := by
 have h1 : max (e + (m.log2 : Int) - f.fractionBits) f.leastPlace = e - (f.fractionBits - m.log2 : Nat) := by omega
 show f.nearest false m e = _
 unfold Format.nearest
 rw [if_neg (by omega)]
 simp only [h1]
 have h2 : (e - (e - (f.fractionBits - m.log2 : Nat))).toNat = f.fractionBits - m.log2 := by omega
 have h3 : (e - (f.fractionBits - m.log2 : Nat) - e).toNat = 0 := by omega
 rw [h2, h3, cut_zero, Nat.shiftLeft_eq]
 unfold Format.word
 rw [if_neg (by simp)]
 exact Nat.min_eq_left (Nat.le_of_lt hI)
theorem full_norm {f : Format} {m : Nat} (hm : 0 < m) (hl : m.log2 ≤ f.fractionBits) : f.binade ≤ m * 2 ^ (f.fractionBits - m.log2) ∧ m * 2 ^ (f.fractionBits - m.log2) < 2 * f.binade := by
 obtain ⟨h1, h2⟩ := log2_bounds (m := m) (by omega)
 have hp := Nat.two_pow_pos (f.fractionBits - m.log2)
 have e1 : f.binade = 2 ^ m.log2 * 2 ^ (f.fractionBits - m.log2) := by unfold Format.binade; rw [← Nat.pow_add]; congr 1; omega
 have e2 : 2 * f.binade = 2 ^ (m.log2 + 1) * 2 ^ (f.fractionBits - m.log2) := by rw [e1, Nat.pow_succ]; rw [Nat.mul_comm (2 ^ m.log2) 2, Nat.mul_assoc]
 rw [e2]
 exact ⟨by rw [e1]; exact Nat.mul_le_mul_right _ h1, Nat.mul_lt_mul_of_pos_right h2 hp⟩
theorem full_log2 {f : Format} {M : Nat} (h1 : f.binade ≤ M) (h2 : M < 2 * f.binade) : M.log2 = f.fractionBits := log2_eq h1 (by rw [Nat.pow_succ]; unfold Format.binade at h2; omega)
/-! ## REMB's number -/
def halves (E : Int) : Nat := (E + 35).toNat
def rest (E : Int) : Nat := ((halves E : Int) - E).toNat
theorem wd_lt {M : Nat} {E : Int} (h2 : M < 2 * double.binade) (hE : E ≤ 200) : wd double M E < double.infRung := by
 have hB : double.binade = 4503599627370496 := rfl
 have hI : double.infRung = 9218868437227405312 := rfl
 have hL : double.leastPlace = -1074 := rfl
 unfold wd
 rw [hB] at h2 ⊢
 rw [hI, hL]
 omega
theorem least_le {E : Int} (h : -1000 ≤ E) : double.leastPlace ≤ E := by
 have hL : double.leastPlace = -1074 := rfl
 omega
def two1 : Nat := 4611686018427387904
theorem read_two1 : double.read two1 = .number false double.binade (1 - double.fractionBits) := by decide +kernel
end Go.Proofs.YtmmfpgoodfgkbaaGreatDoor
namespace Go.Proofs.YtmmfpgoodfgkbaaGreatDoor
open Ieee
set_option linter.unusedVariables false

theorem cut_pow (M k : Nat) (hM : 0 < M) : Toward.even.cut false (M * 2 ^ k) k = M := by
 have hp := Nat.two_pow_pos k
 have h1 : min k ((M * 2 ^ k).log2 + 2) = k := by
  have : k ≤ (M * 2 ^ k).log2 := (Nat.le_log2 (Nat.ne_of_gt (Nat.mul_pos hM hp))).2 (Nat.le_mul_of_pos_left _ hM)
  omega
 simp only [Toward.cut, h1, Nat.shiftLeft_eq, Nat.one_mul]
 rw [Nat.mul_div_cancel _ hp, Nat.mul_mod_left]
 have h3 : (2 ^ k == 2 * 0) = false := beq_eq_false_iff_ne.2 (by omega)
 simp [h3]
theorem mul_two {f : Format} {M : Nat} {E : Int} (h1 : f.binade ≤ M) (h2 : M < 2 * f.binade) (hE : f.leastPlace ≤ E) (hI : wd f M E < f.infRung) (hI2 : wd f M (E + 1) < f.infRung) (two : Nat) (h2w : f.read two = .number false f.binade (1 - f.fractionBits)) :
  f.mul (wd f M E) two = some (wd f M (E + 1)) := by
 have hB := binade_pos f
 unfold Format.mul
 rw [read_wd h1 h2 hE hI, h2w]
 show some (f.nearest false (M * f.binade) (E + (1 - f.fractionBits))) = _
 have hl : (M * f.binade).log2 = f.fractionBits + f.fractionBits := by
  refine log2_eq ?_ ?_
  ·rw [Nat.pow_add]; exact Nat.mul_le_mul h1 (Nat.le_refl _)
  ·rw [show f.fractionBits + f.fractionBits + 1 = (f.fractionBits + 1) + f.fractionBits by omega, Nat.pow_add, Nat.pow_succ]
   refine Nat.mul_lt_mul_of_pos_right ?_ hB
   unfold Format.binade at h2
   omega
 unfold Format.nearest
 rw [if_neg (Nat.ne_of_gt (Nat.mul_pos (by omega) hB)), hl]
 have h7 : max (E + (1 - (f.fractionBits : Int)) + ((f.fractionBits + f.fractionBits : Nat) : Int) - f.fractionBits) f.leastPlace = E + 1 := by omega
 simp only [h7]
 have h8 : (E + (1 - (f.fractionBits : Int)) - (E + 1)).toNat = 0 := by omega
 have h9 : (E + 1 - (E + (1 - (f.fractionBits : Int)))).toNat = f.fractionBits := by omega
 rw [h8, h9, Nat.shiftLeft_zero, show M * f.binade = M * 2 ^ f.fractionBits from rfl, cut_pow M _ (by omega)]
 unfold Format.word
 rw [if_neg (by simp), Nat.min_eq_left]
 ·rfl
 ·exact Nat.le_of_lt hI2
def dbl (m k : Nat) : Nat := wd double (m * 2 ^ (52 - m.log2)) ((k : Int) - (52 - m.log2 : Nat))
def sgl (m k : Nat) : Nat := wd single (m * 2 ^ (23 - m.log2)) ((k : Int) - (23 - m.log2 : Nat))
theorem m18_log {m : Nat} (h0 : 0 < m) (h1 : m < 262144) : m.log2 ≤ 17 := by
 have := (Nat.log2_lt (by omega : m ≠ 0)).2 (show m < 2 ^ 18 by simpa using h1)
 omega
theorem dbl_norm {m : Nat} (h0 : 0 < m) (h1 : m < 262144) : double.binade ≤ m * 2 ^ (52 - m.log2) ∧ m * 2 ^ (52 - m.log2) < 2 * double.binade := by
 have := m18_log h0 h1
 exact full_norm (f := double) h0 (show m.log2 ≤ 52 by omega)
theorem sgl_norm {m : Nat} (h0 : 0 < m) (h1 : m < 262144) : single.binade ≤ m * 2 ^ (23 - m.log2) ∧ m * 2 ^ (23 - m.log2) < 2 * single.binade := by
 have := m18_log h0 h1
 exact full_norm (f := single) h0 (show m.log2 ≤ 23 by omega)
theorem dbl_write {m k : Nat} (h0 : 0 < m) (h1 : m < 262144) (hk : k ≤ 100) : double.write (.number false m k) = dbl m k := by
 have hl := m18_log h0 h1
 have hn := dbl_norm h0 h1
 exact write_exact (f := double) h0 (show m.log2 ≤ 52 by omega) (by rw [show double.fractionBits = 52 from rfl]; exact least_le (by omega)) (by rw [show double.fractionBits = 52 from rfl]; exact wd_lt hn.2 (by omega))
theorem dbl_zero {m : Nat} (h0 : 0 < m) (h1 : m < 262144) : Go.floatOfInt .f64 (m : Int) = dbl m 0 := by
 rw [← dbl_write h0 h1 (by omega)]
 have : decide ((m : Int) < 0) = false := decide_eq_false (by omega)
 show double.write (.number (decide ((m : Int) < 0)) (m : Int).natAbs 0) = _
 rw [this]
 rfl
theorem dbl_succ {m k : Nat} (h0 : 0 < m) (h1 : m < 262144) (hk : k ≤ 100) : double.mul (dbl m k) two1 = some (dbl m (k + 1)) := by
 have hl := m18_log h0 h1
 have hn := dbl_norm h0 h1
 unfold dbl
 rw [show (((k + 1 : Nat)) : Int) - (52 - m.log2 : Nat) = (k : Int) - (52 - m.log2 : Nat) + 1 by omega]
 exact mul_two hn.1 hn.2 (least_le (by omega)) (wd_lt hn.2 (by omega)) (wd_lt hn.2 (by omega)) two1 read_two1
theorem sgl_lt {m k : Nat} (h0 : 0 < m) (h1 : m < 262144) (hk : k ≤ 63) : sgl m k < single.infRung := by
 have hl := m18_log h0 h1
 have hn := sgl_norm h0 h1
 have hB : single.binade = 8388608 := rfl
 have hI : single.infRung = 2139095040 := rfl
 have hL : single.leastPlace = -149 := rfl
 unfold sgl wd
 rw [hB] at hn ⊢
 rw [hI, hL]
 omega
theorem dbl_read {m k : Nat} (h0 : 0 < m) (h1 : m < 262144) (hk : k ≤ 63) : double.read (dbl m k) = .number false (m * 2 ^ (52 - m.log2)) ((k : Int) - (52 - m.log2 : Nat)) := by
 have hl := m18_log h0 h1
 have hn := dbl_norm h0 h1
 exact read_wd hn.1 hn.2 (least_le (by omega)) (wd_lt hn.2 (by omega))
theorem sgl_read {m k : Nat} (h0 : 0 < m) (h1 : m < 262144) (hk : k ≤ 63) : single.read (sgl m k) = .number false (m * 2 ^ (23 - m.log2)) ((k : Int) - (23 - m.log2 : Nat)) := by
 have hs := sgl_norm h0 h1
 have hL : single.leastPlace = -149 := rfl
 exact read_wd hs.1 hs.2 (by rw [hL]; omega) (sgl_lt h0 h1 hk)
theorem near_cut {f : Format} {M n d : Nat} {e : Int} (hM : 0 < M) (hlog : (M * 2 ^ d).log2 = n + d) (hn : n = f.fractionBits) (he : f.leastPlace ≤ e + d) (hlt : wd f M (e + d) < f.infRung) : f.nearest false (M * 2 ^ d) e = wd f M (e + d) := by
 unfold Format.nearest
 rw [if_neg (Nat.ne_of_gt (Nat.mul_pos hM (Nat.two_pow_pos d))), hlog]
 have h7 : max (e + ((n + d : Nat) : Int) - f.fractionBits) f.leastPlace = e + d := by omega
 simp only [h7]
 have h8 : (e - (e + (d : Int))).toNat = 0 := by omega
 have h9 : (e + (d : Int) - e).toNat = d := by omega
 rw [h8, h9, Nat.shiftLeft_zero, cut_pow _ d hM]
 unfold Format.word
 rw [if_neg (by simp), Nat.min_eq_left]
 ·rfl
 ·exact Nat.le_of_lt hlt
theorem sgl_write {m k : Nat} (h0 : 0 < m) (h1 : m < 262144) (hk : k ≤ 63) : single.write (.number false (m * 2 ^ (52 - m.log2)) ((k : Int) - (52 - m.log2 : Nat))) = sgl m k := by
 have hl := m18_log h0 h1
 have hn := dbl_norm h0 h1
 have hL : single.leastPlace = -149 := rfl
 have hlt := sgl_lt h0 h1 hk
 have hl52 := full_log2 (f := double) hn.1 hn.2
 have h52 : double.fractionBits = 52 := rfl
 have h23 : single.fractionBits = 23 := rfl
 rw [h52] at hl52
 obtain ⟨M, hM⟩ : ∃ M, M = m * 2 ^ (23 - m.log2) := ⟨_, rfl⟩
 have e1 : m * 2 ^ (52 - m.log2) = M * 2 ^ 29 := by rw [hM, Nat.mul_assoc, ← Nat.pow_add]; congr 2; omega
 obtain ⟨e, he⟩ : ∃ e : Int, e = (k : Int) - (52 - m.log2 : Nat) := ⟨_, rfl⟩
 have e2 : (k : Int) - (23 - m.log2 : Nat) = e + (29 : Nat) := by omega
 have hs : sgl m k = wd single M (e + (29 : Nat)) := by unfold sgl; rw [e2, hM]
 rw [hs] at hlt ⊢
 rw [e1] at hl52 ⊢
 rw [← he]
 have hM0 : 0 < M := by rw [hM]; exact Nat.mul_pos h0 (Nat.two_pow_pos _)
 exact near_cut (n := 23) hM0 hl52 h23.symm (by rw [hL]; omega) hlt
theorem dbl_sgl {m k : Nat} (h0 : 0 < m) (h1 : m < 262144) (hk : k ≤ 63) : Go.floatToFloatBits .f64 (dbl m k) .f32 = some (sgl m k) := by
 unfold Go.floatToFloatBits
 rw [if_neg (by decide)]
 rw [show Go.FloatKind.decode .f64 (dbl m k) = double.read (dbl m k) from rfl, dbl_read h0 h1 hk]
 have h := sgl_write h0 h1 hk
 have h2 := sgl_read h0 h1 hk
 generalize m * 2 ^ (52 - m.log2) = a at *
 generalize ((k : Int) - (52 - m.log2 : Nat)) = b at *
 generalize sgl m k = c at *
 generalize m * 2 ^ (23 - m.log2) = x at *
 generalize ((k : Int) - (23 - m.log2 : Nat)) = z at *
 show (if (single.read (single.write (.number false a b))).isInfinity then none else some (single.write (.number false a b))) = _
 rw [h, h2]
 rfl
def ups (m : Nat) : Nat := 23 - m.log2
theorem ups_le {m : Nat} (h0 : 0 < m) (h1 : m < 262144) : 6 ≤ ups m ∧ ups m ≤ 23 := by
 have := m18_log h0 h1
 unfold ups; omega
theorem ups_lt {m j : Nat} (h0 : 0 < m) (h1 : m < 262144) (hj : j < ups m) : m * 2 ^ j < 8388608 := by
 have hl := m18_log h0 h1
 unfold ups at hj
 have h2 : m < 2 ^ (m.log2 + 1) := Nat.lt_log2_self
 have h3 : m * 2 ^ j < 2 ^ (m.log2 + 1) * 2 ^ j := Nat.mul_lt_mul_of_pos_right h2 (Nat.two_pow_pos j)
 rw [← Nat.pow_add] at h3
 have h4 : 2 ^ (m.log2 + 1 + j) ≤ 2 ^ 23 := Nat.pow_le_pow_right (by omega) (by omega)
 have : (2 : Nat) ^ 23 = 8388608 := rfl
 omega
theorem ups_at {m : Nat} (h0 : 0 < m) (h1 : m < 262144) : 8388608 ≤ m * 2 ^ ups m ∧ m * 2 ^ ups m < 16777216 := by
 have := sgl_norm h0 h1
 have hB : single.binade = 8388608 := rfl
 rw [hB] at this
 exact this
theorem sgl_parts {m k : Nat} (h0 : 0 < m) (h1 : m < 262144) : sgl m k = (k + 150 - ups m) * 8388608 + (m * 2 ^ ups m - 8388608) := by
 have hl := m18_log h0 h1
 have hn := ups_at h0 h1
 have hB : single.binade = 8388608 := rfl
 have hL : single.leastPlace = -149 := rfl
 show ((k : Int) - (23 - m.log2 : Nat) - single.leastPlace).toNat * single.binade + m * 2 ^ ups m = _
 rw [hB, hL]
 have e : ((k : Int) - (23 - m.log2 : Nat) - -149).toNat = k + 149 - ups m := by unfold ups; omega
 rw [e]
 have hu := ups_le h0 h1
 obtain ⟨q, hq⟩ : ∃ q, q = k + 149 - ups m := ⟨_, rfl⟩
 rw [← hq, show k + 150 - ups m = q + 1 by omega]
 omega
end Go.Proofs.YtmmfpgoodfgkbaaGreatDoor
