/-
  THE WALK of the reference's kind of a header. No condition.
-/
import Derived.Test.YtmmfpgoodfgkbaaGreatMSep
namespace Go.Proofs.YtmmfpgoodfgkbaaGreat
open Go Go.RowKit
set_option linter.unusedVariables false

def kindOf (c t : Int) : Int :=
  if t = 200 then 1 else if t = 201 then 2 else if t = 202 then 3 else if t = 203 then 4 else if t = 204 then 5 else
  if t = 205 then (if c = 1 then 6 else if c = 5 then 7 else if c = 11 then 8 else if c = 15 then 13 else 0) else
  if t = 206 then (if c = 1 then 9 else if c = 2 then 10 else if c = 4 then 11 else if c = 15 then 12 else 0) else 0
set_option maxHeartbeats 4000000 in
theorem kindOf_any (b : Bool) (c t l : Int) (w : World) :
    Calls Tryz.prog 36 #[.agg #[.bool b, .int .u8 c, .int .u8 t, .int .u16 l]] w fun e w' => e = .returned (.int .i64 (kindOf c t)) ∧ Below w.heap.size w w' := by
  by_cases h200 : t = 200
  · subst h200
    go_enter Tryz.func36, Tryz.ntmps36
    go_wp2_with fail
    go_ret
    exact ⟨by simp [kindOf], ((Below.refl _ _).alloc (Nat.le_refl _) _)⟩
  have b200 : (t == 200) = false := by simpa using h200
  by_cases h201 : t = 201
  · subst h201
    go_enter Tryz.func36, Tryz.ntmps36
    go_wp2_with fail
    go_ret
    exact ⟨by simp [kindOf], ((Below.refl _ _).alloc (Nat.le_refl _) _)⟩
  have b201 : (t == 201) = false := by simpa using h201
  by_cases h202 : t = 202
  · subst h202
    go_enter Tryz.func36, Tryz.ntmps36
    go_wp2_with fail
    go_ret
    exact ⟨by simp [kindOf], ((Below.refl _ _).alloc (Nat.le_refl _) _)⟩
  have b202 : (t == 202) = false := by simpa using h202
  by_cases h203 : t = 203
  · subst h203
    go_enter Tryz.func36, Tryz.ntmps36
    go_wp2_with fail
    go_ret
    exact ⟨by simp [kindOf], ((Below.refl _ _).alloc (Nat.le_refl _) _)⟩
  have b203 : (t == 203) = false := by simpa using h203
  by_cases h204 : t = 204
  · subst h204
    go_enter Tryz.func36, Tryz.ntmps36
    go_wp2_with fail
    go_ret
    exact ⟨by simp [kindOf], ((Below.refl _ _).alloc (Nat.le_refl _) _)⟩
  have b204 : (t == 204) = false := by simpa using h204
  by_cases h205 : t = 205
  · subst h205
    by_cases k1 : c = 1
    · subst k1
      go_enter Tryz.func36, Tryz.ntmps36
      go_wp2_with fail
      go_ret
      exact ⟨by simp [kindOf], ((Below.refl _ _).alloc (Nat.le_refl _) _)⟩
    have d1 : (c == 1) = false := by simpa using k1
    by_cases k5 : c = 5
    · subst k5
      go_enter Tryz.func36, Tryz.ntmps36
      go_wp2_with fail
      go_ret
      exact ⟨by simp [kindOf], ((Below.refl _ _).alloc (Nat.le_refl _) _)⟩
    have d5 : (c == 5) = false := by simpa using k5
    by_cases k11 : c = 11
    · subst k11
      go_enter Tryz.func36, Tryz.ntmps36
      go_wp2_with fail
      go_ret
      exact ⟨by simp [kindOf], ((Below.refl _ _).alloc (Nat.le_refl _) _)⟩
    have d11 : (c == 11) = false := by simpa using k11
    by_cases k15 : c = 15
    · subst k15
      go_enter Tryz.func36, Tryz.ntmps36
      go_wp2_with fail
      go_ret
      exact ⟨by simp [kindOf], ((Below.refl _ _).alloc (Nat.le_refl _) _)⟩
    have d15 : (c == 15) = false := by simpa using k15
    go_enter Tryz.func36, Tryz.ntmps36
    go_wp2_with fail
    go_ret
    exact ⟨by simp [kindOf, k1, k5, k11, k15], ((Below.refl _ _).alloc (Nat.le_refl _) _)⟩
  have b205 : (t == 205) = false := by simpa using h205
  by_cases h206 : t = 206
  · subst h206
    by_cases k1 : c = 1
    · subst k1
      go_enter Tryz.func36, Tryz.ntmps36
      go_wp2_with fail
      go_ret
      exact ⟨by simp [kindOf], ((Below.refl _ _).alloc (Nat.le_refl _) _)⟩
    have d1 : (c == 1) = false := by simpa using k1
    by_cases k2 : c = 2
    · subst k2
      go_enter Tryz.func36, Tryz.ntmps36
      go_wp2_with fail
      go_ret
      exact ⟨by simp [kindOf], ((Below.refl _ _).alloc (Nat.le_refl _) _)⟩
    have d2 : (c == 2) = false := by simpa using k2
    by_cases k4 : c = 4
    · subst k4
      go_enter Tryz.func36, Tryz.ntmps36
      go_wp2_with fail
      go_ret
      exact ⟨by simp [kindOf], ((Below.refl _ _).alloc (Nat.le_refl _) _)⟩
    have d4 : (c == 4) = false := by simpa using k4
    by_cases k15 : c = 15
    · subst k15
      go_enter Tryz.func36, Tryz.ntmps36
      go_wp2_with fail
      go_ret
      exact ⟨by simp [kindOf], ((Below.refl _ _).alloc (Nat.le_refl _) _)⟩
    have d15 : (c == 15) = false := by simpa using k15
    go_enter Tryz.func36, Tryz.ntmps36
    go_wp2_with fail
    go_ret
    exact ⟨by simp [kindOf, k1, k2, k4, k15], ((Below.refl _ _).alloc (Nat.le_refl _) _)⟩
  have b206 : (t == 206) = false := by simpa using h206
  go_enter Tryz.func36, Tryz.ntmps36
  go_wp2_with fail
  go_ret
  exact ⟨by simp [kindOf, h200, h201, h202, h203, h204, h205, h206], ((Below.refl _ _).alloc (Nat.le_refl _) _)⟩
end Go.Proofs.YtmmfpgoodfgkbaaGreat
