/-
  THE WALK of the reference's test that numbers grow: where it says yes, they grow. Condition: at most 2000 numbers.
-/
import Derived.Test.YtcikhjolehlchaaImplPairs
namespace Go.Proofs.Ytcikhjolehlchaa.Nack
open Go.RowKit
set_option linter.unusedVariables false

theorem grows_of_steps {l : List Nat} (h : ∀ i, i + 1 < l.length → ∀ a b, l[i]? = some a → l[i + 1]? = some b → a < b) : Grows l := by
  have key : ∀ (d i : Nat), ∀ a b, l[i]? = some a → l[i + d + 1]? = some b → a < b := by
    intro d
    induction d with
    | zero =>
      intro i a b ha hb
      have hlt : i + 1 < l.length := (List.getElem?_eq_some_iff.1 hb).1
      exact h i hlt a b ha hb
    | succ d ih =>
      intro i a b ha hb
      have hlt : i + (d + 1) + 1 < l.length := (List.getElem?_eq_some_iff.1 hb).1
      have hm : l[i + d + 1]? = some (l[i + d + 1]'(by omega)) := List.getElem?_eq_getElem (by omega)
      have h1 := ih i a _ ha hm
      have h2 := h (i + d + 1) (by omega) _ b hm (by rw [show i + d + 1 + 1 = i + (d + 1) + 1 by omega]; exact hb)
      omega
  intro i j hij a b ha hb
  have := key (j - i - 1) i a b ha (by rw [show i + (j - i - 1) + 1 = j by omega]; exact hb)
  exact this

def GrowsB (l : List Nat) (w : World) (e : Ending) (w' : World) : Prop := ∃ g : Bool, e = .returned (.bool g) ∧ (g = true → Grows l) ∧ Below w.heap.size w w'

set_option maxHeartbeats 1000000 in
theorem growing_any (b off c : Nat) (l : List Nat) (w : World) (hb : b < w.heap.size) (hcell : ∀ k, k < l.length → ∀ x : Nat, l[k]? = some x → w.cell? ⟨b, off + k, none⟩ = some (.int .u16 (x : Int))) (hn : l.length ≤ 2000) :
    Calls Try.prog 7 #[.slice (some ⟨b, off, none⟩) (l.length : Nat) c] w (GrowsB l w) := by
  go_enter Try.func7, Try.ntmps7
  go_wp2
  go_loopw [6] (fun i wr => ∃ k : Nat, k ≤ l.length ∧ i = .int .i64 k ∧ Hid (∀ i, i + 1 < k → ∀ a b, l[i]? = some a → l[i + 1]? = some b → a < b) ∧ Below w.heap.size w wr)
    (fun i _ => l.length - (intOf i).toNat)
  case atStart => exact ⟨0, by omega, rfl, fun i hi => by omega, Below.refl _ _⟩
  case round =>
    obtain ⟨k, hk, rfl, hst, hbw⟩ := hrel
    by_cases hlt : k < l.length
    · obtain ⟨x, hx⟩ : ∃ x : Nat, l[k]? = some x := ⟨l[k], List.getElem?_eq_getElem hlt⟩
      have ex : wr.cell? ⟨b, off + k, none⟩ = some (.int .u16 (x : Int)) := (hbw.cell (by exact hb)).trans (hcell k hlt x hx)
      have Hx := Lib.hid hx
      have Hcell := Lib.hid hcell
      clear hx hcell
      by_cases h0 : k = 0
      · subst h0
        have hd : decide ((0 : Int) < ((0 : Nat) : Int)) = false := by decide
        go_wp2_with fail
        go_quiet (fail)
        go_wp2
        exact ⟨⟨1, by omega, by go_num, fun i hi => by omega, hbw.trans ⟨rfl, rfl, rfl, Nat.le_refl _, fun _ _ => rfl⟩⟩, by simp [intOf]; omega⟩
      · obtain ⟨y, hy⟩ : ∃ y : Nat, l[k - 1]? = some y := ⟨l[k - 1]'(by omega), List.getElem?_eq_getElem _⟩
        have ey : wr.cell? ⟨b, off + (k - 1), none⟩ = some (.int .u16 (y : Int)) := (hbw.cell (by exact hb)).trans (Hcell.out (k - 1) (by omega) y hy)
        have Hy := Lib.hid hy
        clear hy
        have hpos : 0 < k := by omega
        have hk1 : (k : Int) < (l.length : Int) := by omega
        have s2 : (1 : Int) ≤ (k : Int) := by omega
        have s4 : (k : Int) - 1 < (l.length : Int) := by omega
        have s5 : (0 : Int) ≤ (k : Int) - 1 := by omega
        have s6 : (0 : Int) ≤ (k : Int) := by omega
        have s7 : (k : Int).toNat = k := by omega
        have s3 : ((k : Int) - 1).toNat = k - 1 := by omega
        have s1 : IntKind.i64.wrap ((k : Int) - 1) = (k : Int) - 1 := IntWalk.i64_in _ (by omega)
        by_cases hle : (x : Int) ≤ (y : Int)
        · go_wp2_with fail
          go_quiet (fail)
          clear s1 s3 s7
          go_wp2
          go_ret
          exact ⟨false, rfl, by simp, hbw.trans ⟨rfl, rfl, rfl, Nat.le_refl _, fun _ _ => rfl⟩⟩
        · go_wp2_with fail
          go_quiet (fail)
          clear s1 s3 s7
          go_wp2
          refine ⟨⟨k + 1, by omega, by go_num, fun i hi => ?_, hbw.trans ⟨rfl, rfl, rfl, Nat.le_refl _, fun _ _ => rfl⟩⟩, by simp [intOf]; omega⟩
          intro a b' ha hb'
          by_cases hik : i + 1 = k
          · subst hik
            have h1 := Hy.out
            have h2 := Hx.out
            rw [Nat.add_sub_cancel, ha] at h1
            rw [hb'] at h2
            injection h1 with h1
            injection h2 with h2
            omega
          · exact hst.out i (by omega) a b' ha hb'
    · obtain rfl : k = l.length := by omega
      go_wp2
      go_ret
      exact ⟨true, rfl, fun _ => grows_of_steps hst.out, hbw⟩
end Go.Proofs.Ytcikhjolehlchaa.Nack
