/-
  THE WALK of the library's copy of a slice of bytes: what it hands back lies in new memory. Condition: the source reads as a list, and its bytes fit.
-/
import Derived.Test.YtmmfpgoodfgkbaaGreatRead
import Derived.Test.YtmmfpgoodfgkbaaGreatMPkt
import Derived.Test.YtmmfpgoodfgkbaaGreatRows
import Derived.Test.YtmmfpgoodfgkbaaGreatKit
namespace Go.Proofs.YtmmfpgoodfgkbaaGreat
open Go Go.RowKit

set_option maxHeartbeats 400000 in
theorem clone8 (B : Nat) (A : Option Addr) (n c : Nat) (xs : List Value) (w : World) (hr : Reads w B 1 A n xs) (h1 : ∀ u ∈ xs, u.oneCell' = true) (hB : B ≤ w.heap.size) (hn : n ≤ 140737488355328) :
    Calls Tryz.prog 44 #[.slice A n c] w fun e w' =>
      ∃ v, e = .returned v ∧ w'.ownsRow w.heap.size 5 1 v n xs ∧ Below w.heap.size w w' := by
  have qT : ∀ (w : World) (a : Option Addr) (n c n' c' : Nat), (binOp .eql 25 (.slice a n c) (.slice none n' c')).run Tryz.prog w = .ok (.bool a.isNone) w := fun w a n c n' c' => Lib.run_eql_slice_nil w _ _ a n c n' c' Tryz.underlying25
  rcases A with _ | ad
  · have hn0 : n = 0 := by
      rcases Nat.eq_zero_or_pos n with h | h
      · exact h
      · obtain ⟨ad, hh, _⟩ := hr.2 h
        cases hh
    subst hn0
    have hx : xs = [] := List.eq_nil_of_length_eq_zero (by simpa using hr.1)
    subst hx
    go_enter Tryz.func44, Tryz.ntmps44
    go_wp2
    go_ret
    exact ⟨_, rfl, World.ownsRow_nil _ _ _ _, Below.refl _ _⟩
  · have hr1 : Reads (w.alloc (.cells #[] 5)) B 1 (some ad) n xs := hr.alloc hB _
    go_enter Tryz.func44, Tryz.ntmps44
    go_wp2_with (at_builtin; refine wpList_app_src _ rfl _ _ _ rfl elem8 w.heap.size _ 0 [] B _ _ _ _ (own_empty w _ 1 rfl) rfl rfl hr1 h1 (by omega) (by simp) ?_; intro v1 w1 hown1 hg1 _)
    go_ret
    exact ⟨_, rfl, own_eq hown1 (by omega) (by simp), (grownBy_trans (World.grownBy_alloc w _ none) hg1 (.inr (by simp [Value.ownBlock]))) |> below_of_grownBy⟩
end Go.Proofs.YtmmfpgoodfgkbaaGreat
/-
  THE WALKS of the copy of a slice of numbers of thirty-two bits, and of the methods that name a packet's media source. Condition: the receiver's second field is that source.
-/
namespace Go.Proofs.YtmmfpgoodfgkbaaGreat
open Go Go.RowKit
set_option linter.unusedVariables false

theorem elem32 : Elem Tryz.prog 27 22 (.int .u32 0) 1 4 := ⟨Tryz.underlying27, by kernel_rfl, rfl, by omega, by omega⟩

set_option maxHeartbeats 400000 in
theorem clone32 (B : Nat) (A : Option Addr) (n c : Nat) (xs : List Value) (w : World) (hr : Reads w B 1 A n xs) (h1 : ∀ u ∈ xs, u.oneCell' = true) (hB : B ≤ w.heap.size) (hn : n * 4 ≤ 140737488355328) :
    Calls Tryz.prog 28 #[.slice A n c] w fun e w' =>
      ∃ v, e = .returned v ∧ w'.ownsRow w.heap.size 22 1 v n xs ∧ Below w.heap.size w w' := by
  have qT : ∀ (w : World) (a : Option Addr) (n c n' c' : Nat), (binOp .eql 27 (.slice a n c) (.slice none n' c')).run Tryz.prog w = .ok (.bool a.isNone) w := fun w a n c n' c' => Lib.run_eql_slice_nil w _ _ a n c n' c' Tryz.underlying27
  rcases A with _ | ad
  · have hn0 : n = 0 := by
      rcases Nat.eq_zero_or_pos n with h | h
      · exact h
      · obtain ⟨ad, hh, _⟩ := hr.2 h
        cases hh
    subst hn0
    have hx : xs = [] := List.eq_nil_of_length_eq_zero (by simpa using hr.1)
    subst hx
    go_enter Tryz.func28, Tryz.ntmps28
    go_wp2
    go_ret
    exact ⟨_, rfl, World.ownsRow_nil _ _ _ _, Below.refl _ _⟩
  · have hr1 : Reads (w.alloc (.cells #[] 22)) B 1 (some ad) n xs := hr.alloc hB _
    go_enter Tryz.func28, Tryz.ntmps28
    go_wp2_with (at_builtin; refine wpList_app_src _ rfl _ _ _ rfl elem32 w.heap.size _ 0 [] B _ _ _ _ (own_empty w _ 1 rfl) rfl rfl hr1 h1 (by omega) (by simp) ?_; intro v1 w1 hown1 hg1 _)
    go_ret
    exact ⟨_, rfl, own_eq hown1 (by omega) (by simp), (grownBy_trans (World.grownBy_alloc w _ none) hg1 (.inr (by simp [Value.ownBlock]))) |> below_of_grownBy⟩

end Go.Proofs.YtmmfpgoodfgkbaaGreat
/-
  THE WALK of the library's copy of a slice of numbers of sixteen bits: what it hands back lies in new memory. Condition: the source reads as a list, and its bytes fit.
-/
namespace Go.Proofs.YtmmfpgoodfgkbaaGreat
open Go.RowKit

theorem elem16 : Elem Tryz.prog 114 32 (.int .u16 0) 1 2 := ⟨Tryz.underlying114, by kernel_rfl, rfl, by omega, by omega⟩

set_option maxHeartbeats 400000 in
theorem clone16 (B : Nat) (A : Option Addr) (n c : Nat) (xs : List Value) (w : World) (hr : Reads w B 1 A n xs) (h1 : ∀ u ∈ xs, u.oneCell' = true) (hB : B ≤ w.heap.size) (hn : n * 2 ≤ 140737488355328) :
    Calls Tryz.prog 79 #[.slice A n c] w fun e w' =>
      ∃ v, e = .returned v ∧ w'.ownsRow w.heap.size 32 1 v n xs ∧ Below w.heap.size w w' := by
  have qT : ∀ (w : World) (a : Option Addr) (n c n' c' : Nat), (binOp .eql 114 (.slice a n c) (.slice none n' c')).run Tryz.prog w = .ok (.bool a.isNone) w := fun w a n c n' c' => Lib.run_eql_slice_nil w _ _ a n c n' c' Tryz.underlying114
  rcases A with _ | ad
  · have hn0 : n = 0 := by
      rcases Nat.eq_zero_or_pos n with h | h
      · exact h
      · obtain ⟨ad, hh, _⟩ := hr.2 h
        cases hh
    subst hn0
    have hx : xs = [] := List.eq_nil_of_length_eq_zero (by simpa using hr.1)
    subst hx
    go_enter Tryz.func79, Tryz.ntmps79
    go_wp2
    go_ret
    exact ⟨_, rfl, World.ownsRow_nil _ _ _ _, Below.refl _ _⟩
  · have hr1 : Reads (w.alloc (.cells #[] 32)) B 1 (some ad) n xs := hr.alloc hB _
    go_enter Tryz.func79, Tryz.ntmps79
    go_wp2_with (at_builtin; refine wpList_app_src _ rfl _ _ _ rfl elem16 w.heap.size _ 0 [] B _ _ _ _ (own_empty w _ 1 rfl) rfl rfl hr1 h1 (by omega) (by simp) ?_; intro v1 w1 hown1 hg1 _)
    go_ret
    exact ⟨_, rfl, own_eq hown1 (by omega) (by simp), (grownBy_trans (World.grownBy_alloc w _ none) hg1 (.inr (by simp [Value.ownBlock]))) |> below_of_grownBy⟩
end Go.Proofs.YtmmfpgoodfgkbaaGreat
