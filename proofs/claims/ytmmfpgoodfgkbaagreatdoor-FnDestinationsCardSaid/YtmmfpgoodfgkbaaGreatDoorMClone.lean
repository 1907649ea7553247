/-
  THE WALK of the library's copy of a slice of bytes: what it hands back lies in new memory. Condition: the source reads as a list, and its bytes fit.
-/
import Derived.Test.YtmmfpgoodfgkbaaGreatDoorMRead
import Derived.Test.YtmmfpgoodfgkbaaGreatDoorMPkt
import Derived.Test.YtmmfpgoodfgkbaaGreatDoorRows
import Derived.Test.YtmmfpgoodfgkbaaGreatDoorKit
namespace Go.Proofs.YtmmfpgoodfgkbaaGreatDoor
open Go Go.RowKit
set_option maxHeartbeats 4000000
set_option maxRecDepth 100000

theorem clone8 (B : Nat) (A : Option Addr) (n c : Nat) (xs : List Value) (w : World) (hr : Reads w B 1 A n xs) (h1 : ∀ u ∈ xs, u.oneCell' = true) (hB : B ≤ w.heap.size) (hn : n ≤ 140737488355328) :
  Calls Tryz.prog 45 #[.slice A n c] w fun e w' =>
   ∃ v, e = .returned v ∧ w'.ownsRow w.heap.size 5 1 v n xs ∧ Below w.heap.size w w' := by
 have qT : ∀ (w : World) (a : Option Addr) (n c n' c' : Nat), (binOp .eql 25 (.slice a n c) (.slice none n' c')).run Tryz.prog w = .ok (.bool a.isNone) w := fun w a n c n' c' => Lib.run_eql_slice_nil w _ _ a n c n' c' Tryz.underlying25
 rcases A with _ | ad
 ·have hn0 : n = 0 := by
   rcases Nat.eq_zero_or_pos n with h | h
   ·exact h
   ·obtain ⟨ad, hh, _⟩ := hr.2 h
    cases hh
  subst hn0
  have hx : xs = [] := List.eq_nil_of_length_eq_zero (by simpa using hr.1)
  subst hx
  go_enter Tryz.func45, Tryz.ntmps45
  go_wp2
  go_ret
  exact ⟨_, rfl, World.ownsRow_nil _ _ _ _, Below.refl _ _⟩
 ·have hr1 : Reads (w.alloc (.cells #[] 5)) B 1 (some ad) n xs := hr.alloc hB _
  go_enter Tryz.func45, Tryz.ntmps45
  go_wp2_with (at_builtin; refine wpList_app_src _ rfl _ _ _ rfl elem8 w.heap.size _ 0 [] B _ _ _ _ (own_empty w _ 1 rfl) rfl rfl hr1 h1 (by omega) (by simp) ?_; intro v1 w1 hown1 hg1 _)
  go_ret
  exact ⟨_, rfl, own_eq hown1 (by omega) (by simp), (grownBy_trans (World.grownBy_alloc w _ none) hg1 (.inr (by simp [Value.ownBlock]))) |> below_of_grownBy⟩
end Go.Proofs.YtmmfpgoodfgkbaaGreatDoor
namespace Go.Proofs.YtmmfpgoodfgkbaaGreatDoor
open Go Go.RowKit
set_option maxHeartbeats 4000000
set_option maxRecDepth 100000
set_option linter.unusedVariables false

theorem elem32 : Elem Tryz.prog 27 22 (.int .u32 0) 1 4 := ⟨Tryz.underlying27, by kernel_rfl, rfl, by omega, by omega⟩

theorem clone32 (B : Nat) (A : Option Addr) (n c : Nat) (xs : List Value) (w : World) (hr : Reads w B 1 A n xs) (h1 : ∀ u ∈ xs, u.oneCell' = true) (hB : B ≤ w.heap.size) (hn : n * 4 ≤ 140737488355328) :
  Calls Tryz.prog 50 #[.slice A n c] w fun e w' =>
   ∃ v, e = .returned v ∧ w'.ownsRow w.heap.size 22 1 v n xs ∧ Below w.heap.size w w' := by
 have qT : ∀ (w : World) (a : Option Addr) (n c n' c' : Nat), (binOp .eql 27 (.slice a n c) (.slice none n' c')).run Tryz.prog w = .ok (.bool a.isNone) w := fun w a n c n' c' => Lib.run_eql_slice_nil w _ _ a n c n' c' Tryz.underlying27
 rcases A with _ | ad
 ·have hn0 : n = 0 := by
   rcases Nat.eq_zero_or_pos n with h | h
   ·exact h
   ·obtain ⟨ad, hh, _⟩ := hr.2 h
    cases hh
  subst hn0
  have hx : xs = [] := List.eq_nil_of_length_eq_zero (by simpa using hr.1)
  subst hx
  go_enter Tryz.func50, Tryz.ntmps50
  go_wp2
  go_ret
  exact ⟨_, rfl, World.ownsRow_nil _ _ _ _, Below.refl _ _⟩
 ·have hr1 : Reads (w.alloc (.cells #[] 22)) B 1 (some ad) n xs := hr.alloc hB _
  go_enter Tryz.func50, Tryz.ntmps50
  go_wp2_with (at_builtin; refine wpList_app_src _ rfl _ _ _ rfl elem32 w.heap.size _ 0 [] B _ _ _ _ (own_empty w _ 1 rfl) rfl rfl hr1 h1 (by omega) (by simp) ?_; intro v1 w1 hown1 hg1 _)
  go_ret
  exact ⟨_, rfl, own_eq hown1 (by omega) (by simp), (grownBy_trans (World.grownBy_alloc w _ none) hg1 (.inr (by simp [Value.ownBlock]))) |> below_of_grownBy⟩

end Go.Proofs.YtmmfpgoodfgkbaaGreatDoor
namespace Go.Proofs.YtmmfpgoodfgkbaaGreatDoor
open Go.RowKit

theorem elem16 : Elem Tryz.prog 127 32 (.int .u16 0) 1 2 := ⟨Tryz.underlying127, by kernel_rfl, rfl, by omega, by omega⟩

theorem clone16 (B : Nat) (A : Option Addr) (n c : Nat) (xs : List Value) (w : World) (hr : Reads w B 1 A n xs) (h1 : ∀ u ∈ xs, u.oneCell' = true) (hB : B ≤ w.heap.size) (hn : n * 2 ≤ 140737488355328) :
  Calls Tryz.prog 98 #[.slice A n c] w fun e w' =>
   ∃ v, e = .returned v ∧ w'.ownsRow w.heap.size 32 1 v n xs ∧ Below w.heap.size w w' := by
 have qT : ∀ (w : World) (a : Option Addr) (n c n' c' : Nat), (binOp .eql 127 (.slice a n c) (.slice none n' c')).run Tryz.prog w = .ok (.bool a.isNone) w := fun w a n c n' c' => Lib.run_eql_slice_nil w _ _ a n c n' c' Tryz.underlying127
 rcases A with _ | ad
 ·have hn0 : n = 0 := by
   rcases Nat.eq_zero_or_pos n with h | h
   ·exact h
   ·obtain ⟨ad, hh, _⟩ := hr.2 h
    cases hh
  subst hn0
  have hx : xs = [] := List.eq_nil_of_length_eq_zero (by simpa using hr.1)
  subst hx
  go_enter Tryz.func98, Tryz.ntmps98
  go_wp2
  go_ret
  exact ⟨_, rfl, World.ownsRow_nil _ _ _ _, Below.refl _ _⟩
 ·have hr1 : Reads (w.alloc (.cells #[] 32)) B 1 (some ad) n xs := hr.alloc hB _
  go_enter Tryz.func98, Tryz.ntmps98
  go_wp2_with (at_builtin; refine wpList_app_src _ rfl _ _ _ rfl elem16 w.heap.size _ 0 [] B _ _ _ _ (own_empty w _ 1 rfl) rfl rfl hr1 h1 (by omega) (by simp) ?_; intro v1 w1 hown1 hg1 _)
  go_ret
  exact ⟨_, rfl, own_eq hown1 (by omega) (by simp), (grownBy_trans (World.grownBy_alloc w _ none) hg1 (.inr (by simp [Value.ownBlock]))) |> below_of_grownBy⟩
end Go.Proofs.YtmmfpgoodfgkbaaGreatDoor
