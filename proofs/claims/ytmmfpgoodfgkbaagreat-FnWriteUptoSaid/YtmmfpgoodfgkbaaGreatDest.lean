/-
  THE WALKS of the copy of a slice of numbers of thirty-two bits, and of the methods that name a packet's media source. Condition: the receiver's second field is that source.
-/
import Derived.Test.YtmmfpgoodfgkbaaGreatMPkt
namespace Go.Proofs.YtmmfpgoodfgkbaaGreat
open Go Go.RowKit
set_option linter.unusedVariables false

theorem elem32 : Elem Tryz.prog 27 22 (.int .u32 0) 1 4 := ⟨Tryz.underlying27, by kernel_rfl, rfl, by omega, by omega⟩

set_option maxHeartbeats 400000 in
theorem clone32 (B : Nat) (A : Option Addr) (n c : Nat) (xs : List Value) (w : World) (hr : Reads w B 1 A n xs) (h1 : ∀ u ∈ xs, u.oneCell' = true) (hB : B ≤ w.heap.size) (hn : n * 4 ≤ 140737488355328) :
    Calls Tryz.prog 28 #[.slice A n c] w fun e w' =>
      ∃ v, e = .returned v ∧ w'.ownsRow w.heap.size 22 1 v n xs ∧ Below w.heap.size w w' := by
  have qT : ∀ (w : World) (a : Option Addr) (n c n' c' : Nat), (binOp .eql 27 (.slice a n c) (.slice none n' c')).run Tryz.prog w = .ok (.bool a.isNone) w := fun w a n c n' c' => Lib.run_eql_slice_nil w _ _ a n c n' c' Tryz.underlying27
  rcases A with _ | ad
  · have hn0 : n = 0 := by
      rcases Nat.eq_zero_or_pos n with h | h
      · exact h
      · obtain ⟨ad, hh, _⟩ := hr.2 h
        cases hh
    subst hn0
    have hx : xs = [] := List.eq_nil_of_length_eq_zero (by simpa using hr.1)
    subst hx
    go_enter Tryz.func28, Tryz.ntmps28
    go_wp2
    go_ret
    exact ⟨_, rfl, World.ownsRow_nil _ _ _ _, Below.refl _ _⟩
  · have hr1 : Reads (w.alloc (.cells #[] 22)) B 1 (some ad) n xs := hr.alloc hB _
    go_enter Tryz.func28, Tryz.ntmps28
    go_wp2_with (at_builtin; refine wpList_app_src _ rfl _ _ _ rfl elem32 w.heap.size _ 0 [] B _ _ _ _ (own_empty w _ 1 rfl) rfl rfl hr1 h1 (by omega) (by simp) ?_; intro v1 w1 hown1 hg1 _)
    go_ret
    exact ⟨_, rfl, own_eq hown1 (by omega) (by simp), (grownBy_trans (World.grownBy_alloc w _ none) hg1 (.inr (by simp [Value.ownBlock]))) |> below_of_grownBy⟩

/-- One number is handed back, in new memory. -/
def One (w : World) (m : Int) (e : Ending) (w' : World) : Prop := ∃ v, e = .returned v ∧ w'.ownsRow w.heap.size 22 1 v 1 [.int .u32 m] ∧ Below w.heap.size w w'

theorem destTransportLayerNack_any (g : Nat) (m : Int) (w : World) (h : w.cell? ⟨g, 1, none⟩ = some (.int .u32 m)) :
    Calls Tryz.prog 140 #[.pointer (some ⟨g, 0, none⟩)] w (One w m) := by
  go_enter Tryz.func140, Tryz.ntmps140
  go_wp2
  go_ret
  exact ⟨_, rfl, own_lit w #[.int .u32 m] _ 1 1 _ rfl rfl (by omega), (Below.refl _ _).alloc (Nat.le_refl _) _⟩

theorem destRapidResynchronizationRequest_any (g : Nat) (m : Int) (w : World) (h : w.cell? ⟨g, 1, none⟩ = some (.int .u32 m)) :
    Calls Tryz.prog 145 #[.pointer (some ⟨g, 0, none⟩)] w (One w m) := by
  go_enter Tryz.func145, Tryz.ntmps145
  go_wp2
  go_ret
  exact ⟨_, rfl, own_lit w #[.int .u32 m] _ 1 1 _ rfl rfl (by omega), (Below.refl _ _).alloc (Nat.le_refl _) _⟩

theorem destPictureLossIndication_any (g : Nat) (m : Int) (w : World) (h : w.cell? ⟨g, 1, none⟩ = some (.int .u32 m)) :
    Calls Tryz.prog 162 #[.pointer (some ⟨g, 0, none⟩)] w (One w m) := by
  go_enter Tryz.func162, Tryz.ntmps162
  go_wp2
  go_ret
  exact ⟨_, rfl, own_lit w #[.int .u32 m] _ 1 1 _ rfl rfl (by omega), (Below.refl _ _).alloc (Nat.le_refl _) _⟩

theorem destSliceLossIndication_any (g : Nat) (m : Int) (w : World) (h : w.cell? ⟨g, 1, none⟩ = some (.int .u32 m)) :
    Calls Tryz.prog 166 #[.pointer (some ⟨g, 0, none⟩)] w (One w m) := by
  go_enter Tryz.func166, Tryz.ntmps166
  go_wp2
  go_ret
  exact ⟨_, rfl, own_lit w #[.int .u32 m] _ 1 1 _ rfl rfl (by omega), (Below.refl _ _).alloc (Nat.le_refl _) _⟩
end Go.Proofs.YtmmfpgoodfgkbaaGreat
