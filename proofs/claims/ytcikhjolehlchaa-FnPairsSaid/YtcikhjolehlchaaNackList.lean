/-
  THE WALK of the reference's list of a pair: it hands back, in new memory, the numbers that the pair names. Condition: identifier and mask are numbers of sixteen bits.
-/
import Derived.Test.YtcikhjolehlchaaRows
import Derived.Test.YtcikhjolehlchaaNackPure
import Derived.Test.YtcikhjolehlchaaKit
namespace Go.Proofs.Ytcikhjolehlchaa.Nack
open Go.RowKit

def u16s (l : List Nat) : List Value := l.map fun n : Nat => Value.int .u16 (n : Int)
theorem u16s_snoc (l : List Nat) (n : Nat) : u16s (l ++ [n]) = u16s l ++ [.int .u16 (n : Int)] := by simp [u16s]

theorem E16 : Elem Try.prog 25 22 (.int .u16 0) 1 2 := ⟨Try.underlying25, by kernel_rfl, rfl, by omega, by omega⟩

theorem bit_test (mask j : Nat) (hm : mask < 65536) : (bits BinOp.and IntKind.u16 ((mask : Int) / 2 ^ j) 1 == 1) = mask.testBit j := by
  have e : (mask : Int) / 2 ^ j = ((mask / 2 ^ j : Nat) : Int) := by simp
  have hlt : mask / 2 ^ j < 65536 := Nat.lt_of_le_of_lt (Nat.div_le_self _ _) hm
  rw [e, show (1 : Int) = ((1 : Nat) : Int) from rfl, u16_and_nat _ _ hlt (by omega), Nat.testBit_eq_decide_div_mod_eq, nat_mask1]
  rw [Bool.eq_iff_iff]; simp; omega

set_option maxHeartbeats 400000 in
theorem list_any (id mask : Nat) (w : World) (hm : mask < 65536) :
    Calls Try.prog 6 #[.agg #[.int .u16 id, .int .u16 mask]] w fun e w' =>
      ∃ v, e = .returned v ∧ w'.ownsRow w.heap.size 22 1 v (lst id mask).length (u16s (lst id mask)) ∧ Below w.heap.size w w' := by
  go_enter Try.func6, Try.ntmps6
  go_wp2
  go_loopw [3, 8] (fun v k wr => ∃ j : Nat, j ≤ 16 ∧ k = .int .i64 j ∧ wr.ownsRow (w.heap.size + 1) 22 1 v (lstTo id mask j).length (u16s (lstTo id mask j)) ∧
      wr.cell? ⟨w.heap.size, 0, none⟩ = some (.int .u16 id) ∧ wr.cell? ⟨w.heap.size, 1, none⟩ = some (.int .u16 mask) ∧ Below (w.heap.size + 1) (w.alloc (.cells #[.int .u16 id, .int .u16 mask] 24)) wr)
    (fun _ k _ => 16 - (intOf k).toNat)
  case atStart =>
    exact ⟨0, by omega, rfl, own_lit (w.alloc (.cells #[.int .u16 id, .int .u16 mask] 24)) #[.int .u16 id] 22 1 1 _ (by simp) rfl (by omega), by go_simp, by go_simp, (Below.refl _ _).alloc (by simp) _⟩
  case round =>
    obtain ⟨j, hj, rfl, hown, h0, h1, hb⟩ := hrel
    have hlen := lstTo_len id mask j
    have hsz := hb.size
    by_cases hj16 : j < 16
    · by_cases hbit : mask.testBit j = true
      · have ht := (bit_test mask j hm).trans hbit
        go_wp2_with (at_builtin; refine wpList_app_lit _ rfl _ _ _ rfl E16 (w.heap.size + 1) _ _ _ _ _ 1 _ hown (by simp) rfl rfl rfl (by intro u hu; simp at hu; subst hu; rfl) (by omega) (by simpa using hsz) ?_; intro v' w1 hown1 hg1 _)
        have e1 : (IntKind.u16.wrap (IntKind.u16.wrap ((id : Int) + j) + 1)) = (((id + j + 1) % 65536 : Nat) : Int) := by
          rw [IntKind.wrap_u16, IntKind.wrap_u16]; omega
        rw [e1] at hown1
        have hown2 : w1.ownsRow (w.heap.size + 1) 22 1 v' (lstTo id mask (j + 1)).length (u16s (lstTo id mask (j + 1))) := by
          refine own_eq hown1 ?_ ?_
          · rw [lstTo_hit hbit]; simp
          · rw [lstTo_hit hbit, u16s_snoc]
        have hb1 := own_grown hb hown hg1 (Nat.le_refl _) (by simpa using hsz)
        have hk : ∀ p : Addr, p.block < w.heap.size + 1 → w1.cell? p = wr.cell? p := fun p hp => (hb1.cell hp).trans (hb.cell hp).symm
        exact ⟨⟨j + 1, by omega, by go_num, hown2, by rw [hk _ (by simp)]; exact h0, by rw [hk _ (by simp)]; exact h1, hb1⟩, by simp [intOf]; omega⟩
      · have ht := (bit_test mask j hm).trans (Bool.eq_false_iff.2 hbit)
        go_wp2
        go_roundw
        case rel => exact ⟨j + 1, by omega, by go_num, by rw [lstTo_miss (by simpa using hbit)]; exact hown, h0, h1, hb⟩
        case measure => simp [intOf]; omega
    · obtain rfl : j = 16 := by omega
      go_wp2
      go_ret
      exact ⟨_, rfl, own_base hown (by omega), ((Below.refl _ _).alloc (Nat.le_refl _) _).trans (hb.mono (by omega))⟩
end Go.Proofs.Ytcikhjolehlchaa.Nack
