/-
  THE WALKS of the package's own list of a pair: the closure that appends, the walk over the mask's bits, the list. Condition: identifier and mask are numbers of sixteen bits.
-/
import Derived.Test.YtcikhjolehlchaaNackList
namespace Go.Proofs.Ytcikhjolehlchaa.Nack
open Go.RowKit

set_option maxHeartbeats 400000 in
theorem clo_any (B Bx : Nat) (s : Int) (v : Value) (n : Nat) (xs : List Value) (w : World) (hx : Blk w Bx 25 #[v]) (hown : w.ownsRow B 22 1 v n xs) (hB : B ≤ Bx) (hn : n ≤ 65536) :
    Calls Try.prog 13 #[.int .u16 s, .pointer (some ⟨Bx, 0, none⟩)] w fun e w' =>
      e = .returned (.bool true) ∧ ∃ v', Blk w' Bx 25 #[v'] ∧ w'.ownsRow B 22 1 v' (n + 1) (xs ++ [.int .u16 s]) ∧ Below B w w' := by
  have hlt := hx.lt
  have hc : w.cell? ⟨Bx, 0, none⟩ = some v := hx.cell 0
  have hf := hx.frozen 0
  go_enter Try.func13, Try.ntmps13
  go_wp2_with (at_builtin; refine wpList_app_one _ rfl _ _ _ rfl E16 B _ _ _ _ _ 1 _ hown (by simp) rfl rfl rfl (by omega) (by intro u hu; simp at hu; subst hu; rfl) (by omega) (by omega) ?_; intro g cap w1 hown1 hg1 _; have hx1 : Blk w1 Bx 25 #[v] := hx.grown hg1 (own_blk_ne hown hx (by decide)).symm; have hc1 : w1.cell? ⟨Bx, 0, none⟩ = some v := hx1.cell 0; have hf1 := hx1.frozen 0)
  go_ret
  have hb1 := own_grown (Below.refl B w) hown hg1 (Nat.le_refl _) (by omega)
  exact ⟨rfl, _, hx1.set_ 0 _, own_setCell hown1 (own_blk_ne hown1 hx1 (by decide)) _, hb1.setCell hB _⟩

theorem pow_lt16 {j : Nat} (hj : j < 16) : 2 ^ j < 65536 := by
  have := Nat.pow_lt_pow_right (a := 2) (by omega) hj
  simpa using this
theorem wrap_pow {j : Nat} (hj : j < 16) : IntKind.u16.wrap (2 ^ j) = ((2 ^ j : Nat) : Int) := by
  have := pow_lt16 hj
  rw [IntKind.wrap_u16]
  have e : (2 : Int) ^ j = ((2 ^ j : Nat) : Int) := by simp
  rw [e]; generalize 2 ^ j = x at *; omega
theorem test_and {mask j s : Nat} (hj : j < 16) (hm : mask < 65536) (hs : s = mask >>> j <<< j) : (bits BinOp.and IntKind.u16 (s : Int) (IntKind.u16.wrap (2 ^ j)) != 0) = mask.testBit j := by
  have hp : 2 ^ j < 65536 := pow_lt16 hj
  have hlt : s < 65536 := by rw [hs]; exact Nat.lt_of_le_of_lt (strike_le _ _) hm
  rw [wrap_pow hj, u16_and_nat _ _ hlt hp, hs, strike_and]
  have : 0 < 2 ^ j := Nat.pow_pos (by omega)
  have h2 : ((2 ^ j : Nat) : Int) ≠ 0 := by omega
  cases mask.testBit j
  · rfl
  · exact bne_iff_ne.2 h2
theorem andNot_eq {mask j s : Nat} (hj : j < 16) (hm : mask < 65536) (hs : s = mask >>> j <<< j) (_hb : mask.testBit j = true) : bits BinOp.andNot IntKind.u16 (s : Int) (IntKind.u16.wrap (2 ^ j)) = ((mask >>> (j + 1) <<< (j + 1) : Nat) : Int) := by
  have hp : 2 ^ j < 65536 := pow_lt16 hj
  have hlt : s < 65536 := by rw [hs]; exact Nat.lt_of_le_of_lt (strike_le _ _) hm
  rw [wrap_pow hj, u16_andNot_nat _ _ hlt hp, hs]
  congr 1
  apply Nat.eq_of_testBit_eq
  intro i
  rw [Nat.testBit_and, strike_testBit, strike_testBit, show 65535 - 2 ^ j = 2 ^ 16 - (2 ^ j + 1) by omega, Nat.testBit_two_pow_sub_succ hp, Nat.testBit_two_pow]
  by_cases h : i < 16
  · by_cases h2 : j = i
    · subst h2
      have : ¬ j + 1 ≤ j := by omega
      simp [this]
    · by_cases h3 : j ≤ i
      · have : j + 1 ≤ i := by omega
        simp [h, h2, h3, this]
      · have : ¬ j + 1 ≤ i := by omega
        simp [h3, this]
  · have hz : mask.testBit i = false := Nat.testBit_lt_two_pow (Nat.lt_of_lt_of_le hm (by rw [show 65536 = 2 ^ 16 from rfl]; exact Nat.pow_le_pow_right (by omega) (by omega)))
    simp [hz]

set_option maxHeartbeats 400000 in
theorem range_any (B Bx bn : Nat) (id mask : Nat) (v : Value) (w : World) (h0 : w.cell? ⟨bn, 0, none⟩ = some (.int .u16 id)) (h1 : w.cell? ⟨bn, 1, none⟩ = some (.int .u16 mask)) (hbn : bn < B)
    (hx : Blk w Bx 25 #[v]) (hown : w.ownsRow B 22 1 v 0 []) (hB : B ≤ Bx) (hm : mask < 65536) :
    Calls Try.prog 12 #[.pointer (some ⟨bn, 0, none⟩), .func (.func 13) #[] #[.pointer (some ⟨Bx, 0, none⟩)]] w fun e w' =>
      e = .returned (.tuple #[]) ∧ ∃ v', Blk w' Bx 25 #[v'] ∧ w'.ownsRow B 22 1 v' (lst id mask).length (u16s (lst id mask)) ∧ Below B w w' := by
  go_enter Try.func12, Try.ntmps12
  go_wp2_with (go_at_call 13; refine (clo_any B Bx _ v 0 [] _ hx hown hB (by omega)).mono ?_; rintro e w1 ⟨rfl, v1, hx1, hown1, hb1⟩; have h01 := (hb1.cell (p := ⟨bn, 0, none⟩) hbn).trans h0; have h11 := (hb1.cell (p := ⟨bn, 1, none⟩) hbn).trans h1)
  go_loopw [5, 6] (fun b i wr => ∃ j s : Nat, j ≤ 16 ∧ i = .int .u16 j ∧ b = .int .u16 s ∧ Hid (s = mask >>> j <<< j) ∧ ∃ v', Blk wr Bx 25 #[v'] ∧ wr.ownsRow B 22 1 v' (lstTo id mask j).length (u16s (lstTo id mask j)) ∧ Below B w wr)
    (fun _ i _ => 16 - (intOf i).toNat)
  case atStart => exact ⟨0, mask, by omega, rfl, rfl, rfl, v1, hx1, hown1, hb1⟩
  case round =>
    obtain ⟨j, s, hj, rfl, rfl, hs, v2, hx2, hown2, hb2⟩ := hrel
    have h02 := (hb2.cell (p := ⟨bn, 0, none⟩) hbn).trans h0
    by_cases hz : s = 0
    · have hz1 : (((s : Nat) : Int) != 0) = false := by rw [hz]; rfl
      have hz' := Lib.hid hz
      clear hz
      go_wp2
      go_end0
      rw [← hs.out.symm.trans hz'.out |> lst_of_struck hj]
      exact ⟨rfl, v2, hx2, hown2, hb2⟩
    · have hz1 : (((s : Nat) : Int) != 0) = true := by simp; omega
      have hj16 : j < 16 := by
        rcases Nat.lt_or_ge j 16 with h | h
        · exact h
        · obtain rfl : j = 16 := by omega
          exact absurd (hs.out.trans (strike_done hm)) hz
      have hlen := lstTo_len id mask j
      by_cases hb : mask.testBit j = true
      · have ht := (test_and hj16 hm hs.out).trans hb
        have ha := Lib.hid (andNot_eq hj16 hm hs.out hb)
        go_wp2_with (go_at_call 13; refine (clo_any B Bx _ v2 _ _ _ hx2 hown2 hB (by omega)).mono ?_; rintro e w3 ⟨rfl, v3, hx3, hown3, hb3⟩)
        have e1 : (IntKind.u16.wrap (IntKind.u16.wrap ((id : Int) + j) + 1)) = (((id + j + 1) % 65536 : Nat) : Int) := by
          rw [IntKind.wrap_u16, IntKind.wrap_u16]; omega
        rw [e1] at hown3
        exact ⟨⟨j + 1, _, by omega, by go_num, by rw [ha.out], rfl, v3, hx3, own_eq hown3 (by rw [lstTo_hit hb]; simp) (by rw [lstTo_hit hb, u16s_snoc]), hb2.trans hb3⟩, by simp [intOf]; omega⟩
      · have ht := (test_and hj16 hm hs.out).trans (Bool.eq_false_iff.2 hb)
        go_wp2
        exact ⟨⟨j + 1, s, by omega, by go_num, rfl, hs.out.trans (strike_succ_miss (by simpa using hb)), v2, hx2, by rw [lstTo_miss (by simpa using hb)]; exact hown2, hb2⟩, by simp [intOf]; omega⟩

set_option maxHeartbeats 400000 in
theorem packetList_any (bn id mask : Nat) (w : World) (h0 : w.cell? ⟨bn, 0, none⟩ = some (.int .u16 id)) (h1 : w.cell? ⟨bn, 1, none⟩ = some (.int .u16 mask)) (hm : mask < 65536) :
    Calls Try.prog 9 #[.pointer (some ⟨bn, 0, none⟩)] w fun e w' =>
      ∃ v, e = .returned v ∧ w'.ownsRow w.heap.size 22 1 v (lst id mask).length (u16s (lst id mask)) ∧ Below w.heap.size w w' := by
  have hbn : bn < w.heap.size := World.block_lt_of_cell? w ⟨bn, 0, none⟩ h0
  have hmk : ∀ w : World, (Instr.makeSlice 25 (.int .i64 0) (.int .i64 17)).run Try.prog w = .ok (.slice (some ⟨w.heap.size, 0, none⟩) 0 17) (w.alloc (.cells (madeCells (Value.cells (.int .u16 0)) 17) 22)) := fun _ => by kernel_rfl
  have hmf : ∀ (fn : Fn) (first cap : Array Value) (w : World), (Instr.makeFunc fn first cap).run Try.prog w = .ok (.func fn first cap) w := fun _ _ _ _ => rfl
  go_enter Try.func9, Try.ntmps9
  have h02 : ((w.alloc (.cells (madeCells #[.int .u16 0] 17) 22)).alloc (.cells #[.slice (some ⟨w.heap.size, 0, none⟩) 0 17] 25)).cell? ⟨bn, 0, none⟩ = some (.int .u16 id) := by
    rw [World.cell?_alloc_past _ _ _ (by simp; omega), World.cell?_alloc_past _ _ _ hbn]; exact h0
  have h12 : ((w.alloc (.cells (madeCells #[.int .u16 0] 17) 22)).alloc (.cells #[.slice (some ⟨w.heap.size, 0, none⟩) 0 17] 25)).cell? ⟨bn, 1, none⟩ = some (.int .u16 mask) := by
    rw [World.cell?_alloc_past _ _ _ (by simp; omega), World.cell?_alloc_past _ _ _ hbn]; exact h1
  have hb0 : Below w.heap.size w ((w.alloc (.cells (madeCells #[.int .u16 0] 17) 22)).alloc (.cells #[.slice (some ⟨w.heap.size, 0, none⟩) 0 17] 25)) := ((Below.refl _ _).alloc (Nat.le_refl _) _).alloc (by simp) _
  go_wp2_with (go_at_call 12; refine (range_any w.heap.size (w.heap.size + 1) bn id mask _ _ h02 h12 hbn (blk_new _ _ _ (by simp)) ((own_made w _ 22 17 1 rfl (by simp [maxLen]) (size_madeCells _ _)).alloc _) (by omega) hm).mono ?_; rintro e w1 ⟨rfl, v1, hx1, hown1, hb1⟩; have hc1 : w1.cell? ⟨w.heap.size + 1, 0, none⟩ = some v1 := hx1.cell 0)
  go_ret
  exact ⟨_, rfl, hown1, hb0.trans hb1⟩

set_option maxHeartbeats 400000 in
theorem implList_any (id mask : Nat) (w : World) (hm : mask < 65536) :
    Calls Try.prog 5 #[.agg #[.int .u16 id, .int .u16 mask]] w fun e w' =>
      ∃ v, e = .returned v ∧ w'.ownsRow w.heap.size 22 1 v (lst id mask).length (u16s (lst id mask)) ∧ Below w.heap.size w w' := by
  go_enter Try.func5, Try.ntmps5
  go_wp2_with (go_at_call 9; refine (packetList_any _ id mask _ (by go_simp) (by go_simp) hm).mono ?_; rintro e w1 ⟨v1, rfl, hown1, hb1⟩)
  go_ret
  exact ⟨_, rfl, own_base hown1 (by simp; omega), (((Below.refl _ _).alloc (Nat.le_refl _) _).alloc (by simp) _).trans (hb1.mono (by simp; omega))⟩
end Go.Proofs.Ytcikhjolehlchaa.Nack
