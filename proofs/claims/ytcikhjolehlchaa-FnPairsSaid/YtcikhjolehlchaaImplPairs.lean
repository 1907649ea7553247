/-
  THE WALK of the thin package's pairs: a copy of the numbers, the package's pairs, each as plain data. Condition: the numbers grow, are at least one and at most 2001.
-/
import Derived.Test.YtcikhjolehlchaaNackPairs
namespace Go.Proofs.Ytcikhjolehlchaa.Nack
open Go.RowKit
set_option linter.unusedVariables false

theorem elemImplPair : Elem Try.prog 31 27 (.agg #[.int .u16 0, .int .u16 0]) 2 4 := ⟨Try.underlying31, by kernel_rfl, rfl, by omega, by omega⟩
theorem u16s_one (l : List Nat) : ∀ u ∈ u16s l, u.oneCell' = true := by
  intro u hu
  obtain ⟨_, _, rfl⟩ := List.mem_map.1 hu
  rfl
theorem prs_at0 {l : List (Nat × Nat)} {k : Nat} (h : k < l.length) : (prs l)[k * 2]? = some (.int .u16 (l[k].1 : Nat)) := by
  induction l generalizing k with
  | nil => simp at h
  | cons p l ih =>
    cases k with
    | zero => rfl
    | succ k =>
      have := ih (k := k) (by simpa using h)
      rw [show (k + 1) * 2 = k * 2 + 1 + 1 by omega]
      simpa [prs] using this
theorem prs_at1 {l : List (Nat × Nat)} {k : Nat} (h : k < l.length) : (prs l)[k * 2 + 1]? = some (.int .u16 (l[k].2 : Nat)) := by
  induction l generalizing k with
  | nil => simp at h
  | cons p l ih =>
    cases k with
    | zero => rfl
    | succ k =>
      have := ih (k := k) (by simpa using h)
      rw [show (k + 1) * 2 + 1 = k * 2 + 1 + 1 + 1 by omega]
      simpa [prs] using this

set_option maxHeartbeats 1000000 in
theorem implPairs_any (B : Nat) (A : Option Addr) (c : Nat) (a : Nat) (rest : List Nat) (w : World) (hr : Reads w B 1 A (rest.length + 1) (u16s (a :: rest))) (hB : B ≤ w.heap.size) (hn : rest.length ≤ 2000) (hg : Grows (a :: rest)) (hl : ∀ x ∈ a :: rest, x < 65536) :
    Calls Try.prog 8 #[.slice A ((rest.length + 1 : Nat)) c] w fun e w' =>
      ∃ v, e = .returned v ∧ w'.ownsRow w.heap.size 27 2 v (pk a 0 rest).length (prs (pk a 0 rest)) ∧ Below w.heap.size w w' := by
  go_enter Try.func8, Try.ntmps8
  go_wp2_with fail
  refine (clone16 B A (rest.length + 1) c (u16s (a :: rest)) _ hr (u16s_one _) hB (by omega)).mono ?_
  rintro e w1 ⟨v1, rfl, hown1, hb1⟩
  obtain ⟨A1, c1, rfl⟩ : ∃ A1 c1, v1 = .slice A1 (rest.length + 1) c1 := by
    obtain ⟨g, cap, hv, _⟩ := hown1.form (by omega)
    exact ⟨_, _, hv⟩
  go_wp2_with fail
  refine (fromSeq_any w1.heap.size A1 c1 a rest _ (reads_of_own hown1) (Nat.le_refl _) hn hg hl).mono ?_
  rintro e w2 ⟨v2, rfl, hown2, hb2⟩
  have hln := pk_len rest a 0
  obtain ⟨L, hL⟩ : ∃ L, L = pk a 0 rest := ⟨_, rfl⟩
  rw [← hL] at hown2 hln
  have HL := Lib.hid hL
  clear hL
  obtain ⟨A2, c2, rfl⟩ : ∃ A2 c2, v2 = .slice A2 L.length c2 := by
    rcases hown2.2 with ⟨h1, h2⟩ | ⟨g, cap, cur, hv, _⟩
    · exact ⟨none, 0, by rw [h1, h2]⟩
    · exact ⟨_, _, hv⟩
  have hr2 := reads_of_own hown2
  have hz1 := hb1.size
  have hz2 := hb2.size
  go_wp2_with fail
  go_loopw [3, 10] (fun v i wr => ∃ k : Nat, k ≤ L.length ∧ i = .int .i64 k ∧ wr.ownsRow w2.heap.size 27 2 v k (prs (L.take k)) ∧ Below w2.heap.size w2 wr)
    (fun _ i _ => L.length - (intOf i).toNat)
  case atStart => exact ⟨0, by omega, rfl, World.ownsRow_nil _ _ _ _, Below.refl _ _⟩
  case round =>
    obtain ⟨k, hk, rfl, hown, hb⟩ := hrel
    by_cases hlt : k < L.length
    · obtain ⟨g, off, rfl⟩ : ∃ g off, A2 = some ⟨g, off, none⟩ := by
        obtain ⟨g, cap, hv, _⟩ := hown2.form (by omega)
        injection hv with hv _ _
        exact ⟨_, _, hv⟩
      have hpl := prs_len L
      have e0 : wr.cell? ⟨g, off + k * 2, none⟩ = some (.int .u16 (L[k].1 : Nat)) := by
        rw [(hr2.below hb).cellAt _ (by omega)]
        have := prs_at0 hlt
        rw [List.getElem?_eq_getElem (by omega)] at this
        exact this
      have e1 : wr.cell? ⟨g, off + k * 2 + 1, none⟩ = some (.int .u16 (L[k].2 : Nat)) := by
        rw [Nat.add_assoc, (hr2.below hb).cellAt _ (by omega)]
        have := prs_at1 hlt
        rw [List.getElem?_eq_getElem (by omega)] at this
        exact this
      obtain ⟨x, hx⟩ : ∃ x : Nat, x = L[k].1 := ⟨_, rfl⟩
      obtain ⟨y, hy⟩ : ∃ y : Nat, y = L[k].2 := ⟨_, rfl⟩
      rw [← hx] at e0
      rw [← hy] at e1
      have Hx := Lib.hid hx
      have Hy := Lib.hid hy
      clear hx hy
      have hz := hb.size
      go_wp2_with (at_builtin; refine wpList_app_one _ rfl _ _ _ rfl elemImplPair w2.heap.size _ _ _ _ _ 1 _ (hown.alloc _) (by simp) rfl rfl rfl (by omega) (by intro u hu; simp at hu; rcases hu with rfl | rfl <;> rfl) (by omega) (by simp; omega) ?_; intro g2 cap2 w3 hown3 hg3 hat3)
      have et : L.take (k + 1) = L.take k ++ [(x, y)] := by
        rw [List.take_succ_eq_append_getElem hlt, Hx.out, Hy.out]
      exact ⟨⟨k + 1, by omega, by go_num, own_eq hown3 rfl (by rw [et, prs_snoc]), (hb.alloc hz _).grown hg3 (by simp; omega) (fun g hg => (hown.lt g hg).1)⟩, by simp [intOf]; omega⟩
    · obtain rfl : k = L.length := by omega
      go_wp2_with fail
      go_ret
      rw [← HL.out]
      exact ⟨_, rfl, own_base (own_eq hown rfl (by rw [List.take_length])) (by omega), (hb1.trans (hb2.mono hz1)).trans (hb.mono (by omega))⟩
end Go.Proofs.Ytcikhjolehlchaa.Nack
