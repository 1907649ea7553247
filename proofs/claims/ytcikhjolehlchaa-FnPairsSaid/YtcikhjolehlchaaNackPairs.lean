/-
  THE WALKS of the packing of growing numbers into pairs. Condition: the numbers grow, and are at most 2000.
-/
import Derived.Test.YtcikhjolehlchaaNackRange
import Derived.Test.YtcikhjolehlchaaClone16
namespace Go.Proofs.Ytcikhjolehlchaa.Nack
open Go.RowKit
set_option linter.unusedVariables false

def prs (l : List (Nat × Nat)) : List Value := l.flatMap fun p => [Value.int .u16 (p.1 : Nat), Value.int .u16 (p.2 : Nat)]
theorem prs_snoc (l : List (Nat × Nat)) (a b : Nat) : prs (l ++ [(a, b)]) = prs l ++ [.int .u16 (a : Int), .int .u16 (b : Int)] := by simp [prs]
theorem prs_one : ∀ (l : List (Nat × Nat)), ∀ u ∈ prs l, u.oneCell' = true := by
  intro l u hu
  simp only [prs, List.mem_flatMap, List.mem_cons, List.not_mem_nil, or_false] at hu
  obtain ⟨p, _, rfl | rfl⟩ := hu <;> rfl
theorem prs_len (l : List (Nat × Nat)) : (prs l).length = l.length * 2 := by
  induction l with
  | nil => rfl
  | cons p l ih => simp only [prs, List.flatMap_cons, List.length_append, List.length_cons] at ih ⊢; simp at ih ⊢; omega

theorem elemPair : Elem Try.prog 37 35 (.agg #[.int .u16 0, .int .u16 0]) 2 4 := ⟨Try.underlying37, by kernel_rfl, rfl, by omega, by omega⟩

theorem u16s_at {l : List Nat} {k : Nat} (h : k < l.length) : (u16s l)[k]? = some (.int .u16 (l[k] : Nat)) := by simp [u16s, h]

theorem shl_pow {d : Nat} (hd : d < 16) : IntKind.u16.wrap (2 ^ d) = ((2 ^ d : Nat) : Int) := wrap_pow hd
theorem or_pow {mask d : Nat} (hd : d < 16) (hm : mask < 65536) : bits BinOp.or IntKind.u16 (mask : Int) (IntKind.u16.wrap (2 ^ d)) = ((mask ||| 2 ^ d : Nat) : Int) := by
  rw [wrap_pow hd, u16_or_nat _ _ hm (pow_lt16 hd)]
theorem or_lt {mask d : Nat} (hd : d < 16) (hm : mask < 65536) : mask ||| 2 ^ d < 65536 := Nat.or_lt_two_pow (n := 16) hm (pow_lt16 hd)

theorem pk_len : ∀ (l : List Nat) (id mask : Nat), (pk id mask l).length ≤ l.length + 1 := by
  intro l
  induction l with
  | nil => intro _ _; simp [pk]
  | cons m r ih =>
    intro id mask
    unfold pk
    split
    · have := ih m 0; simp; omega
    · have := ih id (mask ||| 2 ^ ((m + 65536 - id) % 65536 - 1)); simp; omega

set_option maxHeartbeats 1000000 in
theorem fromSeq_any (B : Nat) (A : Option Addr) (c : Nat) (a : Nat) (rest : List Nat) (w : World) (hr : Reads w B 1 A (rest.length + 1) (u16s (a :: rest))) (hB : B ≤ w.heap.size) (hn : rest.length ≤ 2000) (hg : Grows (a :: rest)) (hl : ∀ x ∈ a :: rest, x < 65536) :
    Calls Try.prog 10 #[.slice A ((rest.length + 1 : Nat)) c] w fun e w' =>
      ∃ v, e = .returned v ∧ w'.ownsRow w.heap.size 35 2 v (pk a 0 rest).length (prs (pk a 0 rest)) ∧ Below w.heap.size w w' := by
  obtain ⟨ad, u0, rfl, hadB, hu0, hc0⟩ := hr.at_ (k := 0) (by omega)
  obtain rfl : u0 = .int .u16 (a : Int) := by simpa [u16s] using hu0.symm
  obtain ⟨b, off, spot⟩ := ad
  obtain rfl : spot = none := by simpa [Addr.add] using World.cell?_spot hc0
  have hc0 : w.cell? ⟨b, off, none⟩ = some (.int .u16 (a : Int)) := by simpa [Addr.add] using hc0
  have hb : b < w.heap.size := by simp at hadB; omega
  have hcell : ∀ k, k < rest.length + 1 → ∀ x : Nat, (a :: rest)[k]? = some x → w.cell? ⟨b, off + k, none⟩ = some (.int .u16 (x : Int)) := by
    intro k hk x hx
    obtain ⟨ad, u, e, _, hu, hc⟩ := hr.at_ hk
    simp at e; subst e
    rw [Addr.add_lit] at hc
    rw [hc, ← hu]
    simp only [u16s, List.getElem?_map, hx]; rfl
  have hne : (((rest.length + 1 : Nat) : Int) == 0) = false := by simp; omega
  go_enter Try.func10, Try.ntmps10
  go_wp2
  go_loopw [2, 3, 4] (fun s2 s3 i wr => ∃ (k : Nat) (done : List (Nat × Nat)) (id mask g : Nat), 1 ≤ k ∧ k ≤ rest.length + 1 ∧ i = .int .i64 k ∧ s3 = .pointer (some ⟨g, 0, none⟩) ∧ Blk wr g 35 #[.int .u16 id, .int .u16 mask] ∧ w.heap.size ≤ g ∧
      wr.ownsRow w.heap.size 35 2 s2 done.length (prs done) ∧ s2.ownBlock ≠ some g ∧ Below w.heap.size w wr ∧ Hid (pk a 0 rest = done ++ pk id mask ((a :: rest).drop k)) ∧ Hid (∀ x, (a :: rest)[k - 1]? = some x → id ≤ x) ∧ mask < 65536 ∧ id < 65536)
    (fun _ _ i _ => rest.length + 1 - (intOf i).toNat)
  case atStart =>
    exact ⟨1, [], a, 0, w.heap.size, by omega, by omega, rfl, rfl, blk_new _ _ _ rfl, Nat.le_refl _, World.ownsRow_nil _ _ _ _, by simp [Value.ownBlock], (Below.refl _ _).alloc (Nat.le_refl _) _, by show _ = _; simp, by intro x hx; simp at hx; omega, by omega, hl a (by simp)⟩
  case round =>
    obtain ⟨k, done, id, mask, g, hk1, hk2, rfl, rfl, hblk, hgB, hown, hne2, hbel, hpk, htop, hm, hid⟩ := hrel
    have hdl : done.length ≤ rest.length + 1 := by
      have h1 := congrArg List.length hpk.out
      have h2 := pk_len rest a 0
      rw [List.length_append] at h1
      omega
    have hcg0 : wr.cell? ⟨g, 0, none⟩ = some (.int .u16 (id : Int)) := hblk.cell 0
    have hcg1 : wr.cell? ⟨g, 1, none⟩ = some (.int .u16 (mask : Int)) := hblk.cell 1
    have hfg1 := hblk.frozen 1
    have hglt := hblk.lt
    by_cases hlt : k < rest.length + 1
    · obtain ⟨m, hmk⟩ : ∃ m : Nat, (a :: rest)[k]? = some m := ⟨(a :: rest)[k]'(by simp; omega), List.getElem?_eq_getElem _⟩
      have hmlt : m < 65536 := hl m (List.mem_of_getElem? hmk)
      obtain ⟨top, htk⟩ : ∃ t : Nat, (a :: rest)[k - 1]? = some t := ⟨(a :: rest)[k - 1]'(by simp; omega), List.getElem?_eq_getElem _⟩
      have hidt : id ≤ top := htop.out top htk
      have htm : top < m := hg (k - 1) k (by omega) top m htk hmk
      have hcm : wr.cell? ⟨b, off + k, none⟩ = some (.int .u16 (m : Int)) := (hbel.cell (by exact hb)).trans (hcell k hlt m hmk)
      have hdrop : (a :: rest).drop k = m :: (a :: rest).drop (k + 1) := by
        rw [List.drop_eq_getElem_cons (by simp; omega)]
        congr 1
        rw [List.getElem?_eq_getElem (by simp; omega)] at hmk
        exact Option.some.inj hmk
      have hd : (m + 65536 - id) % 65536 = m - id := by omega
      have Hdrop := Lib.hid hdrop
      have Hd := Lib.hid hd
      have Hmk := Lib.hid hmk
      clear hdrop hd hmk htk
      by_cases hbig : 16 < m - id
      · have hbig' : (16 : Int) < (m : Int) - (id : Int) := by omega
        go_wp2_with (at_builtin; refine wpList_app_one _ rfl _ _ _ rfl elemPair w.heap.size _ _ _ _ _ 1 _ hown (by simp) rfl rfl rfl (by omega) (by intro u hu; simp at hu; rcases hu with rfl | rfl <;> rfl) (by omega) (by omega) ?_; intro g2 cap2 w1 hown1 hg1 hat1)
        have hlt2 : g2 < w1.heap.size := (hown1.lt g2 rfl).2
        have hb1 := own_grown hbel hown hg1 (Nat.le_refl _) hbel.size
        refine ⟨⟨k + 1, done ++ [(id, mask)], m, 0, w1.heap.size, by omega, by omega, by go_num, rfl, blk_new _ _ _ rfl, hb1.size, own_eq (hown1.alloc _) (by simp) (by rw [prs_snoc]), ?_, hb1.alloc hb1.size _, ?_, ?_, by omega, hmlt⟩, by simp [intOf]; omega⟩
        · simp [Value.ownBlock]; omega
        · show _ = _
          rw [hpk.out, Hdrop.out, pk, Hd.out, if_pos hbig]
          simp
        · intro x hx
          simp only [Nat.add_sub_cancel] at hx
          rw [Hmk.out] at hx
          simp at hx; omega
      · have hsm : ¬ (16 : Int) < (m : Int) - (id : Int) := by omega
        go_wp2_with fail
        go_region
        all_goals go_wp2
        rw [or_pow (show m - id - 1 < 16 by omega) hm]
        refine ⟨⟨k + 1, done, id, mask ||| 2 ^ (m - id - 1), g, by omega, by omega, by go_num, rfl, hblk.set_ 1 _, hgB, own_setCell hown hne2 _, hne2, (hbel.setCell (by exact hgB) _).drew, ?_, ?_, or_lt (by omega) hm, hid⟩, by simp [intOf]; omega⟩
        · show _ = _
          rw [hpk.out, Hdrop.out, pk, Hd.out, if_neg hbig]
        · intro x hx
          simp only [Nat.add_sub_cancel] at hx
          rw [Hmk.out] at hx
          simp at hx; omega
    · obtain rfl : k = rest.length + 1 := by omega
      go_wp2_with (at_builtin; refine wpList_app_one _ rfl _ _ _ rfl elemPair w.heap.size _ _ _ _ _ 1 _ hown (by simp) rfl rfl rfl (by omega) (by intro u hu; simp at hu; rcases hu with rfl | rfl <;> rfl) (by omega) (by omega) ?_; intro g2 cap2 w1 hown1 hg1 hat1)
      go_ret
      have e : pk a 0 rest = done ++ [(id, mask)] := by rw [hpk.out]; simp [pk]
      exact ⟨_, rfl, own_eq hown1 (by rw [e]; simp) (by rw [e, prs_snoc]), own_grown hbel hown hg1 (Nat.le_refl _) hbel.size⟩
end Go.Proofs.Ytcikhjolehlchaa.Nack
