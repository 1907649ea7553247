/-
  THE WALK of the law's look at a packet: may it be written, and what are its bytes? Condition: the contracts of the reference's writing and leaving out.
-/
import Derived.Test.YtmmfpgoodfgkbaaGreatFormat
import Derived.Test.YtmmfpgoodfgkbaaGreatCompact
namespace Go.Proofs.YtmmfpgoodfgkbaaGreat
open Go Go.RowKit
set_option linter.unusedVariables false

/-- A packet without what its kind has not, and its bytes; or nothing is said. -/
def Legal (w : World) (p c : Pkt) (count type : Int) (bs : List Int) (ok : Bool) (e : Ending) (w' : World) : Prop :=
  (ok = true ∧ 4 + bs.length ≤ 131072 ∧ ∃ g cap, e = .returned (.tuple #[.agg c.cells, .slice (some ⟨g, 0, none⟩) (4 + bs.length) cap, .bool true]) ∧
    w'.ownsRow w.heap.size 5 1 (.slice (some ⟨g, 0, none⟩) (4 + bs.length) cap) (4 + bs.length) (u8s (hdrB count type (((bs.length : Nat) : Int) / 4) ++ bs)) ∧ Below w.heap.size w w') ∨
  ((ok = false ∨ 131072 < 4 + bs.length) ∧ e = .returned (.tuple #[.agg p.cells, .slice none 0 0, .bool false]) ∧ Below w.heap.size w w')

set_option maxHeartbeats 2000000 in
set_option maxRecDepth 100000 in
theorem legal_no (p c : Pkt) (w : World) (count type : Int) (bs : List Int) (ok : Bool) (hno : ok = false ∨ 262140 < bs.length)
    (hfmt : ∀ w', Below w.heap.size w w' → Calls Tryz.prog 24 #[.agg p.cells] w' (Fmt w' count type bs ok))
    (hcom : ∀ w', Below w.heap.size w w' → Calls Tryz.prog 25 #[.agg p.cells] w' fun e w'' => e = .returned (.agg c.cells) ∧ Below w'.heap.size w' w'') :
    Calls Tryz.prog 8 #[.agg p.cells] w (Legal w p c count type bs ok) := by
  refine calls_of_wp Tryz.func8 rfl ?_
  rw [Tryz.ntmps8]
  have hE0 : Env 23 [(0, .agg p.cells)] ⟨#[.agg p.cells] ++ Array.replicate (23 - (#[Value.agg p.cells] : Array Value).size) undef, []⟩ := Env.enter _ (by simp) ⟨by simp, trivial⟩
  generalize (⟨#[.agg p.cells] ++ Array.replicate (23 - (#[Value.agg p.cells] : Array Value).size) undef, []⟩ : Act) = a0 at hE0 ⊢
  refine wp_seq_k fun K1 hK1 => ?_
  refine wp_region_lit ?_
  refine wpList_val hE0 1 rfl rfl fun K hK => ?_
  have e0 := hE0.get 0 rfl
  go_simp
  refine hK _ _ fun a2 hE2 => ?_
  clear hK K e0
  clear hE0 a0
  refine wpList_val hE2 2 rfl rfl fun K hK => ?_
  go_simp
  refine hK _ _ fun a3 hE3 => ?_
  clear hK K
  clear hE2 a2
  refine wpList_val hE3 3 rfl rfl fun K hK => ?_
  go_simp
  refine hK _ _ fun a4 hE4 => ?_
  clear hK K
  clear hE3 a3
  refine wpList_val hE4 4 rfl rfl fun K hK => ?_
  go_simp
  refine hK _ _ fun a5 hE5 => ?_
  clear hK K
  clear hE4 a4
  refine wpList_nil ?_
  have hpk := (blk_new w 38 p.cells rfl).alloc (.cells Pkt.zero.cells 38)
  have hrs := blk_new (w.alloc (.cells p.cells 38)) 38 Pkt.zero.cells (B := w.heap.size + 1) (by simp)
  have hB := ((Below.refl w.heap.size w).alloc (Nat.le_refl _) (.cells p.cells 38)).alloc (by simp) (.cells Pkt.zero.cells 38)
  have hgoal : ∀ w1, Blk w1 w.heap.size 38 p.cells → Blk w1 (w.heap.size + 1) 38 Pkt.zero.cells → Below w.heap.size w w1 → K1 a5 w1 := ?_
  · exact hgoal _ hpk hrs hB
  clear hpk hrs hB
  intro w1 hpk hrs hB
  refine hK1 _ _ ?_
  clear hK1 K1
  refine wp_seq_k fun K6 hK6 => ?_
  refine wp_region_lit ?_
  refine wpList_val hE5 8 rfl rfl fun K hK => ?_
  have e1 := hE5.get 1 rfl
  refine wp_load_blk 38 (.tmp 1) rfl w.heap.size (hE5.ev 1 rfl) 38 p.cells _ hpk Tryz.underlying38 rfl (by kernel_rfl) ?_
  refine hK _ _ fun a7 hE7 => ?_
  clear hK K e1
  clear hE5 a5
  refine wpList_val hE7 9 rfl rfl fun K hK => ?_
  have e8 := hE7.get 8 rfl
  go_simp
  refine (hfmt w1 hB).mono ?_
  rintro e w2 hf
  obtain ⟨rfl, hB2⟩ : e = .returned (.tuple #[.slice none 0 0, .bool false]) ∧ Below w1.heap.size w1 w2 := by
    rcases hf with ⟨h1, h2, -⟩ | ⟨-, h1, h2⟩
    · rcases hno with h | h
      · rw [h] at h1; cases h1
      · omega
    · exact ⟨h1, h2⟩
  refine hK _ _ fun a8 hE8 => ?_
  clear hK K e8
  clear hE7 a7
  refine wpList_val hE8 7 rfl rfl fun K hK => ?_
  have e9 := hE8.get 9 rfl
  go_simp
  refine hK _ _ fun a9 hE9 => ?_
  clear hK K e9
  clear hE8 a8
  refine wpList_val hE9 10 rfl rfl fun K hK => ?_
  have e7 := hE9.get 7 rfl
  go_simp
  refine hK _ _ fun a10 hE10 => ?_
  clear hK K e7
  clear hE9 a9
  refine wpList_val hE10 11 rfl rfl fun K hK => ?_
  have e7 := hE10.get 7 rfl
  go_simp
  refine hK _ _ fun a11 hE11 => ?_
  clear hK K e7
  clear hE10 a10
  refine wpList_val hE11 5 rfl rfl fun K hK => ?_
  have e10 := hE11.get 10 rfl
  go_simp
  refine hK _ _ fun a12 hE12 => ?_
  clear hK K e10
  clear hE11 a11
  refine wpList_val hE12 6 rfl rfl fun K hK => ?_
  have e11 := hE12.get 11 rfl
  go_simp
  refine hK _ _ fun a13 hE13 => ?_
  clear hK K e11
  clear hE12 a12
  refine wpList_nil ?_
  have hz1 : w.heap.size + 1 + 1 ≤ w1.heap.size := hrs.lt
  replace hpk := hpk.below hB2 hpk.lt
  replace hrs := hrs.below hB2 hrs.lt
  replace hB := hB.trans (hB2.mono hB.size)
  have hz2 := hB2.size
  refine hK6 _ _ ?_
  clear hK6 K6
  refine wp_seq_k fun K14 hK14 => ?_
  refine wp_seq_k fun K15 hK15 => ?_
  refine wp_region_lit ?_
  refine wpList_val hE13 12 rfl rfl fun K hK => ?_
  have e6 := hE13.get 6 rfl
  go_simp
  refine hK _ _ fun a16 hE16 => ?_
  clear hK K e6
  clear hE13 a13
  refine wpList_val hE16 13 rfl rfl fun K hK => ?_
  have e12 := hE16.get 12 rfl
  go_simp
  refine hK _ _ fun a17 hE17 => ?_
  clear hK K e12
  clear hE16 a16
  refine wpList_val hE17 14 rfl rfl fun K hK => ?_
  have e13 := hE17.get 13 rfl
  go_simp
  refine hK _ _ fun a18 hE18 => ?_
  clear hK K e13
  clear hE17 a17
  refine wpList_gskip hE18 15 2 false 14 rfl rfl rfl rfl rfl fun a19 hE19 => ?_
  clear hE18 a18
  refine wpList_gskip hE19 16 2 false 14 rfl rfl rfl rfl rfl fun a20 hE20 => ?_
  clear hE19 a19
  refine wpList_gskip hE20 17 2 false 14 rfl rfl rfl rfl rfl fun a21 hE21 => ?_
  clear hE20 a20
  refine wpList_val hE21 18 rfl rfl fun K hK => ?_
  have e14 := hE21.get 14 rfl
  have e17 := hE21.get 17 rfl
  go_simp
  refine hK _ _ fun a22 hE22 => ?_
  clear hK K e14 e17
  clear hE21 a21
  refine wpList_nil ?_
  refine hK15 _ _ ?_
  clear hK15 K15
  refine wp_if_t hE22 18 rfl ?_
  refine wp_seq_k fun K23 hK23 => ?_
  refine wp_region_lit ?_
  refine wpList_val hE22 19 rfl rfl fun K hK => ?_
  have e1 := hE22.get 1 rfl
  refine wp_load_blk 38 (.tmp 1) rfl w.heap.size (hE22.ev 1 rfl) 38 p.cells _ hpk Tryz.underlying38 rfl (by kernel_rfl) ?_
  refine hK _ _ fun a24 hE24 => ?_
  clear hK K e1
  clear hE22 a22
  refine wpList_none rfl fun K hK => ?_
  have e2 := hE24.get 2 rfl
  have e19 := hE24.get 19 rfl
  refine wp_store_blk 38 (.tmp 2) (.tmp 19) rfl (w.heap.size + 1) Pkt.zero.cells _ 38 (hE24.ev 2 rfl) (hE24.ev 19 rfl) hrs rfl (by kernel_rfl) (pkt_one _) fun w5 hb5 hg5 hz5 => ?_
  refine hK undef _ ?_
  clear hK K e2 e19
  refine wpList_val hE24 3 rfl rfl fun K hK => ?_
  go_simp
  refine hK _ _ fun a26 hE26 => ?_
  clear hK K
  clear hE24 a24
  refine wpList_val hE26 4 rfl rfl fun K hK => ?_
  go_simp
  refine hK _ _ fun a27 hE27 => ?_
  clear hK K
  clear hE26 a26
  refine wpList_nil ?_
  refine hK23 _ _ ?_
  clear hK23 K23
  refine wp_ret ?_
  refine bodyPost_ret (v := .tuple #[.agg p.cells, .slice none 0 0, .bool false]) (results_cell_tmp2 Tryz.results8 _ _ (w.heap.size + 1) 38 _ _ (hE27.get 2 rfl) hb5 Tryz.underlying38 rfl (by kernel_rfl) (hE27.get 3 rfl) (hE27.get 4 rfl)) hE27.defers (.inr ⟨hno.imp id (fun h => by omega), rfl, (hB.grown hg5 (by omega) (fun k hk => by injection hk; omega))⟩)

set_option maxHeartbeats 2000000 in
set_option maxRecDepth 100000 in
theorem legal_long (p c : Pkt) (w : World) (count type : Int) (bs : List Int) (ok : Bool) (hok : ok = true) (hle : bs.length ≤ 262140) (hlo : 131072 < 4 + bs.length)
    (hfmt : ∀ w', Below w.heap.size w w' → Calls Tryz.prog 24 #[.agg p.cells] w' (Fmt w' count type bs ok))
    (hcom : ∀ w', Below w.heap.size w w' → Calls Tryz.prog 25 #[.agg p.cells] w' fun e w'' => e = .returned (.agg c.cells) ∧ Below w'.heap.size w' w'') :
    Calls Tryz.prog 8 #[.agg p.cells] w (Legal w p c count type bs ok) := by
  refine calls_of_wp Tryz.func8 rfl ?_
  rw [Tryz.ntmps8]
  have hE0 : Env 23 [(0, .agg p.cells)] ⟨#[.agg p.cells] ++ Array.replicate (23 - (#[Value.agg p.cells] : Array Value).size) undef, []⟩ := Env.enter _ (by simp) ⟨by simp, trivial⟩
  generalize (⟨#[.agg p.cells] ++ Array.replicate (23 - (#[Value.agg p.cells] : Array Value).size) undef, []⟩ : Act) = a0 at hE0 ⊢
  have hl9 : (131072 : Int) < 4 + ((bs.length : Nat) : Int) := by omega
  refine wp_seq_k fun K1 hK1 => ?_
  refine wp_region_lit ?_
  refine wpList_val hE0 1 rfl rfl fun K hK => ?_
  have e0 := hE0.get 0 rfl
  go_simp
  refine hK _ _ fun a2 hE2 => ?_
  clear hK K e0
  clear hE0 a0
  refine wpList_val hE2 2 rfl rfl fun K hK => ?_
  go_simp
  refine hK _ _ fun a3 hE3 => ?_
  clear hK K
  clear hE2 a2
  refine wpList_val hE3 3 rfl rfl fun K hK => ?_
  go_simp
  refine hK _ _ fun a4 hE4 => ?_
  clear hK K
  clear hE3 a3
  refine wpList_val hE4 4 rfl rfl fun K hK => ?_
  go_simp
  refine hK _ _ fun a5 hE5 => ?_
  clear hK K
  clear hE4 a4
  refine wpList_nil ?_
  have hpk := (blk_new w 38 p.cells rfl).alloc (.cells Pkt.zero.cells 38)
  have hrs := blk_new (w.alloc (.cells p.cells 38)) 38 Pkt.zero.cells (B := w.heap.size + 1) (by simp)
  have hB := ((Below.refl w.heap.size w).alloc (Nat.le_refl _) (.cells p.cells 38)).alloc (by simp) (.cells Pkt.zero.cells 38)
  have hgoal : ∀ w1, Blk w1 w.heap.size 38 p.cells → Blk w1 (w.heap.size + 1) 38 Pkt.zero.cells → Below w.heap.size w w1 → K1 a5 w1 := ?_
  · exact hgoal _ hpk hrs hB
  clear hpk hrs hB
  intro w1 hpk hrs hB
  refine hK1 _ _ ?_
  clear hK1 K1
  refine wp_seq_k fun K6 hK6 => ?_
  refine wp_region_lit ?_
  refine wpList_val hE5 8 rfl rfl fun K hK => ?_
  have e1 := hE5.get 1 rfl
  refine wp_load_blk 38 (.tmp 1) rfl w.heap.size (hE5.ev 1 rfl) 38 p.cells _ hpk Tryz.underlying38 rfl (by kernel_rfl) ?_
  refine hK _ _ fun a7 hE7 => ?_
  clear hK K e1
  clear hE5 a5
  refine wpList_val hE7 9 rfl rfl fun K hK => ?_
  have e8 := hE7.get 8 rfl
  go_simp
  refine (hfmt w1 hB).mono ?_
  rintro e w2 hf
  obtain ⟨g, cap, rfl, hown2, hB2⟩ : ∃ g cap, e = .returned (.tuple #[.slice (some ⟨g, 0, none⟩) (4 + bs.length) cap, .bool true]) ∧ w2.ownsRow w1.heap.size 5 1 (.slice (some ⟨g, 0, none⟩) (4 + bs.length) cap) (4 + bs.length) (u8s (hdrB count type (((bs.length : Nat) : Int) / 4) ++ bs)) ∧ Below w1.heap.size w1 w2 := by
    rcases hf with ⟨-, -, h⟩ | ⟨h | h, -, -⟩
    · exact h
    · rw [hok] at h; cases h
    · omega
  refine hK _ _ fun a8 hE8 => ?_
  clear hK K e8
  clear hE7 a7
  refine wpList_val hE8 7 rfl rfl fun K hK => ?_
  have e9 := hE8.get 9 rfl
  go_simp
  refine hK _ _ fun a9 hE9 => ?_
  clear hK K e9
  clear hE8 a8
  refine wpList_val hE9 10 rfl rfl fun K hK => ?_
  have e7 := hE9.get 7 rfl
  go_simp
  refine hK _ _ fun a10 hE10 => ?_
  clear hK K e7
  clear hE9 a9
  refine wpList_val hE10 11 rfl rfl fun K hK => ?_
  have e7 := hE10.get 7 rfl
  go_simp
  refine hK _ _ fun a11 hE11 => ?_
  clear hK K e7
  clear hE10 a10
  refine wpList_val hE11 5 rfl rfl fun K hK => ?_
  have e10 := hE11.get 10 rfl
  go_simp
  refine hK _ _ fun a12 hE12 => ?_
  clear hK K e10
  clear hE11 a11
  refine wpList_val hE12 6 rfl rfl fun K hK => ?_
  have e11 := hE12.get 11 rfl
  go_simp
  refine hK _ _ fun a13 hE13 => ?_
  clear hK K e11
  clear hE12 a12
  refine wpList_nil ?_
  have hz1 : w.heap.size + 1 + 1 ≤ w1.heap.size := hrs.lt
  replace hpk := hpk.below hB2 hpk.lt
  replace hrs := hrs.below hB2 hrs.lt
  replace hB := hB.trans (hB2.mono hB.size)
  have hz2 := hB2.size
  refine hK6 _ _ ?_
  clear hK6 K6
  refine wp_seq_k fun K14 hK14 => ?_
  refine wp_seq_k fun K15 hK15 => ?_
  refine wp_region_lit ?_
  refine wpList_val hE13 12 rfl rfl fun K hK => ?_
  have e6 := hE13.get 6 rfl
  go_simp
  refine hK _ _ fun a16 hE16 => ?_
  clear hK K e6
  clear hE13 a13
  refine wpList_val hE16 13 rfl rfl fun K hK => ?_
  have e12 := hE16.get 12 rfl
  go_simp
  refine hK _ _ fun a17 hE17 => ?_
  clear hK K e12
  clear hE16 a16
  refine wpList_val hE17 14 rfl rfl fun K hK => ?_
  have e13 := hE17.get 13 rfl
  go_simp
  refine hK _ _ fun a18 hE18 => ?_
  clear hK K e13
  clear hE17 a17
  refine wpList_gval hE18 15 2 false 14 rfl rfl rfl rfl fun K hK => ?_
  have e5 := hE18.get 5 rfl
  go_simp
  refine hK _ _ fun a19 hE19 => ?_
  clear hK K e5
  clear hE18 a18
  refine wpList_gval hE19 16 2 false 14 rfl rfl rfl rfl fun K hK => ?_
  have e15 := hE19.get 15 rfl
  go_simp
  refine hK _ _ fun a20 hE20 => ?_
  clear hK K e15
  clear hE19 a19
  refine wpList_gval hE20 17 2 false 14 rfl rfl rfl rfl fun K hK => ?_
  have e16 := hE20.get 16 rfl
  go_simp
  refine hK _ _ fun a21 hE21 => ?_
  clear hK K e16
  clear hE20 a20
  refine wpList_val hE21 18 rfl rfl fun K hK => ?_
  have e14 := hE21.get 14 rfl
  have e17 := hE21.get 17 rfl
  go_simp
  refine hK _ _ fun a22 hE22 => ?_
  clear hK K e14 e17
  clear hE21 a21
  refine wpList_nil ?_
  refine hK15 _ _ ?_
  clear hK15 K15
  refine wp_if_t hE22 18 rfl ?_
  refine wp_seq_k fun K23 hK23 => ?_
  refine wp_region_lit ?_
  refine wpList_val hE22 19 rfl rfl fun K hK => ?_
  have e1 := hE22.get 1 rfl
  refine wp_load_blk 38 (.tmp 1) rfl w.heap.size (hE22.ev 1 rfl) 38 p.cells _ hpk Tryz.underlying38 rfl (by kernel_rfl) ?_
  refine hK _ _ fun a24 hE24 => ?_
  clear hK K e1
  clear hE22 a22
  refine wpList_none rfl fun K hK => ?_
  have e2 := hE24.get 2 rfl
  have e19 := hE24.get 19 rfl
  refine wp_store_blk 38 (.tmp 2) (.tmp 19) rfl (w.heap.size + 1) Pkt.zero.cells _ 38 (hE24.ev 2 rfl) (hE24.ev 19 rfl) hrs rfl (by kernel_rfl) (pkt_one _) fun w5 hb5 hg5 hz5 => ?_
  refine hK undef _ ?_
  clear hK K e2 e19
  refine wpList_val hE24 3 rfl rfl fun K hK => ?_
  go_simp
  refine hK _ _ fun a26 hE26 => ?_
  clear hK K
  clear hE24 a24
  refine wpList_val hE26 4 rfl rfl fun K hK => ?_
  go_simp
  refine hK _ _ fun a27 hE27 => ?_
  clear hK K
  clear hE26 a26
  refine wpList_nil ?_
  refine hK23 _ _ ?_
  clear hK23 K23
  refine wp_ret ?_
  refine bodyPost_ret (v := .tuple #[.agg p.cells, .slice none 0 0, .bool false]) (results_cell_tmp2 Tryz.results8 _ _ (w.heap.size + 1) 38 _ _ (hE27.get 2 rfl) hb5 Tryz.underlying38 rfl (by kernel_rfl) (hE27.get 3 rfl) (hE27.get 4 rfl)) hE27.defers (.inr ⟨.inr hlo, rfl, (hB.grown hg5 (by omega) (fun k hk => by injection hk; omega))⟩)

set_option maxHeartbeats 2000000 in
set_option maxRecDepth 100000 in
theorem legal_yes (p c : Pkt) (w : World) (count type : Int) (bs : List Int) (ok : Bool) (hok : ok = true) (hle : 4 + bs.length ≤ 131072)
    (hfmt : ∀ w', Below w.heap.size w w' → Calls Tryz.prog 24 #[.agg p.cells] w' (Fmt w' count type bs ok))
    (hcom : ∀ w', Below w.heap.size w w' → Calls Tryz.prog 25 #[.agg p.cells] w' fun e w'' => e = .returned (.agg c.cells) ∧ Below w'.heap.size w' w'') :
    Calls Tryz.prog 8 #[.agg p.cells] w (Legal w p c count type bs ok) := by
  refine calls_of_wp Tryz.func8 rfl ?_
  rw [Tryz.ntmps8]
  have hE0 : Env 23 [(0, .agg p.cells)] ⟨#[.agg p.cells] ++ Array.replicate (23 - (#[Value.agg p.cells] : Array Value).size) undef, []⟩ := Env.enter _ (by simp) ⟨by simp, trivial⟩
  generalize (⟨#[.agg p.cells] ++ Array.replicate (23 - (#[Value.agg p.cells] : Array Value).size) undef, []⟩ : Act) = a0 at hE0 ⊢
  have hl9 : ¬ (131072 : Int) < 4 + ((bs.length : Nat) : Int) := by omega
  refine wp_seq_k fun K1 hK1 => ?_
  refine wp_region_lit ?_
  refine wpList_val hE0 1 rfl rfl fun K hK => ?_
  have e0 := hE0.get 0 rfl
  go_simp
  refine hK _ _ fun a2 hE2 => ?_
  clear hK K e0
  clear hE0 a0
  refine wpList_val hE2 2 rfl rfl fun K hK => ?_
  go_simp
  refine hK _ _ fun a3 hE3 => ?_
  clear hK K
  clear hE2 a2
  refine wpList_val hE3 3 rfl rfl fun K hK => ?_
  go_simp
  refine hK _ _ fun a4 hE4 => ?_
  clear hK K
  clear hE3 a3
  refine wpList_val hE4 4 rfl rfl fun K hK => ?_
  go_simp
  refine hK _ _ fun a5 hE5 => ?_
  clear hK K
  clear hE4 a4
  refine wpList_nil ?_
  have hpk := (blk_new w 38 p.cells rfl).alloc (.cells Pkt.zero.cells 38)
  have hrs := blk_new (w.alloc (.cells p.cells 38)) 38 Pkt.zero.cells (B := w.heap.size + 1) (by simp)
  have hB := ((Below.refl w.heap.size w).alloc (Nat.le_refl _) (.cells p.cells 38)).alloc (by simp) (.cells Pkt.zero.cells 38)
  have hgoal : ∀ w1, Blk w1 w.heap.size 38 p.cells → Blk w1 (w.heap.size + 1) 38 Pkt.zero.cells → Below w.heap.size w w1 → K1 a5 w1 := ?_
  · exact hgoal _ hpk hrs hB
  clear hpk hrs hB
  intro w1 hpk hrs hB
  refine hK1 _ _ ?_
  clear hK1 K1
  refine wp_seq_k fun K6 hK6 => ?_
  refine wp_region_lit ?_
  refine wpList_val hE5 8 rfl rfl fun K hK => ?_
  have e1 := hE5.get 1 rfl
  refine wp_load_blk 38 (.tmp 1) rfl w.heap.size (hE5.ev 1 rfl) 38 p.cells _ hpk Tryz.underlying38 rfl (by kernel_rfl) ?_
  refine hK _ _ fun a7 hE7 => ?_
  clear hK K e1
  clear hE5 a5
  refine wpList_val hE7 9 rfl rfl fun K hK => ?_
  have e8 := hE7.get 8 rfl
  go_simp
  refine (hfmt w1 hB).mono ?_
  rintro e w2 hf
  obtain ⟨g, cap, rfl, hown2, hB2⟩ : ∃ g cap, e = .returned (.tuple #[.slice (some ⟨g, 0, none⟩) (4 + bs.length) cap, .bool true]) ∧ w2.ownsRow w1.heap.size 5 1 (.slice (some ⟨g, 0, none⟩) (4 + bs.length) cap) (4 + bs.length) (u8s (hdrB count type (((bs.length : Nat) : Int) / 4) ++ bs)) ∧ Below w1.heap.size w1 w2 := by
    rcases hf with ⟨-, -, h⟩ | ⟨h | h, -, -⟩
    · exact h
    · rw [hok] at h; cases h
    · omega
  refine hK _ _ fun a8 hE8 => ?_
  clear hK K e8
  clear hE7 a7
  refine wpList_val hE8 7 rfl rfl fun K hK => ?_
  have e9 := hE8.get 9 rfl
  go_simp
  refine hK _ _ fun a9 hE9 => ?_
  clear hK K e9
  clear hE8 a8
  refine wpList_val hE9 10 rfl rfl fun K hK => ?_
  have e7 := hE9.get 7 rfl
  go_simp
  refine hK _ _ fun a10 hE10 => ?_
  clear hK K e7
  clear hE9 a9
  refine wpList_val hE10 11 rfl rfl fun K hK => ?_
  have e7 := hE10.get 7 rfl
  go_simp
  refine hK _ _ fun a11 hE11 => ?_
  clear hK K e7
  clear hE10 a10
  refine wpList_val hE11 5 rfl rfl fun K hK => ?_
  have e10 := hE11.get 10 rfl
  go_simp
  refine hK _ _ fun a12 hE12 => ?_
  clear hK K e10
  clear hE11 a11
  refine wpList_val hE12 6 rfl rfl fun K hK => ?_
  have e11 := hE12.get 11 rfl
  go_simp
  refine hK _ _ fun a13 hE13 => ?_
  clear hK K e11
  clear hE12 a12
  refine wpList_nil ?_
  have hz1 : w.heap.size + 1 + 1 ≤ w1.heap.size := hrs.lt
  replace hpk := hpk.below hB2 hpk.lt
  replace hrs := hrs.below hB2 hrs.lt
  replace hB := hB.trans (hB2.mono hB.size)
  have hz2 := hB2.size
  refine hK6 _ _ ?_
  clear hK6 K6
  refine wp_seq_k fun K14 hK14 => ?_
  refine wp_seq_k fun K15 hK15 => ?_
  refine wp_region_lit ?_
  refine wpList_val hE13 12 rfl rfl fun K hK => ?_
  have e6 := hE13.get 6 rfl
  go_simp
  refine hK _ _ fun a16 hE16 => ?_
  clear hK K e6
  clear hE13 a13
  refine wpList_val hE16 13 rfl rfl fun K hK => ?_
  have e12 := hE16.get 12 rfl
  go_simp
  refine hK _ _ fun a17 hE17 => ?_
  clear hK K e12
  clear hE16 a16
  refine wpList_val hE17 14 rfl rfl fun K hK => ?_
  have e13 := hE17.get 13 rfl
  go_simp
  refine hK _ _ fun a18 hE18 => ?_
  clear hK K e13
  clear hE17 a17
  refine wpList_gval hE18 15 2 false 14 rfl rfl rfl rfl fun K hK => ?_
  have e5 := hE18.get 5 rfl
  go_simp
  refine hK _ _ fun a19 hE19 => ?_
  clear hK K e5
  clear hE18 a18
  refine wpList_gval hE19 16 2 false 14 rfl rfl rfl rfl fun K hK => ?_
  have e15 := hE19.get 15 rfl
  go_simp
  refine hK _ _ fun a20 hE20 => ?_
  clear hK K e15
  clear hE19 a19
  refine wpList_gval hE20 17 2 false 14 rfl rfl rfl rfl fun K hK => ?_
  have e16 := hE20.get 16 rfl
  go_simp
  refine hK _ _ fun a21 hE21 => ?_
  clear hK K e16
  clear hE20 a20
  refine wpList_val hE21 18 rfl rfl fun K hK => ?_
  have e14 := hE21.get 14 rfl
  have e17 := hE21.get 17 rfl
  go_simp
  refine hK _ _ fun a22 hE22 => ?_
  clear hK K e14 e17
  clear hE21 a21
  refine wpList_nil ?_
  refine hK15 _ _ ?_
  clear hK15 K15
  refine wp_if_f hE22 18 rfl ?_
  refine wp_skip ?_
  refine hK14 _ _ ?_
  clear hK14 K14
  refine wp_seq_k fun K23 hK23 => ?_
  refine wp_region_lit ?_
  refine wpList_val hE22 20 rfl rfl fun K hK => ?_
  have e1 := hE22.get 1 rfl
  refine wp_load_blk 38 (.tmp 1) rfl w.heap.size (hE22.ev 1 rfl) 38 p.cells _ hpk Tryz.underlying38 rfl (by kernel_rfl) ?_
  refine hK _ _ fun a24 hE24 => ?_
  clear hK K e1
  clear hE22 a22
  refine wpList_val hE24 21 rfl rfl fun K hK => ?_
  have e20 := hE24.get 20 rfl
  go_simp
  refine (hcom w2 hB).mono ?_
  rintro e w4 ⟨rfl, hB4⟩
  refine hK _ _ fun a25 hE25 => ?_
  clear hK K e20
  clear hE24 a24
  have hown6 := own_below hown2 hB4 (fun j hj => (hown2.lt j hj).2)
  have hB5 := hB.trans (hB4.mono hB.size)
  have hrs4 := hrs.below hB4 hrs.lt
  refine wpList_val hE25 22 rfl rfl fun K hK => ?_
  have e5 := hE25.get 5 rfl
  go_simp
  refine hK _ _ fun a26 hE26 => ?_
  clear hK K e5
  clear hE25 a25
  refine wpList_none rfl fun K hK => ?_
  have e2 := hE26.get 2 rfl
  have e21 := hE26.get 21 rfl
  refine wp_store_blk 38 (.tmp 2) (.tmp 21) rfl (w.heap.size + 1) Pkt.zero.cells _ 38 (hE26.ev 2 rfl) (hE26.ev 21 rfl) hrs4 rfl (by kernel_rfl) (pkt_one _) fun w5 hb5 hg5 hz5 => ?_
  refine hK undef _ ?_
  clear hK K e2 e21
  have hown7 := hown6.kept hg5 (.inr (fun e => by have := (hown2.lt _ e).1; omega))
  have hB6 := hB5.grown hg5 (by have := hB5.size; omega) (fun k hk => by injection hk; omega)
  refine wpList_val hE26 3 rfl rfl fun K hK => ?_
  have e22 := hE26.get 22 rfl
  go_simp
  refine hK _ _ fun a28 hE28 => ?_
  clear hK K e22
  clear hE26 a26
  refine wpList_val hE28 4 rfl rfl fun K hK => ?_
  go_simp
  refine hK _ _ fun a29 hE29 => ?_
  clear hK K
  clear hE28 a28
  refine wpList_nil ?_
  refine hK23 _ _ ?_
  clear hK23 K23
  refine wp_ret ?_
  refine bodyPost_ret (v := .tuple #[.agg c.cells, .slice (some ⟨g, 0, none⟩) (4 + bs.length) cap, .bool true]) (results_cell_tmp2 Tryz.results8 _ _ (w.heap.size + 1) 38 _ _ (hE29.get 2 rfl) hb5 Tryz.underlying38 rfl (by kernel_rfl) (hE29.get 3 rfl) (hE29.get 4 rfl)) hE29.defers (.inl ⟨hok, hle, g, cap, rfl, own_base hown7 (by omega), hB6⟩)

end Go.Proofs.YtmmfpgoodfgkbaaGreat
