/-
  THE WALK of the law's look at a packet: those that cannot be written, and raw ones. Condition: the contracts of the reference's writing and leaving out.
-/
import Derived.Test.YtmmfpgoodfgkbaaGreatFmtRaw
namespace Go.Proofs.YtmmfpgoodfgkbaaGreat
open Go Go.RowKit
set_option linter.unusedVariables false

set_option maxHeartbeats 2000000 in
set_option maxRecDepth 100000 in
theorem legal_none (p : Pkt) (w : World) (hfmt : ∀ w', Below w.heap.size w w' → Calls Tryz.prog 24 #[.agg p.cells] w' fun e w'' => e = .returned (.tuple #[.slice none 0 0, .bool false]) ∧ Below w'.heap.size w' w'') :
    Calls Tryz.prog 8 #[.agg p.cells] w fun e w' => e = .returned (.tuple #[.agg p.cells, .slice none 0 0, .bool false]) ∧ Below w.heap.size w w' := by
  refine calls_of_wp Tryz.func8 rfl ?_
  rw [Tryz.ntmps8]
  have hE0 : Env 23 [(0, .agg p.cells)] ⟨#[.agg p.cells] ++ Array.replicate (23 - (#[.agg p.cells] : Array Value).size) undef, []⟩ := Env.enter _ (by simp) ⟨by simp, trivial⟩
  generalize (⟨#[.agg p.cells] ++ Array.replicate (23 - (#[.agg p.cells] : Array Value).size) undef, []⟩ : Act) = a0 at hE0 ⊢
  have hS0 : Stp (fun _ => False) w w (lookM []) := Stp.refl w
  refine wp_seq_k fun K1 hK1 => ?_
  refine wp_region_lit ?_
  refine seq_new hE0 hS0 1 101 (fun g => .pointer (some ⟨g, 0, none⟩)) 38 (p.cells) (fun w => by kernel_rfl) rfl rfl rfl rfl rfl fun a2 u1 g101 hE2 hS2 => ?_
  clear hE0 a0
  clear hS0
  refine seq_new hE2 hS2 2 102 (fun g => .pointer (some ⟨g, 0, none⟩)) 38 #[.int .i64 0, .int .u32 0, .int .u32 0, .int .u64 0, .int .u32 0, .int .u32 0, .int .u32 0, .slice none 0 0, .slice none 0 0, .slice none 0 0, .slice none 0 0, .string ByteArray.empty, .int .u8 0, .slice none 0 0, .slice none 0 0, .slice none 0 0, .slice none 0 0, .int .u32 0, .slice none 0 0, .int .u32 0, .int .u16 0, .int .u16 0, .int .u32 0, .int .u8 0, .slice none 0 0, .slice none 0 0, .bool false, .int .u8 0, .int .u8 0, .int .u16 0] (fun w => by kernel_rfl) rfl rfl rfl rfl rfl fun a3 u2 g102 hE3 hS3 => ?_
  clear hE2 a2
  clear hS2
  clear u1
  refine seq_pure hE3 3 (.slice none 0 0) (fun w => by kernel_rfl) rfl rfl rfl rfl rfl fun a4 hE4 => ?_
  clear hE3 a3
  refine seq_pure hE4 4 (.bool false) (fun w => by kernel_rfl) rfl rfl rfl rfl rfl fun a5 hE5 => ?_
  clear hE4 a4
  refine wpList_nil ?_
  refine hK1 _ _ ?_
  clear hK1
  refine wp_seq_k fun K6 hK6 => ?_
  refine wp_region_lit ?_
  refine seq_loadN hE5 hS3 8 101 Tryz.underlying38 (by kernel_rfl) rfl rfl rfl rfl rfl rfl rfl fun a7 hE7 => ?_
  clear hE5 a5
  refine wpList_val hE7 9 rfl rfl fun K hK => ?_
  have e8 := hE7.get 8 rfl
  go_simp
  refine (hfmt u2 (hS3.old _ (Nat.le_refl _) (fun _ h => h.elim))).mono ?_
  rintro e w5 ⟨rfl, hB5⟩
  refine hK _ _ fun a8 hE8 => ?_
  clear hK K e8
  clear hE7 a7
  have hS9 := hS3.still hB5
  clear hB5 hS3
  refine seq_pure hE8 7 (.tuple #[.slice none 0 0, .bool false]) (fun w => by kernel_rfl) rfl rfl rfl rfl rfl fun a10 hE10 => ?_
  clear hE8 a8
  refine wpList_val hE10 10 rfl rfl fun K hK => ?_
  have e7 := hE10.get 7 rfl
  go_simp
  refine hK _ _ fun a11 hE11 => ?_
  clear hK K e7
  clear hE10 a10
  refine wpList_val hE11 11 rfl rfl fun K hK => ?_
  have e7 := hE11.get 7 rfl
  go_simp
  refine hK _ _ fun a12 hE12 => ?_
  clear hK K e7
  clear hE11 a11
  refine seq_pure hE12 5 (.slice none 0 0) (fun w => by kernel_rfl) rfl rfl rfl rfl rfl fun a13 hE13 => ?_
  clear hE12 a12
  refine seq_pure hE13 6 (.bool false) (fun w => by kernel_rfl) rfl rfl rfl rfl rfl fun a14 hE14 => ?_
  clear hE13 a13
  refine wpList_nil ?_
  refine hK6 _ _ ?_
  clear hK6
  refine wp_seq_k fun K15 hK15 => ?_
  refine wp_seq_k fun K16 hK16 => ?_
  refine wp_region_lit ?_
  refine seq_pure hE14 12 (.bool false) (fun w => by kernel_rfl) rfl rfl rfl rfl rfl fun a17 hE17 => ?_
  clear hE14 a14
  refine wpList_val hE17 13 rfl rfl fun K hK => ?_
  have e12 := hE17.get 12 rfl
  go_simp
  refine hK _ _ fun a18 hE18 => ?_
  clear hK K e12
  clear hE17 a17
  refine seq_pure hE18 14 (.bool true) (fun w => by kernel_rfl) rfl rfl rfl rfl rfl fun a19 hE19 => ?_
  clear hE18 a18
  refine wpList_gskip hE19 15 2 false 14 rfl rfl rfl rfl rfl fun a20 hE20 => ?_
  clear hE19 a19
  refine wpList_gskip hE20 16 2 false 14 rfl rfl rfl rfl rfl fun a21 hE21 => ?_
  clear hE20 a20
  refine wpList_gskip hE21 17 2 false 14 rfl rfl rfl rfl rfl fun a22 hE22 => ?_
  clear hE21 a21
  refine wpList_val hE22 18 rfl rfl fun K hK => ?_
  have e14 := hE22.get 14 rfl
  have e17 := hE22.get 17 rfl
  go_simp
  refine hK _ _ fun a23 hE23 => ?_
  clear hK K e14 e17
  clear hE22 a22
  refine wpList_nil ?_
  refine hK16 _ _ ?_
  clear hK16
  refine wp_if_t hE23 18 rfl ?_
  refine wp_seq_k fun K24 hK24 => ?_
  refine wp_region_lit ?_
  refine seq_loadN hE23 hS9 19 101 Tryz.underlying38 (by kernel_rfl) rfl rfl rfl rfl rfl rfl rfl fun a25 hE25 => ?_
  clear hE23 a23
  refine seq_storeN hE25 hS9 102 (new := p.cells) (by simp [Pkt.cells, Sl.val, Value.oneCell']) rfl rfl rfl rfl rfl (by kernel_rfl) rfl rfl rfl fun u3 hS26 => ?_
  clear hS9
  clear w5
  refine seq_pure hE25 3 (.slice none 0 0) (fun w => by kernel_rfl) rfl rfl rfl rfl rfl fun a27 hE27 => ?_
  clear hE25 a25
  refine seq_pure hE27 4 (.bool false) (fun w => by kernel_rfl) rfl rfl rfl rfl rfl fun a28 hE28 => ?_
  clear hE27 a27
  refine wpList_nil ?_
  refine hK24 _ _ ?_
  clear hK24
  refine wp_ret ?_
  try simp only [Exit.then]
  refine bodyPost_ret (results_cell_tmp2 Tryz.results8 _ _ _ 38 _ _ (hE28.get 2 rfl) (hS26.blk 102 rfl) Tryz.underlying38 rfl (by kernel_rfl) (hE28.get 3 rfl) (hE28.get 4 rfl)) hE28.defers ⟨rfl, hS26.below⟩

set_option maxHeartbeats 2000000 in
set_option maxRecDepth 100000 in
theorem legal_raw (p c : Pkt) (w : World) (hfmt : ∀ w', Below w.heap.size w w' → Calls Tryz.prog 24 #[.agg p.cells] w' fun e w'' => ∃ b, e = .returned (.tuple #[.slice p.data.A (p.data.l.length : Nat) p.data.c, .bool b]) ∧ Below w'.heap.size w' w'')
    (hcom : ∀ w', Below w.heap.size w w' → Calls Tryz.prog 25 #[.agg p.cells] w' fun e w'' => e = .returned (.agg c.cells) ∧ Below w'.heap.size w' w'') :
    Calls Tryz.prog 8 #[.agg p.cells] w fun e w' => Below w.heap.size w w' ∧ (e = .returned (.tuple #[.agg p.cells, .slice none 0 0, .bool false]) ∨ p.data.l.length ≤ 131072 ∧ e = .returned (.tuple #[.agg c.cells, .slice p.data.A (p.data.l.length : Nat) p.data.c, .bool true])) := by
  refine calls_of_wp Tryz.func8 rfl ?_
  rw [Tryz.ntmps8]
  have hE0 : Env 23 [(0, .agg p.cells)] ⟨#[.agg p.cells] ++ Array.replicate (23 - (#[.agg p.cells] : Array Value).size) undef, []⟩ := Env.enter _ (by simp) ⟨by simp, trivial⟩
  generalize (⟨#[.agg p.cells] ++ Array.replicate (23 - (#[.agg p.cells] : Array Value).size) undef, []⟩ : Act) = a0 at hE0 ⊢
  have hS0 : Stp (fun _ => False) w w (lookM []) := Stp.refl w
  refine wp_seq_k fun K1 hK1 => ?_
  refine wp_region_lit ?_
  refine seq_new hE0 hS0 1 101 (fun g => .pointer (some ⟨g, 0, none⟩)) 38 (p.cells) (fun w => by kernel_rfl) rfl rfl rfl rfl rfl fun a2 u1 g101 hE2 hS2 => ?_
  clear hE0 a0
  clear hS0
  refine seq_new hE2 hS2 2 102 (fun g => .pointer (some ⟨g, 0, none⟩)) 38 #[.int .i64 0, .int .u32 0, .int .u32 0, .int .u64 0, .int .u32 0, .int .u32 0, .int .u32 0, .slice none 0 0, .slice none 0 0, .slice none 0 0, .slice none 0 0, .string ByteArray.empty, .int .u8 0, .slice none 0 0, .slice none 0 0, .slice none 0 0, .slice none 0 0, .int .u32 0, .slice none 0 0, .int .u32 0, .int .u16 0, .int .u16 0, .int .u32 0, .int .u8 0, .slice none 0 0, .slice none 0 0, .bool false, .int .u8 0, .int .u8 0, .int .u16 0] (fun w => by kernel_rfl) rfl rfl rfl rfl rfl fun a3 u2 g102 hE3 hS3 => ?_
  clear hE2 a2
  clear hS2
  clear u1
  refine seq_pure hE3 3 (.slice none 0 0) (fun w => by kernel_rfl) rfl rfl rfl rfl rfl fun a4 hE4 => ?_
  clear hE3 a3
  refine seq_pure hE4 4 (.bool false) (fun w => by kernel_rfl) rfl rfl rfl rfl rfl fun a5 hE5 => ?_
  clear hE4 a4
  refine wpList_nil ?_
  refine hK1 _ _ ?_
  clear hK1
  refine wp_seq_k fun K6 hK6 => ?_
  refine wp_region_lit ?_
  refine seq_loadN hE5 hS3 8 101 Tryz.underlying38 (by kernel_rfl) rfl rfl rfl rfl rfl rfl rfl fun a7 hE7 => ?_
  clear hE5 a5
  refine wpList_val hE7 9 rfl rfl fun K hK => ?_
  have e8 := hE7.get 8 rfl
  go_simp
  refine (hfmt u2 (hS3.old _ (Nat.le_refl _) (fun _ h => h.elim))).mono ?_
  rintro e w5 ⟨b, rfl, hB5⟩
  refine hK _ _ fun a8 hE8 => ?_
  clear hK K e8
  clear hE7 a7
  have hS9 := hS3.still hB5
  clear hB5 hS3
  refine seq_pure hE8 7 (.tuple #[.slice p.data.A (p.data.l.length : Nat) p.data.c, .bool b]) (fun w => by kernel_rfl) rfl rfl rfl rfl rfl fun a10 hE10 => ?_
  clear hE8 a8
  refine wpList_val hE10 10 rfl rfl fun K hK => ?_
  have e7 := hE10.get 7 rfl
  go_simp
  refine hK _ _ fun a11 hE11 => ?_
  clear hK K e7
  clear hE10 a10
  refine wpList_val hE11 11 rfl rfl fun K hK => ?_
  have e7 := hE11.get 7 rfl
  go_simp
  refine hK _ _ fun a12 hE12 => ?_
  clear hK K e7
  clear hE11 a11
  refine seq_pure hE12 5 (.slice p.data.A (p.data.l.length : Nat) p.data.c) (fun w => by kernel_rfl) rfl rfl rfl rfl rfl fun a13 hE13 => ?_
  clear hE12 a12
  refine seq_pure hE13 6 (.bool b) (fun w => by kernel_rfl) rfl rfl rfl rfl rfl fun a14 hE14 => ?_
  clear hE13 a13
  refine wpList_nil ?_
  refine hK6 _ _ ?_
  clear hK6
  refine wp_seq_k fun K15 hK15 => ?_
  refine wp_seq_k fun K16 hK16 => ?_
  cases b with
  | false =>
    refine wp_region_lit ?_
    refine seq_pure hE14 12 (.bool false) (fun w => by kernel_rfl) rfl rfl rfl rfl rfl fun a17 hE17 => ?_
    clear hE14 a14
    refine wpList_val hE17 13 rfl rfl fun K hK => ?_
    have e12 := hE17.get 12 rfl
    go_simp
    refine hK _ _ fun a18 hE18 => ?_
    clear hK K e12
    clear hE17 a17
    refine seq_pure hE18 14 (.bool true) (fun w => by kernel_rfl) rfl rfl rfl rfl rfl fun a19 hE19 => ?_
    clear hE18 a18
    refine wpList_gskip hE19 15 2 false 14 rfl rfl rfl rfl rfl fun a20 hE20 => ?_
    clear hE19 a19
    refine wpList_gskip hE20 16 2 false 14 rfl rfl rfl rfl rfl fun a21 hE21 => ?_
    clear hE20 a20
    refine wpList_gskip hE21 17 2 false 14 rfl rfl rfl rfl rfl fun a22 hE22 => ?_
    clear hE21 a21
    refine wpList_val hE22 18 rfl rfl fun K hK => ?_
    have e14 := hE22.get 14 rfl
    have e17 := hE22.get 17 rfl
    go_simp
    refine hK _ _ fun a23 hE23 => ?_
    clear hK K e14 e17
    clear hE22 a22
    refine wpList_nil ?_
    refine hK16 _ _ ?_
    clear hK16
    refine wp_if_t hE23 18 rfl ?_
    refine wp_seq_k fun K24 hK24 => ?_
    refine wp_region_lit ?_
    refine seq_loadN hE23 hS9 19 101 Tryz.underlying38 (by kernel_rfl) rfl rfl rfl rfl rfl rfl rfl fun a25 hE25 => ?_
    clear hE23 a23
    refine seq_storeN hE25 hS9 102 (new := p.cells) (by simp [Pkt.cells, Sl.val, Value.oneCell']) rfl rfl rfl rfl rfl (by kernel_rfl) rfl rfl rfl fun u3 hS26 => ?_
    clear hS9
    clear w5
    refine seq_pure hE25 3 (.slice none 0 0) (fun w => by kernel_rfl) rfl rfl rfl rfl rfl fun a27 hE27 => ?_
    clear hE25 a25
    refine seq_pure hE27 4 (.bool false) (fun w => by kernel_rfl) rfl rfl rfl rfl rfl fun a28 hE28 => ?_
    clear hE27 a27
    refine wpList_nil ?_
    refine hK24 _ _ ?_
    clear hK24
    refine wp_ret ?_
    try simp only [Exit.then]
    refine bodyPost_ret (results_cell_tmp2 Tryz.results8 _ _ _ 38 _ _ (hE28.get 2 rfl) (hS26.blk 102 rfl) Tryz.underlying38 rfl (by kernel_rfl) (hE28.get 3 rfl) (hE28.get 4 rfl)) hE28.defers ⟨hS26.below, .inl rfl⟩
  | true =>
    by_cases hln : 131072 < p.data.l.length
    case pos =>
      have hln2 : (131072 : Int) < (p.data.l.length : Int) := by omega
      refine wp_region_lit ?_
      refine seq_pure hE14 12 (.bool true) (fun w => by kernel_rfl) rfl rfl rfl rfl rfl fun a17 hE17 => ?_
      clear hE14 a14
      refine wpList_val hE17 13 rfl rfl fun K hK => ?_
      have e12 := hE17.get 12 rfl
      go_simp
      refine hK _ _ fun a18 hE18 => ?_
      clear hK K e12
      clear hE17 a17
      refine seq_pure hE18 14 (.bool false) (fun w => by kernel_rfl) rfl rfl rfl rfl rfl fun a19 hE19 => ?_
      clear hE18 a18
      refine wpList_gval hE19 15 2 false 14 rfl rfl rfl rfl fun K hK => ?_
      have e5 := hE19.get 5 rfl
      go_simp
      refine hK _ _ fun a20 hE20 => ?_
      clear hK K e5
      clear hE19 a19
      refine wpList_gval hE20 16 2 false 14 rfl rfl rfl rfl fun K hK => ?_
      have e15 := hE20.get 15 rfl
      go_simp
      refine hK _ _ fun a21 hE21 => ?_
      clear hK K e15
      clear hE20 a20
      refine wpList_gval hE21 17 2 false 14 rfl rfl rfl rfl fun K hK => ?_
      have e16 := hE21.get 16 rfl
      go_simp
      refine hK _ _ fun a22 hE22 => ?_
      clear hK K e16
      clear hE21 a21
      refine wpList_val hE22 18 rfl rfl fun K hK => ?_
      have e14 := hE22.get 14 rfl
      have e17 := hE22.get 17 rfl
      go_simp
      refine hK _ _ fun a23 hE23 => ?_
      clear hK K e14 e17
      clear hE22 a22
      refine wpList_nil ?_
      refine hK16 _ _ ?_
      clear hK16
      refine wp_if_t hE23 18 rfl ?_
      refine wp_seq_k fun K24 hK24 => ?_
      refine wp_region_lit ?_
      refine seq_loadN hE23 hS9 19 101 Tryz.underlying38 (by kernel_rfl) rfl rfl rfl rfl rfl rfl rfl fun a25 hE25 => ?_
      clear hE23 a23
      refine seq_storeN hE25 hS9 102 (new := p.cells) (by simp [Pkt.cells, Sl.val, Value.oneCell']) rfl rfl rfl rfl rfl (by kernel_rfl) rfl rfl rfl fun u3 hS26 => ?_
      clear hS9
      clear w5
      refine seq_pure hE25 3 (.slice none 0 0) (fun w => by kernel_rfl) rfl rfl rfl rfl rfl fun a27 hE27 => ?_
      clear hE25 a25
      refine seq_pure hE27 4 (.bool false) (fun w => by kernel_rfl) rfl rfl rfl rfl rfl fun a28 hE28 => ?_
      clear hE27 a27
      refine wpList_nil ?_
      refine hK24 _ _ ?_
      clear hK24
      refine wp_ret ?_
      try simp only [Exit.then]
      refine bodyPost_ret (results_cell_tmp2 Tryz.results8 _ _ _ 38 _ _ (hE28.get 2 rfl) (hS26.blk 102 rfl) Tryz.underlying38 rfl (by kernel_rfl) (hE28.get 3 rfl) (hE28.get 4 rfl)) hE28.defers ⟨hS26.below, .inl rfl⟩
    case neg =>
      have hln2 : ¬ (131072 : Int) < (p.data.l.length : Int) := by omega
      refine wp_region_lit ?_
      refine seq_pure hE14 12 (.bool true) (fun w => by kernel_rfl) rfl rfl rfl rfl rfl fun a17 hE17 => ?_
      clear hE14 a14
      refine wpList_val hE17 13 rfl rfl fun K hK => ?_
      have e12 := hE17.get 12 rfl
      go_simp
      refine hK _ _ fun a18 hE18 => ?_
      clear hK K e12
      clear hE17 a17
      refine seq_pure hE18 14 (.bool false) (fun w => by kernel_rfl) rfl rfl rfl rfl rfl fun a19 hE19 => ?_
      clear hE18 a18
      refine wpList_gval hE19 15 2 false 14 rfl rfl rfl rfl fun K hK => ?_
      have e5 := hE19.get 5 rfl
      go_simp
      refine hK _ _ fun a20 hE20 => ?_
      clear hK K e5
      clear hE19 a19
      refine wpList_gval hE20 16 2 false 14 rfl rfl rfl rfl fun K hK => ?_
      have e15 := hE20.get 15 rfl
      go_simp
      refine hK _ _ fun a21 hE21 => ?_
      clear hK K e15
      clear hE20 a20
      refine wpList_gval hE21 17 2 false 14 rfl rfl rfl rfl fun K hK => ?_
      have e16 := hE21.get 16 rfl
      go_simp
      refine hK _ _ fun a22 hE22 => ?_
      clear hK K e16
      clear hE21 a21
      refine wpList_val hE22 18 rfl rfl fun K hK => ?_
      have e14 := hE22.get 14 rfl
      have e17 := hE22.get 17 rfl
      go_simp
      refine hK _ _ fun a23 hE23 => ?_
      clear hK K e14 e17
      clear hE22 a22
      refine wpList_nil ?_
      refine hK16 _ _ ?_
      clear hK16
      refine wp_if_f hE23 18 rfl ?_
      refine wp_skip ?_
      refine hK15 _ _ ?_
      clear hK15
      refine wp_seq_k fun K24 hK24 => ?_
      refine wp_region_lit ?_
      refine seq_loadN hE23 hS9 20 101 Tryz.underlying38 (by kernel_rfl) rfl rfl rfl rfl rfl rfl rfl fun a25 hE25 => ?_
      clear hE23 a23
      refine wpList_val hE25 21 rfl rfl fun K hK => ?_
      have e20 := hE25.get 20 rfl
      go_simp
      refine (hcom w5 (hS9.old _ (Nat.le_refl _) (fun _ h => h.elim))).mono ?_
      rintro e w6 ⟨rfl, hB6⟩
      refine hK _ _ fun a26 hE26 => ?_
      clear hK K e20
      clear hE25 a25
      have hS27 := hS9.still hB6
      clear hB6 hS9
      refine seq_pure hE26 22 (.slice p.data.A (p.data.l.length : Nat) p.data.c) (fun w => by kernel_rfl) rfl rfl rfl rfl rfl fun a28 hE28 => ?_
      clear hE26 a26
      refine seq_storeN hE28 hS27 102 (new := c.cells) (by simp [Pkt.cells, Sl.val, Value.oneCell']) rfl rfl rfl rfl rfl (by kernel_rfl) rfl rfl rfl fun u3 hS29 => ?_
      clear hS27
      clear w6
      refine seq_pure hE28 3 (.slice p.data.A (p.data.l.length : Nat) p.data.c) (fun w => by kernel_rfl) rfl rfl rfl rfl rfl fun a30 hE30 => ?_
      clear hE28 a28
      refine seq_pure hE30 4 (.bool true) (fun w => by kernel_rfl) rfl rfl rfl rfl rfl fun a31 hE31 => ?_
      clear hE30 a30
      refine wpList_nil ?_
      refine hK24 _ _ ?_
      clear hK24
      refine wp_ret ?_
      try simp only [Exit.then]
      refine bodyPost_ret (results_cell_tmp2 Tryz.results8 _ _ _ 38 _ _ (hE31.get 2 rfl) (hS29.blk 102 rfl) Tryz.underlying38 rfl (by kernel_rfl) (hE31.get 3 rfl) (hE31.get 4 rfl)) hE31.defers ⟨hS29.below, .inr ⟨by omega, rfl⟩⟩

end Go.Proofs.YtmmfpgoodfgkbaaGreat
