/-
  THE WALK of the reference's writing: kinds that are none, and raw packets. Condition: the kind; what the packet's bytes read as.
-/
import Derived.Test.YtmmfpgoodfgkbaaGreatRdHdr
import Derived.Test.YtmmfpgoodfgkbaaGreatKindOf
import Derived.Test.YtmmfpgoodfgkbaaGreatLegalAny
namespace Go.Proofs.YtmmfpgoodfgkbaaGreat
open Go Go.RowKit
set_option linter.unusedVariables false

theorem readHeader_some (s : Sl Int) (w : World) (h : s.Lies w w.heap.size 1 u8c) (hz : ∀ x ∈ s.l, 0 ≤ x ∧ x < 256) (hc : s.l.length ≤ s.c) :
    Calls Tryz.prog 35 #[.slice s.A (s.l.length : Nat) s.c] w fun e w' => ∃ b c t l ok, e = .returned (.tuple #[.agg #[.bool b, .int .u8 c, .int .u8 t, .int .u16 l], .bool ok]) ∧ (0 ≤ l ∧ l < 65536) ∧ Below w.heap.size w w' := by
  by_cases hn : s.l.length < 4
  · exact (readHeader_short _ _ _ w hn).mono fun e w' ⟨h1, h2⟩ => ⟨false, 0, 0, 0, false, h1, by omega, h2⟩
  · have h' : Reads w w.heap.size 1 s.A s.l.length (u8s s.l) := by have := h; unfold Sl.Lies at this; rwa [u8c_flat] at this
    obtain ⟨ad, hA, _⟩ := h'.2 (by omega)
    rw [hA] at h' ⊢
    by_cases hb : gi s.l 0 / 64 = 2
    · exact (readHeader_ok h' (Nat.le_refl _) (Byts.gi hz 0) (Byts.gi hz 1) (Byts.gi hz 2) (Byts.gi hz 3) (by omega) hc hb).mono fun e w' ⟨h1, h2⟩ => ⟨_, _, _, _, true, h1, rd16_lt hz 2, h2⟩
    · exact (readHeader_bad h' (Nat.le_refl _) (Byts.gi hz 0) (Byts.gi hz 1) (Byts.gi hz 2) (Byts.gi hz 3) (by omega) hc hb).mono fun e w' ⟨h1, h2⟩ => ⟨false, 0, 0, 0, false, h1, by omega, h2⟩

set_option maxHeartbeats 2000000 in
set_option maxRecDepth 100000 in
theorem formatOne_neg (p : Pkt) (w : World) (hk : p.kind < 0) :
    Calls Tryz.prog 24 #[.agg p.cells] w fun e w' => e = .returned (.tuple #[.slice none 0 0, .bool false]) ∧ Below w.heap.size w w' := by
  have h1 : decide (p.kind < 0) = true := decide_eq_true (by omega)
  have h2 : decide (13 < p.kind) = false := decide_eq_false (by omega)
  refine calls_of_wp Tryz.func24 rfl ?_
  rw [Tryz.ntmps24]
  have hE0 : Env 78 [(0, .agg p.cells)] ⟨#[.agg p.cells] ++ Array.replicate (78 - (#[.agg p.cells] : Array Value).size) undef, []⟩ := Env.enter _ (by simp) ⟨by simp, trivial⟩
  generalize (⟨#[.agg p.cells] ++ Array.replicate (78 - (#[.agg p.cells] : Array Value).size) undef, []⟩ : Act) = a0 at hE0 ⊢
  have hS0 : Stp (fun _ => False) w w (lookM []) := Stp.refl w
  refine wp_seq_k fun K1 hK1 => ?_
  refine wp_region_lit ?_
  refine seq_new hE0 hS0 1 101 (fun g => .pointer (some ⟨g, 0, none⟩)) 38 (p.cells) (fun w => by kernel_rfl) rfl rfl rfl rfl rfl fun a2 u1 g101 hE2 hS2 => ?_
  clear hE0 a0
  clear hS0
  refine seq_pure hE2 2 (.slice none 0 0) (fun w => by kernel_rfl) rfl rfl rfl rfl rfl fun a3 hE3 => ?_
  clear hE2 a2
  refine seq_pure hE3 3 (.bool false) (fun w => by kernel_rfl) rfl rfl rfl rfl rfl fun a4 hE4 => ?_
  clear hE3 a3
  refine wpList_nil ?_
  refine hK1 _ _ ?_
  clear hK1
  refine wp_seq_k fun K5 hK5 => ?_
  refine wp_seq_k fun K6 hK6 => ?_
  refine wp_region_lit ?_
  refine seq_pure hE4 11 (.pointer (some ⟨g101, 0, none⟩)) (fun w => by kernel_rfl) rfl rfl rfl rfl rfl fun a7 hE7 => ?_
  clear hE4 a4
  refine seq_load hE7 hS2 12 101 0 (v := .int .i64 p.kind) (fun w => by kernel_rfl) rfl rfl rfl rfl rfl rfl rfl fun a8 hE8 => ?_
  clear hE7 a7
  refine wpList_val hE8 13 rfl rfl fun K hK => ?_
  have e12 := hE8.get 12 rfl
  go_simp
  refine hK _ _ fun a9 hE9 => ?_
  clear hK K e12
  clear hE8 a8
  refine seq_pure hE9 14 (.bool true) (fun w => by kernel_rfl) rfl rfl rfl rfl rfl fun a10 hE10 => ?_
  clear hE9 a9
  refine wpList_gskip hE10 15 3 false 14 rfl rfl rfl rfl rfl fun a11 hE11 => ?_
  clear hE10 a10
  refine wpList_gskip hE11 16 3 false 14 rfl rfl rfl rfl rfl fun a12 hE12 => ?_
  clear hE11 a11
  refine wpList_gskip hE12 17 3 false 14 rfl rfl rfl rfl rfl fun a13 hE13 => ?_
  clear hE12 a12
  refine wpList_val hE13 18 rfl rfl fun K hK => ?_
  have e14 := hE13.get 14 rfl
  have e17 := hE13.get 17 rfl
  go_simp
  refine hK _ _ fun a14 hE14 => ?_
  clear hK K e14 e17
  clear hE13 a13
  refine wpList_nil ?_
  refine hK6 _ _ ?_
  clear hK6
  refine wp_if_t hE14 18 rfl ?_
  refine wp_seq_k fun K15 hK15 => ?_
  refine wp_region_lit ?_
  refine seq_pure hE14 2 (.slice none 0 0) (fun w => by kernel_rfl) rfl rfl rfl rfl rfl fun a16 hE16 => ?_
  clear hE14 a14
  refine seq_pure hE16 3 (.bool false) (fun w => by kernel_rfl) rfl rfl rfl rfl rfl fun a17 hE17 => ?_
  clear hE16 a16
  refine wpList_nil ?_
  refine hK15 _ _ ?_
  clear hK15
  refine wp_ret ?_
  try simp only [Exit.then]
  refine bodyPost_ret (v := .tuple #[.slice none 0 0, .bool false]) (by simp [results, Tryz.results24, go_sem, hE17.get 2 rfl, hE17.get 3 rfl]) hE17.defers ⟨rfl, hS2.below⟩

set_option maxHeartbeats 2000000 in
set_option maxRecDepth 100000 in
theorem formatOne_big (p : Pkt) (w : World) (hk : 13 < p.kind) :
    Calls Tryz.prog 24 #[.agg p.cells] w fun e w' => e = .returned (.tuple #[.slice none 0 0, .bool false]) ∧ Below w.heap.size w w' := by
  have h1 : decide (p.kind < 0) = false := decide_eq_false (by omega)
  have h2 : decide (13 < p.kind) = true := decide_eq_true (by omega)
  refine calls_of_wp Tryz.func24 rfl ?_
  rw [Tryz.ntmps24]
  have hE0 : Env 78 [(0, .agg p.cells)] ⟨#[.agg p.cells] ++ Array.replicate (78 - (#[.agg p.cells] : Array Value).size) undef, []⟩ := Env.enter _ (by simp) ⟨by simp, trivial⟩
  generalize (⟨#[.agg p.cells] ++ Array.replicate (78 - (#[.agg p.cells] : Array Value).size) undef, []⟩ : Act) = a0 at hE0 ⊢
  have hS0 : Stp (fun _ => False) w w (lookM []) := Stp.refl w
  refine wp_seq_k fun K1 hK1 => ?_
  refine wp_region_lit ?_
  refine seq_new hE0 hS0 1 101 (fun g => .pointer (some ⟨g, 0, none⟩)) 38 (p.cells) (fun w => by kernel_rfl) rfl rfl rfl rfl rfl fun a2 u1 g101 hE2 hS2 => ?_
  clear hE0 a0
  clear hS0
  refine seq_pure hE2 2 (.slice none 0 0) (fun w => by kernel_rfl) rfl rfl rfl rfl rfl fun a3 hE3 => ?_
  clear hE2 a2
  refine seq_pure hE3 3 (.bool false) (fun w => by kernel_rfl) rfl rfl rfl rfl rfl fun a4 hE4 => ?_
  clear hE3 a3
  refine wpList_nil ?_
  refine hK1 _ _ ?_
  clear hK1
  refine wp_seq_k fun K5 hK5 => ?_
  refine wp_seq_k fun K6 hK6 => ?_
  refine wp_region_lit ?_
  refine seq_pure hE4 11 (.pointer (some ⟨g101, 0, none⟩)) (fun w => by kernel_rfl) rfl rfl rfl rfl rfl fun a7 hE7 => ?_
  clear hE4 a4
  refine seq_load hE7 hS2 12 101 0 (v := .int .i64 p.kind) (fun w => by kernel_rfl) rfl rfl rfl rfl rfl rfl rfl fun a8 hE8 => ?_
  clear hE7 a7
  refine wpList_val hE8 13 rfl rfl fun K hK => ?_
  have e12 := hE8.get 12 rfl
  go_simp
  refine hK _ _ fun a9 hE9 => ?_
  clear hK K e12
  clear hE8 a8
  refine seq_pure hE9 14 (.bool false) (fun w => by kernel_rfl) rfl rfl rfl rfl rfl fun a10 hE10 => ?_
  clear hE9 a9
  refine wpList_gval hE10 15 3 false 14 rfl rfl rfl rfl fun K hK => ?_
  have e1 := hE10.get 1 rfl
  go_simp
  refine hK _ _ fun a11 hE11 => ?_
  clear hK K e1
  clear hE10 a10
  refine wpList_gval hE11 16 3 false 14 rfl rfl rfl rfl fun K hK => ?_
  have e15 := hE11.get 15 rfl
  have cc : u1.cell? ⟨g101, 0, none⟩ = some (.int .i64 p.kind) := (hS2.blk 101 rfl).cell 0
  have cz : g101 < u1.heap.size := (hS2.blk 101 rfl).lt
  go_simp
  refine hK _ _ fun a12 hE12 => ?_
  clear hK K e15
  clear hE11 a11
  clear cc cz
  refine wpList_gval hE12 17 3 false 14 rfl rfl rfl rfl fun K hK => ?_
  have e16 := hE12.get 16 rfl
  go_simp
  refine hK _ _ fun a13 hE13 => ?_
  clear hK K e16
  clear hE12 a12
  refine wpList_val hE13 18 rfl rfl fun K hK => ?_
  have e14 := hE13.get 14 rfl
  have e17 := hE13.get 17 rfl
  go_simp
  refine hK _ _ fun a14 hE14 => ?_
  clear hK K e14 e17
  clear hE13 a13
  refine wpList_nil ?_
  refine hK6 _ _ ?_
  clear hK6
  refine wp_if_t hE14 18 rfl ?_
  refine wp_seq_k fun K15 hK15 => ?_
  refine wp_region_lit ?_
  refine seq_pure hE14 2 (.slice none 0 0) (fun w => by kernel_rfl) rfl rfl rfl rfl rfl fun a16 hE16 => ?_
  clear hE14 a14
  refine seq_pure hE16 3 (.bool false) (fun w => by kernel_rfl) rfl rfl rfl rfl rfl fun a17 hE17 => ?_
  clear hE16 a16
  refine wpList_nil ?_
  refine hK15 _ _ ?_
  clear hK15
  refine wp_ret ?_
  try simp only [Exit.then]
  refine bodyPost_ret (v := .tuple #[.slice none 0 0, .bool false]) (by simp [results, Tryz.results24, go_sem, hE17.get 2 rfl, hE17.get 3 rfl]) hE17.defers ⟨rfl, hS2.below⟩

set_option maxHeartbeats 2000000 in
set_option maxRecDepth 100000 in
theorem formatOne_raw (p : Pkt) (w : World) (hk : p.kind = 0) (hd : p.data.Lies w w.heap.size 1 u8c) (hO : p.Ok3) (hn : p.data.l.length ≤ 2147483647) :
    Calls Tryz.prog 24 #[.agg p.cells] w fun e w' => ∃ b, e = .returned (.tuple #[.slice p.data.A (p.data.l.length : Nat) p.data.c, .bool b]) ∧ Below w.heap.size w w' := by
  have Hk := Lib.hid hk
  clear hk
  refine calls_of_wp Tryz.func24 rfl ?_
  rw [Tryz.ntmps24]
  have hE0 : Env 78 [(0, .agg p.cells)] ⟨#[.agg p.cells] ++ Array.replicate (78 - (#[.agg p.cells] : Array Value).size) undef, []⟩ := Env.enter _ (by simp) ⟨by simp, trivial⟩
  generalize (⟨#[.agg p.cells] ++ Array.replicate (78 - (#[.agg p.cells] : Array Value).size) undef, []⟩ : Act) = a0 at hE0 ⊢
  have hS0 : Stp (fun _ => False) w w (lookM []) := Stp.refl w
  refine wp_seq_k fun K1 hK1 => ?_
  refine wp_region_lit ?_
  refine seq_new hE0 hS0 1 101 (fun g => .pointer (some ⟨g, 0, none⟩)) 38 (p.cells) (fun w => by kernel_rfl) rfl rfl rfl rfl rfl fun a2 u1 g101 hE2 hS2 => ?_
  clear hE0 a0
  clear hS0
  refine seq_pure hE2 2 (.slice none 0 0) (fun w => by kernel_rfl) rfl rfl rfl rfl rfl fun a3 hE3 => ?_
  clear hE2 a2
  refine seq_pure hE3 3 (.bool false) (fun w => by kernel_rfl) rfl rfl rfl rfl rfl fun a4 hE4 => ?_
  clear hE3 a3
  refine wpList_nil ?_
  refine hK1 _ _ ?_
  clear hK1
  refine wp_seq_k fun K5 hK5 => ?_
  refine wp_seq_k fun K6 hK6 => ?_
  refine wp_region_lit ?_
  refine seq_pure hE4 11 (.pointer (some ⟨g101, 0, none⟩)) (fun w => by kernel_rfl) rfl rfl rfl rfl rfl fun a7 hE7 => ?_
  clear hE4 a4
  refine wpList_val hE7 12 rfl rfl fun K hK => ?_
  have e11 := hE7.get 11 rfl
  have cc : u1.cell? ⟨g101, 0, none⟩ = some (.int .i64 0) := ((hS2.blk 101 rfl).cell 0).trans (by rw [← Hk.out]; rfl)
  have cz : g101 < u1.heap.size := (hS2.blk 101 rfl).lt
  go_simp
  refine hK _ _ fun a8 hE8 => ?_
  clear hK K e11
  clear hE7 a7
  clear cc cz
  refine wpList_val hE8 13 rfl rfl fun K hK => ?_
  have e12 := hE8.get 12 rfl
  go_simp
  refine hK _ _ fun a9 hE9 => ?_
  clear hK K e12
  clear hE8 a8
  refine seq_pure hE9 14 (.bool false) (fun w => by kernel_rfl) rfl rfl rfl rfl rfl fun a10 hE10 => ?_
  clear hE9 a9
  refine wpList_gval hE10 15 3 false 14 rfl rfl rfl rfl fun K hK => ?_
  have e1 := hE10.get 1 rfl
  go_simp
  refine hK _ _ fun a11 hE11 => ?_
  clear hK K e1
  clear hE10 a10
  refine wpList_gval hE11 16 3 false 14 rfl rfl rfl rfl fun K hK => ?_
  have e15 := hE11.get 15 rfl
  have cc : u1.cell? ⟨g101, 0, none⟩ = some (.int .i64 0) := ((hS2.blk 101 rfl).cell 0).trans (by rw [← Hk.out]; rfl)
  have cz : g101 < u1.heap.size := (hS2.blk 101 rfl).lt
  go_simp
  refine hK _ _ fun a12 hE12 => ?_
  clear hK K e15
  clear hE11 a11
  clear cc cz
  refine wpList_gval hE12 17 3 false 14 rfl rfl rfl rfl fun K hK => ?_
  have e16 := hE12.get 16 rfl
  go_simp
  refine hK _ _ fun a13 hE13 => ?_
  clear hK K e16
  clear hE12 a12
  refine wpList_val hE13 18 rfl rfl fun K hK => ?_
  have e14 := hE13.get 14 rfl
  have e17 := hE13.get 17 rfl
  go_simp
  refine hK _ _ fun a14 hE14 => ?_
  clear hK K e14 e17
  clear hE13 a13
  refine wpList_nil ?_
  refine hK6 _ _ ?_
  clear hK6
  refine wp_if_f hE14 18 rfl ?_
  refine wp_skip ?_
  refine hK5 _ _ ?_
  clear hK5
  refine wp_seq_k fun K15 hK15 => ?_
  refine wp_seq_k fun K16 hK16 => ?_
  refine wp_region_lit ?_
  refine seq_pure hE14 19 (.pointer (some ⟨g101, 0, none⟩)) (fun w => by kernel_rfl) rfl rfl rfl rfl rfl fun a17 hE17 => ?_
  clear hE14 a14
  refine wpList_val hE17 20 rfl rfl fun K hK => ?_
  have e19 := hE17.get 19 rfl
  have cc : u1.cell? ⟨g101, 0, none⟩ = some (.int .i64 0) := ((hS2.blk 101 rfl).cell 0).trans (by rw [← Hk.out]; rfl)
  have cz : g101 < u1.heap.size := (hS2.blk 101 rfl).lt
  go_simp
  refine hK _ _ fun a18 hE18 => ?_
  clear hK K e19
  clear hE17 a17
  clear cc cz
  refine wpList_val hE18 21 rfl rfl fun K hK => ?_
  have e20 := hE18.get 20 rfl
  go_simp
  refine hK _ _ fun a19 hE19 => ?_
  clear hK K e20
  clear hE18 a18
  refine wpList_nil ?_
  refine hK16 _ _ ?_
  clear hK16
  refine wp_if_t hE19 21 rfl ?_
  refine wp_seq_k fun K20 hK20 => ?_
  refine wp_region_lit ?_
  refine seq_pure hE19 23 (.pointer (some ⟨g101, 13, none⟩)) (fun w => by kernel_rfl) rfl rfl rfl rfl rfl fun a21 hE21 => ?_
  clear hE19 a19
  refine seq_load hE21 hS2 24 101 13 (v := .slice p.data.A (p.data.l.length : Nat) p.data.c) (fun w => by kernel_rfl) rfl rfl rfl rfl rfl rfl rfl fun a22 hE22 => ?_
  clear hE21 a21
  refine wpList_val hE22 25 rfl rfl fun K hK => ?_
  have e24 := hE22.get 24 rfl
  go_simp
  refine (readHeader_some p.data u1 ((hd.below (hS2.old _ (Nat.le_refl _) (fun _ h => h.elim))).more hS2.size) hO.data hO.dcap).mono ?_
  rintro e w5 ⟨b, c, t, l, ok, rfl, ⟨hl0, hl1⟩, hB5⟩
  refine hK _ _ fun a23 hE23 => ?_
  clear hK K e24
  clear hE22 a22
  have hS24 := hS2.still hB5
  clear hB5 hS2
  refine seq_pure hE23 22 (.tuple #[.agg #[.bool b, .int .u8 c, .int .u8 t, .int .u16 l], .bool ok]) (fun w => by kernel_rfl) rfl rfl rfl rfl rfl fun a25 hE25 => ?_
  clear hE23 a23
  refine wpList_val hE25 26 rfl rfl fun K hK => ?_
  have e22 := hE25.get 22 rfl
  go_simp
  refine hK _ _ fun a26 hE26 => ?_
  clear hK K e22
  clear hE25 a25
  refine wpList_val hE26 27 rfl rfl fun K hK => ?_
  have e22 := hE26.get 22 rfl
  go_simp
  refine hK _ _ fun a27 hE27 => ?_
  clear hK K e22
  clear hE26 a26
  refine seq_new hE27 hS24 4 7 (fun g => .pointer (some ⟨g, 0, none⟩)) 36 #[.bool false, .int .u8 0, .int .u8 0, .int .u16 0] (fun w => by kernel_rfl) rfl rfl rfl rfl rfl fun a28 u2 g7 hE28 hS28 => ?_
  clear hE27 a27
  clear hS24
  clear w5
  refine seq_storeN hE28 hS28 7 (new := #[.bool b, .int .u8 c, .int .u8 t, .int .u16 l]) (by simp [Value.oneCell']) rfl rfl rfl rfl rfl (by kernel_rfl) rfl rfl rfl fun u3 hS29 => ?_
  clear hS28
  clear u2
  refine seq_pure hE28 5 (.bool ok) (fun w => by kernel_rfl) rfl rfl rfl rfl rfl fun a30 hE30 => ?_
  clear hE28 a28
  refine wpList_nil ?_
  refine hK20 _ _ ?_
  clear hK20
  refine wp_seq_k fun K31 hK31 => ?_
  cases ok with
  | false =>
    refine wp_sep (l0 := [(0, .agg p.cells), (1, .pointer (some ⟨g101, 0, none⟩)), (2, .slice none 0 0), (3, .bool false), (11, .pointer (some ⟨g101, 0, none⟩)), (12, .int .i64 0), (13, .bool false), (14, .bool false), (15, .pointer (some ⟨g101, 0, none⟩)), (16, .int .i64 0), (17, .bool false), (18, .bool false), (19, .pointer (some ⟨g101, 0, none⟩)), (20, .int .i64 0), (21, .bool true), (23, .pointer (some ⟨g101, 13, none⟩)), (24, .slice p.data.A (p.data.l.length : Nat) p.data.c), (25, .tuple #[.agg #[.bool b, .int .u8 c, .int .u8 t, .int .u16 l], .bool false]), (22, .tuple #[.agg #[.bool b, .int .u8 c, .int .u8 t, .int .u16 l], .bool false]), (26, .agg #[.bool b, .int .u8 c, .int .u8 t, .int .u16 l]), (27, .bool false), (4, .pointer (some ⟨g7, 0, none⟩)), (5, .bool false)]) (L0 := [(101, some (ckB (g101) 38 (p.cells))), (7, some (ckB (g7) 36 #[.bool b, .int .u8 c, .int .u8 t, .int .u16 l]))]) (hE30.keep (l' := [(0, .agg p.cells), (1, .pointer (some ⟨g101, 0, none⟩)), (2, .slice none 0 0), (3, .bool false), (11, .pointer (some ⟨g101, 0, none⟩)), (12, .int .i64 0), (13, .bool false), (14, .bool false), (15, .pointer (some ⟨g101, 0, none⟩)), (16, .int .i64 0), (17, .bool false), (18, .bool false), (19, .pointer (some ⟨g101, 0, none⟩)), (20, .int .i64 0), (21, .bool true), (23, .pointer (some ⟨g101, 13, none⟩)), (24, .slice p.data.A (p.data.l.length : Nat) p.data.c), (25, .tuple #[.agg #[.bool b, .int .u8 c, .int .u8 t, .int .u16 l], .bool false]), (22, .tuple #[.agg #[.bool b, .int .u8 c, .int .u8 t, .int .u16 l], .bool false]), (26, .agg #[.bool b, .int .u8 c, .int .u8 t, .int .u16 l]), (27, .bool false), (4, .pointer (some ⟨g7, 0, none⟩)), (5, .bool false)]) ⟨hE30.get 0 rfl, hE30.get 1 rfl, hE30.get 2 rfl, hE30.get 3 rfl, hE30.get 11 rfl, hE30.get 12 rfl, hE30.get 13 rfl, hE30.get 14 rfl, hE30.get 15 rfl, hE30.get 16 rfl, hE30.get 17 rfl, hE30.get 18 rfl, hE30.get 19 rfl, hE30.get 20 rfl, hE30.get 21 rfl, hE30.get 23 rfl, hE30.get 24 rfl, hE30.get 25 rfl, hE30.get 22 rfl, hE30.get 26 rfl, hE30.get 27 rfl, hE30.get 4 rfl, hE30.get 5 rfl, trivial⟩) (hS29.keep (L' := [(101, some (ckB (g101) 38 (p.cells))), (7, some (ckB (g7) 36 #[.bool b, .int .u8 c, .int .u8 t, .int .u16 l]))]) ⟨rfl, rfl, trivial⟩)
      [fun _ => .pointer (some ⟨g101, 13, none⟩),
        fun _ => .slice p.data.A (p.data.l.length : Nat) p.data.c,
        fun _ => .bool false,
        fun _ => .bool false,
        fun _ => undef,
        fun _ => undef,
        fun _ => undef,
        fun _ => .bool false,
        fun _ => .bool false,
        fun _ => undef,
        fun _ => undef,
        fun _ => undef,
        fun _ => .bool false,
        fun _ => .bool false,
        fun _ => undef,
        fun _ => undef,
        fun _ => undef,
        fun _ => undef,
        fun _ => undef,
        fun _ => undef,
        fun _ => undef,
        fun _ => undef,
        fun _ => undef,
        fun _ => .bool (false),
        fun _ => .slice p.data.A (p.data.l.length : Nat) p.data.c,
        fun _ => .bool (false)]
      [[], [], [], [], [], [], [], [], [], [], [], [], [], [], [], [], [], [], [], [], [], [], [], [], [], []]
      [[], [101], [], [], [], [], [], [], [], [], [], [], [], [], [], [], [], [], [], [], [], [], [], [], [], []]
      (by kernel_rfl) (by kernel_rfl) (by kernel_rfl) rfl ?_ ?_ ?_
    · exact ⟨fun _ _ _ => ⟨rfl, rfl⟩,
        fun _ _ _ => ⟨rfl, rfl⟩,
        fun _ _ _ => ⟨rfl, rfl⟩,
        fun _ _ _ => ⟨rfl, rfl⟩,
        fun _ _ _ => ⟨rfl, rfl⟩,
        fun _ _ _ => ⟨rfl, rfl⟩,
        fun _ _ _ => ⟨rfl, rfl⟩,
        fun _ _ _ => ⟨rfl, rfl⟩,
        fun _ _ _ => ⟨rfl, rfl⟩,
        fun _ _ _ => ⟨rfl, rfl⟩,
        fun _ _ _ => ⟨rfl, rfl⟩,
        fun _ _ _ => ⟨rfl, rfl⟩,
        fun _ _ _ => ⟨rfl, rfl⟩,
        fun _ _ _ => ⟨rfl, rfl⟩,
        fun _ _ _ => ⟨rfl, rfl⟩,
        fun _ _ _ => ⟨rfl, rfl⟩,
        fun _ _ _ => ⟨rfl, rfl⟩,
        fun _ _ _ => ⟨rfl, rfl⟩,
        fun _ _ _ => ⟨rfl, rfl⟩,
        fun _ _ _ => ⟨rfl, rfl⟩,
        fun _ _ _ => ⟨rfl, rfl⟩,
        fun _ _ _ => ⟨rfl, rfl⟩,
        fun _ _ _ => ⟨rfl, rfl⟩,
        fun _ _ _ => ⟨rfl, rfl⟩,
        fun _ _ _ => ⟨rfl, rfl⟩,
        fun _ _ _ => ⟨rfl, rfl⟩, trivial⟩
    · refine ⟨?_, ?_, ?_, ?_, ?_, ?_, ?_, ?_, ?_, ?_, ?_, ?_, ?_, ?_, ?_, ?_, ?_, ?_, ?_, ?_, ?_, ?_, ?_, ?_, ?_, ?_, trivial⟩
      · exact sd_pure (.inl rfl) (fun _ _ => by kernel_rfl) rfl (fun _ => rfl) rfl
      · exact sd_load 101 13 (.inl rfl) (fun _ => by kernel_rfl) rfl (fun _ => rfl) (fun _ => rfl) (fun _ => rfl) rfl
      · exact sd_pure (.inl rfl) (fun _ _ => by kernel_rfl) rfl (fun _ => rfl) rfl
      · exact sd_pure (.inl rfl) (fun _ _ => by kernel_rfl) rfl (fun _ => rfl) rfl
      · exact sduty_skip 3 true 31 rfl rfl rfl (fun _ => rfl) rfl rfl
      · exact sduty_skip 3 true 31 rfl rfl rfl (fun _ => rfl) rfl rfl
      · exact sduty_skip 3 true 31 rfl rfl rfl (fun _ => rfl) rfl rfl
      · refine sduty_runs (.inl rfl) fun yy a w4 hv K hK => ?_
        have e31 : a.tmps[31]? = some (.bool false) := hv.get 31 rfl rfl
        have e34 : a.tmps[34]? = some (undef) := hv.get 34 rfl rfl
        go_simp
        exact hK pay0 _ (stp_none _)
      · exact sd_pure (.inl rfl) (fun _ _ => by kernel_rfl) rfl (fun _ => rfl) rfl
      · exact sduty_skip 8 true 36 rfl rfl rfl (fun _ => rfl) rfl rfl
      · exact sduty_skip 8 true 36 rfl rfl rfl (fun _ => rfl) rfl rfl
      · exact sduty_skip 8 true 36 rfl rfl rfl (fun _ => rfl) rfl rfl
      · refine sduty_runs (.inl rfl) fun yy a w4 hv K hK => ?_
        have e36 : a.tmps[36]? = some (.bool false) := hv.get 36 rfl rfl
        have e39 : a.tmps[39]? = some (undef) := hv.get 39 rfl rfl
        go_simp
        exact hK pay0 _ (stp_none _)
      · exact sd_pure (.inl rfl) (fun _ _ => by kernel_rfl) rfl (fun _ => rfl) rfl
      · exact sduty_skip 13 true 41 rfl rfl rfl (fun _ => rfl) rfl rfl
      · exact sduty_skip 13 true 41 rfl rfl rfl (fun _ => rfl) rfl rfl
      · exact sduty_skip 13 true 41 rfl rfl rfl (fun _ => rfl) rfl rfl
      · exact sduty_skip 13 true 41 rfl rfl rfl (fun _ => rfl) rfl rfl
      · exact sduty_skip 13 true 41 rfl rfl rfl (fun _ => rfl) rfl rfl
      · exact sduty_skip 13 true 41 rfl rfl rfl (fun _ => rfl) rfl rfl
      · exact sduty_skip 13 true 41 rfl rfl rfl (fun _ => rfl) rfl rfl
      · exact sduty_skip 13 true 41 rfl rfl rfl (fun _ => rfl) rfl rfl
      · exact sduty_skip 13 true 41 rfl rfl rfl (fun _ => rfl) rfl rfl
      · refine sduty_runs (.inl rfl) fun yy a w4 hv K hK => ?_
        have e41 : a.tmps[41]? = some (.bool false) := hv.get 41 rfl rfl
        have e50 : a.tmps[50]? = some (undef) := hv.get 50 rfl rfl
        go_simp
        exact hK pay0 _ (stp_none _)
      · exact sd_pure (.inl rfl) (fun _ _ => by kernel_rfl) rfl (fun _ => rfl) rfl
      · exact sd_pure (.inl rfl) (fun _ _ => by kernel_rfl) rfl (fun _ => rfl) rfl
    · intro yy a32 w32_ hE32 hS32
      have hE33 := hE32.keep (l' := [(2, .slice p.data.A (p.data.l.length : Nat) p.data.c), (3, .bool (false))]) ⟨hE32.get 2 rfl, hE32.get 3 rfl, trivial⟩
      have hS33 := hS32.keep (L' := [(101, some (ckB (g101) 38 (p.cells))), (7, some (ckB (g7) 36 #[.bool b, .int .u8 c, .int .u8 t, .int .u16 l]))]) ⟨rfl, rfl, trivial⟩
      clear hE32 hS32
      clear yy
      refine hK31 _ _ ?_
      refine wp_ret ?_
      try simp only [Exit.then]
      refine bodyPost_ret (v := .tuple #[.slice p.data.A (p.data.l.length : Nat) p.data.c, .bool (false)]) (by simp [results, Tryz.results24, go_sem, hE33.get 2 rfl, hE33.get 3 rfl]) hE33.defers ⟨_, rfl, hS33.below⟩
  | true =>
    by_cases hkc : (kindOf c t == 0) = true
    case pos =>
      have Hkk := Lib.hid hkc
      clear hkc
      by_cases htc : (t != 207) = true
      case pos =>
        have Htt := Lib.hid htc
        clear htc
        refine wp_sep (l0 := [(0, .agg p.cells), (1, .pointer (some ⟨g101, 0, none⟩)), (2, .slice none 0 0), (3, .bool false), (11, .pointer (some ⟨g101, 0, none⟩)), (12, .int .i64 0), (13, .bool false), (14, .bool false), (15, .pointer (some ⟨g101, 0, none⟩)), (16, .int .i64 0), (17, .bool false), (18, .bool false), (19, .pointer (some ⟨g101, 0, none⟩)), (20, .int .i64 0), (21, .bool true), (23, .pointer (some ⟨g101, 13, none⟩)), (24, .slice p.data.A (p.data.l.length : Nat) p.data.c), (25, .tuple #[.agg #[.bool b, .int .u8 c, .int .u8 t, .int .u16 l], .bool true]), (22, .tuple #[.agg #[.bool b, .int .u8 c, .int .u8 t, .int .u16 l], .bool true]), (26, .agg #[.bool b, .int .u8 c, .int .u8 t, .int .u16 l]), (27, .bool true), (4, .pointer (some ⟨g7, 0, none⟩)), (5, .bool true)]) (L0 := [(101, some (ckB (g101) 38 (p.cells))), (7, some (ckB (g7) 36 #[.bool b, .int .u8 c, .int .u8 t, .int .u16 l]))]) (hE30.keep (l' := [(0, .agg p.cells), (1, .pointer (some ⟨g101, 0, none⟩)), (2, .slice none 0 0), (3, .bool false), (11, .pointer (some ⟨g101, 0, none⟩)), (12, .int .i64 0), (13, .bool false), (14, .bool false), (15, .pointer (some ⟨g101, 0, none⟩)), (16, .int .i64 0), (17, .bool false), (18, .bool false), (19, .pointer (some ⟨g101, 0, none⟩)), (20, .int .i64 0), (21, .bool true), (23, .pointer (some ⟨g101, 13, none⟩)), (24, .slice p.data.A (p.data.l.length : Nat) p.data.c), (25, .tuple #[.agg #[.bool b, .int .u8 c, .int .u8 t, .int .u16 l], .bool true]), (22, .tuple #[.agg #[.bool b, .int .u8 c, .int .u8 t, .int .u16 l], .bool true]), (26, .agg #[.bool b, .int .u8 c, .int .u8 t, .int .u16 l]), (27, .bool true), (4, .pointer (some ⟨g7, 0, none⟩)), (5, .bool true)]) ⟨hE30.get 0 rfl, hE30.get 1 rfl, hE30.get 2 rfl, hE30.get 3 rfl, hE30.get 11 rfl, hE30.get 12 rfl, hE30.get 13 rfl, hE30.get 14 rfl, hE30.get 15 rfl, hE30.get 16 rfl, hE30.get 17 rfl, hE30.get 18 rfl, hE30.get 19 rfl, hE30.get 20 rfl, hE30.get 21 rfl, hE30.get 23 rfl, hE30.get 24 rfl, hE30.get 25 rfl, hE30.get 22 rfl, hE30.get 26 rfl, hE30.get 27 rfl, hE30.get 4 rfl, hE30.get 5 rfl, trivial⟩) (hS29.keep (L' := [(101, some (ckB (g101) 38 (p.cells))), (7, some (ckB (g7) 36 #[.bool b, .int .u8 c, .int .u8 t, .int .u16 l]))]) ⟨rfl, rfl, trivial⟩)
          [fun _ => .pointer (some ⟨g101, 13, none⟩),
            fun _ => .slice p.data.A (p.data.l.length : Nat) p.data.c,
            fun _ => .bool true,
            fun _ => .bool true,
            fun _ => .agg #[.bool b, .int .u8 c, .int .u8 t, .int .u16 l],
            fun _ => .int .i64 (kindOf c t),
            fun _ => .bool true,
            fun _ => .bool true,
            fun _ => .bool true,
            fun _ => .pointer (some ⟨g7, 2, none⟩),
            fun _ => .int .u8 t,
            fun _ => .bool true,
            fun _ => .bool true,
            fun _ => .bool true,
            fun _ => .pointer (some ⟨g7, 3, none⟩),
            fun _ => .int .u16 l,
            fun _ => .int .i64 l,
            fun _ => .int .i64 (l + 1),
            fun _ => .int .i64 (4 * (l + 1)),
            fun _ => .pointer (some ⟨g101, 13, none⟩),
            fun _ => .slice p.data.A (p.data.l.length : Nat) p.data.c,
            fun _ => .int .i64 (p.data.l.length : Nat),
            fun _ => .bool (4 * (l + 1) == ((p.data.l.length : Nat) : Int)),
            fun _ => .bool (4 * (l + 1) == ((p.data.l.length : Nat) : Int)),
            fun _ => .slice p.data.A (p.data.l.length : Nat) p.data.c,
            fun _ => .bool (4 * (l + 1) == ((p.data.l.length : Nat) : Int))]
          [[], [], [], [], [], [], [], [], [], [], [], [], [], [], [], [], [], [], [], [], [], [], [], [], [], []]
          [[], [101], [], [], [7], [], [], [], [], [], [7], [], [], [], [], [7], [], [], [], [], [101], [], [], [], [], []]
          (by kernel_rfl) (by kernel_rfl) (by kernel_rfl) rfl ?_ ?_ ?_
        · exact ⟨fun _ _ _ => ⟨rfl, rfl⟩,
            fun _ _ _ => ⟨rfl, rfl⟩,
            fun _ _ _ => ⟨rfl, rfl⟩,
            fun _ _ _ => ⟨rfl, rfl⟩,
            fun _ _ _ => ⟨rfl, rfl⟩,
            fun _ _ _ => ⟨rfl, rfl⟩,
            fun _ _ _ => ⟨rfl, rfl⟩,
            fun _ _ _ => ⟨rfl, rfl⟩,
            fun _ _ _ => ⟨rfl, rfl⟩,
            fun _ _ _ => ⟨rfl, rfl⟩,
            fun _ _ _ => ⟨rfl, rfl⟩,
            fun _ _ _ => ⟨rfl, rfl⟩,
            fun _ _ _ => ⟨rfl, rfl⟩,
            fun _ _ _ => ⟨rfl, rfl⟩,
            fun _ _ _ => ⟨rfl, rfl⟩,
            fun _ _ _ => ⟨rfl, rfl⟩,
            fun _ _ _ => ⟨rfl, rfl⟩,
            fun _ _ _ => ⟨rfl, rfl⟩,
            fun _ _ _ => ⟨rfl, rfl⟩,
            fun _ _ _ => ⟨rfl, rfl⟩,
            fun _ _ _ => ⟨rfl, rfl⟩,
            fun _ _ _ => ⟨rfl, rfl⟩,
            fun _ _ _ => ⟨rfl, rfl⟩,
            fun _ _ _ => ⟨rfl, rfl⟩,
            fun _ _ _ => ⟨rfl, rfl⟩,
            fun _ _ _ => ⟨rfl, rfl⟩, trivial⟩
        · refine ⟨?_, ?_, ?_, ?_, ?_, ?_, ?_, ?_, ?_, ?_, ?_, ?_, ?_, ?_, ?_, ?_, ?_, ?_, ?_, ?_, ?_, ?_, ?_, ?_, ?_, ?_, trivial⟩
          · exact sd_pure (.inl rfl) (fun _ _ => by kernel_rfl) rfl (fun _ => rfl) rfl
          · exact sd_load 101 13 (.inl rfl) (fun _ => by kernel_rfl) rfl (fun _ => rfl) (fun _ => rfl) (fun _ => rfl) rfl
          · exact sd_pure (.inl rfl) (fun _ _ => by kernel_rfl) rfl (fun _ => rfl) rfl
          · exact sd_pure (.inl rfl) (fun _ _ => by kernel_rfl) rfl (fun _ => rfl) rfl
          · exact sd_loadN 7 (runs_g 3 true 31 rfl rfl rfl (fun _ => rfl)) Tryz.underlying36 (fun _ => by kernel_rfl) rfl (fun _ => rfl) (fun _ => rfl) (fun _ => rfl) rfl rfl
          · refine sduty_runs (runs_g 3 true 31 rfl rfl rfl (fun _ => rfl)) fun yy a w4 hv K hK => ?_
            have e32 : a.tmps[32]? = some (.agg #[.bool b, .int .u8 c, .int .u8 t, .int .u16 l]) := hv.get 32 rfl rfl
            go_simp
            refine (kindOf_any b c t l w4).mono ?_
            rintro e w5 ⟨rfl, hB⟩
            exact hK pay0 _ (stp_of_below hB)
          · refine sduty_runs (runs_g 3 true 31 rfl rfl rfl (fun _ => rfl)) fun yy a w4 hv K hK => ?_
            have e33 : a.tmps[33]? = some (.int .i64 (kindOf c t)) := hv.get 33 rfl rfl
            have hkk := Hkk.out
            go_simp
            try rw [hkk]
            exact hK pay0 _ (stp_none _)
          · refine sduty_runs (.inl rfl) fun yy a w4 hv K hK => ?_
            have e31 : a.tmps[31]? = some (.bool true) := hv.get 31 rfl rfl
            have e34 : a.tmps[34]? = some (.bool true) := hv.get 34 rfl rfl
            go_simp
            exact hK pay0 _ (stp_none _)
          · exact sd_pure (.inl rfl) (fun _ _ => by kernel_rfl) rfl (fun _ => rfl) rfl
          · exact sd_pure (runs_g 8 true 36 rfl rfl rfl (fun _ => rfl)) (fun _ _ => by kernel_rfl) rfl (fun _ => rfl) rfl
          · exact sd_load 7 2 (runs_g 8 true 36 rfl rfl rfl (fun _ => rfl)) (fun _ => by kernel_rfl) rfl (fun _ => rfl) (fun _ => rfl) (fun _ => rfl) rfl
          · refine sduty_runs (runs_g 8 true 36 rfl rfl rfl (fun _ => rfl)) fun yy a w4 hv K hK => ?_
            have e38 : a.tmps[38]? = some (.int .u8 t) := hv.get 38 rfl rfl
            have htt := Htt.out
            go_simp
            try rw [htt]
            exact hK pay0 _ (stp_none _)
          · refine sduty_runs (.inl rfl) fun yy a w4 hv K hK => ?_
            have e36 : a.tmps[36]? = some (.bool true) := hv.get 36 rfl rfl
            have e39 : a.tmps[39]? = some (.bool true) := hv.get 39 rfl rfl
            go_simp
            exact hK pay0 _ (stp_none _)
          · exact sd_pure (.inl rfl) (fun _ _ => by kernel_rfl) rfl (fun _ => rfl) rfl
          · exact sd_pure (runs_g 13 true 41 rfl rfl rfl (fun _ => rfl)) (fun _ _ => by kernel_rfl) rfl (fun _ => rfl) rfl
          · exact sd_load 7 3 (runs_g 13 true 41 rfl rfl rfl (fun _ => rfl)) (fun _ => by kernel_rfl) rfl (fun _ => rfl) (fun _ => rfl) (fun _ => rfl) rfl
          · refine sduty_runs (runs_g 13 true 41 rfl rfl rfl (fun _ => rfl)) fun yy a w4 hv K hK => ?_
            have e43 : a.tmps[43]? = some (.int .u16 l) := hv.get 43 rfl rfl
            go_simp
            rw [IntWalk.i64_in _ (by omega)]
            exact hK pay0 _ (stp_none _)
          · refine sduty_runs (runs_g 13 true 41 rfl rfl rfl (fun _ => rfl)) fun yy a w4 hv K hK => ?_
            have e44 : a.tmps[44]? = some (.int .i64 l) := hv.get 44 rfl rfl
            go_simp
            rw [IntWalk.i64_in _ (by omega)]
            exact hK pay0 _ (stp_none _)
          · refine sduty_runs (runs_g 13 true 41 rfl rfl rfl (fun _ => rfl)) fun yy a w4 hv K hK => ?_
            have e45 : a.tmps[45]? = some (.int .i64 (l + 1)) := hv.get 45 rfl rfl
            go_simp
            rw [IntWalk.i64_in _ (by omega)]
            exact hK pay0 _ (stp_none _)
          · exact sd_pure (runs_g 13 true 41 rfl rfl rfl (fun _ => rfl)) (fun _ _ => by kernel_rfl) rfl (fun _ => rfl) rfl
          · exact sd_load 101 13 (runs_g 13 true 41 rfl rfl rfl (fun _ => rfl)) (fun _ => by kernel_rfl) rfl (fun _ => rfl) (fun _ => rfl) (fun _ => rfl) rfl
          · refine sduty_runs (runs_g 13 true 41 rfl rfl rfl (fun _ => rfl)) fun yy a w4 hv K hK => ?_
            have e48 : a.tmps[48]? = some (.slice p.data.A (p.data.l.length : Nat) p.data.c) := hv.get 48 rfl rfl
            go_simp
            exact hK pay0 _ (stp_none _)
          · refine sduty_runs (runs_g 13 true 41 rfl rfl rfl (fun _ => rfl)) fun yy a w4 hv K hK => ?_
            have e46 : a.tmps[46]? = some (.int .i64 (4 * (l + 1))) := hv.get 46 rfl rfl
            have e49 : a.tmps[49]? = some (.int .i64 (p.data.l.length : Nat)) := hv.get 49 rfl rfl
            go_simp
            exact hK pay0 _ (stp_none _)
          · refine sduty_runs (.inl rfl) fun yy a w4 hv K hK => ?_
            have e41 : a.tmps[41]? = some (.bool true) := hv.get 41 rfl rfl
            have e50 : a.tmps[50]? = some (.bool (4 * (l + 1) == ((p.data.l.length : Nat) : Int))) := hv.get 50 rfl rfl
            go_simp
            exact hK pay0 _ (stp_none _)
          · exact sd_pure (.inl rfl) (fun _ _ => by kernel_rfl) rfl (fun _ => rfl) rfl
          · exact sd_pure (.inl rfl) (fun _ _ => by kernel_rfl) rfl (fun _ => rfl) rfl
        · intro yy a34 w34_ hE34 hS34
          have hE35 := hE34.keep (l' := [(2, .slice p.data.A (p.data.l.length : Nat) p.data.c), (3, .bool (4 * (l + 1) == ((p.data.l.length : Nat) : Int)))]) ⟨hE34.get 2 rfl, hE34.get 3 rfl, trivial⟩
          have hS35 := hS34.keep (L' := [(101, some (ckB (g101) 38 (p.cells))), (7, some (ckB (g7) 36 #[.bool b, .int .u8 c, .int .u8 t, .int .u16 l]))]) ⟨rfl, rfl, trivial⟩
          clear hE34 hS34
          clear yy
          refine hK31 _ _ ?_
          refine wp_ret ?_
          try simp only [Exit.then]
          refine bodyPost_ret (v := .tuple #[.slice p.data.A (p.data.l.length : Nat) p.data.c, .bool (4 * (l + 1) == ((p.data.l.length : Nat) : Int))]) (by simp [results, Tryz.results24, go_sem, hE35.get 2 rfl, hE35.get 3 rfl]) hE35.defers ⟨_, rfl, hS35.below⟩
      case neg =>
        have Htt := Lib.hid (Bool.eq_false_iff.2 htc)
        clear htc
        refine wp_sep (l0 := [(0, .agg p.cells), (1, .pointer (some ⟨g101, 0, none⟩)), (2, .slice none 0 0), (3, .bool false), (11, .pointer (some ⟨g101, 0, none⟩)), (12, .int .i64 0), (13, .bool false), (14, .bool false), (15, .pointer (some ⟨g101, 0, none⟩)), (16, .int .i64 0), (17, .bool false), (18, .bool false), (19, .pointer (some ⟨g101, 0, none⟩)), (20, .int .i64 0), (21, .bool true), (23, .pointer (some ⟨g101, 13, none⟩)), (24, .slice p.data.A (p.data.l.length : Nat) p.data.c), (25, .tuple #[.agg #[.bool b, .int .u8 c, .int .u8 t, .int .u16 l], .bool true]), (22, .tuple #[.agg #[.bool b, .int .u8 c, .int .u8 t, .int .u16 l], .bool true]), (26, .agg #[.bool b, .int .u8 c, .int .u8 t, .int .u16 l]), (27, .bool true), (4, .pointer (some ⟨g7, 0, none⟩)), (5, .bool true)]) (L0 := [(101, some (ckB (g101) 38 (p.cells))), (7, some (ckB (g7) 36 #[.bool b, .int .u8 c, .int .u8 t, .int .u16 l]))]) (hE30.keep (l' := [(0, .agg p.cells), (1, .pointer (some ⟨g101, 0, none⟩)), (2, .slice none 0 0), (3, .bool false), (11, .pointer (some ⟨g101, 0, none⟩)), (12, .int .i64 0), (13, .bool false), (14, .bool false), (15, .pointer (some ⟨g101, 0, none⟩)), (16, .int .i64 0), (17, .bool false), (18, .bool false), (19, .pointer (some ⟨g101, 0, none⟩)), (20, .int .i64 0), (21, .bool true), (23, .pointer (some ⟨g101, 13, none⟩)), (24, .slice p.data.A (p.data.l.length : Nat) p.data.c), (25, .tuple #[.agg #[.bool b, .int .u8 c, .int .u8 t, .int .u16 l], .bool true]), (22, .tuple #[.agg #[.bool b, .int .u8 c, .int .u8 t, .int .u16 l], .bool true]), (26, .agg #[.bool b, .int .u8 c, .int .u8 t, .int .u16 l]), (27, .bool true), (4, .pointer (some ⟨g7, 0, none⟩)), (5, .bool true)]) ⟨hE30.get 0 rfl, hE30.get 1 rfl, hE30.get 2 rfl, hE30.get 3 rfl, hE30.get 11 rfl, hE30.get 12 rfl, hE30.get 13 rfl, hE30.get 14 rfl, hE30.get 15 rfl, hE30.get 16 rfl, hE30.get 17 rfl, hE30.get 18 rfl, hE30.get 19 rfl, hE30.get 20 rfl, hE30.get 21 rfl, hE30.get 23 rfl, hE30.get 24 rfl, hE30.get 25 rfl, hE30.get 22 rfl, hE30.get 26 rfl, hE30.get 27 rfl, hE30.get 4 rfl, hE30.get 5 rfl, trivial⟩) (hS29.keep (L' := [(101, some (ckB (g101) 38 (p.cells))), (7, some (ckB (g7) 36 #[.bool b, .int .u8 c, .int .u8 t, .int .u16 l]))]) ⟨rfl, rfl, trivial⟩)
          [fun _ => .pointer (some ⟨g101, 13, none⟩),
            fun _ => .slice p.data.A (p.data.l.length : Nat) p.data.c,
            fun _ => .bool true,
            fun _ => .bool true,
            fun _ => .agg #[.bool b, .int .u8 c, .int .u8 t, .int .u16 l],
            fun _ => .int .i64 (kindOf c t),
            fun _ => .bool true,
            fun _ => .bool true,
            fun _ => .bool true,
            fun _ => .pointer (some ⟨g7, 2, none⟩),
            fun _ => .int .u8 t,
            fun _ => .bool false,
            fun _ => .bool false,
            fun _ => .bool false,
            fun _ => undef,
            fun _ => undef,
            fun _ => undef,
            fun _ => undef,
            fun _ => undef,
            fun _ => undef,
            fun _ => undef,
            fun _ => undef,
            fun _ => undef,
            fun _ => .bool (false),
            fun _ => .slice p.data.A (p.data.l.length : Nat) p.data.c,
            fun _ => .bool (false)]
          [[], [], [], [], [], [], [], [], [], [], [], [], [], [], [], [], [], [], [], [], [], [], [], [], [], []]
          [[], [101], [], [], [7], [], [], [], [], [], [7], [], [], [], [], [], [], [], [], [], [], [], [], [], [], []]
          (by kernel_rfl) (by kernel_rfl) (by kernel_rfl) rfl ?_ ?_ ?_
        · exact ⟨fun _ _ _ => ⟨rfl, rfl⟩,
            fun _ _ _ => ⟨rfl, rfl⟩,
            fun _ _ _ => ⟨rfl, rfl⟩,
            fun _ _ _ => ⟨rfl, rfl⟩,
            fun _ _ _ => ⟨rfl, rfl⟩,
            fun _ _ _ => ⟨rfl, rfl⟩,
            fun _ _ _ => ⟨rfl, rfl⟩,
            fun _ _ _ => ⟨rfl, rfl⟩,
            fun _ _ _ => ⟨rfl, rfl⟩,
            fun _ _ _ => ⟨rfl, rfl⟩,
            fun _ _ _ => ⟨rfl, rfl⟩,
            fun _ _ _ => ⟨rfl, rfl⟩,
            fun _ _ _ => ⟨rfl, rfl⟩,
            fun _ _ _ => ⟨rfl, rfl⟩,
            fun _ _ _ => ⟨rfl, rfl⟩,
            fun _ _ _ => ⟨rfl, rfl⟩,
            fun _ _ _ => ⟨rfl, rfl⟩,
            fun _ _ _ => ⟨rfl, rfl⟩,
            fun _ _ _ => ⟨rfl, rfl⟩,
            fun _ _ _ => ⟨rfl, rfl⟩,
            fun _ _ _ => ⟨rfl, rfl⟩,
            fun _ _ _ => ⟨rfl, rfl⟩,
            fun _ _ _ => ⟨rfl, rfl⟩,
            fun _ _ _ => ⟨rfl, rfl⟩,
            fun _ _ _ => ⟨rfl, rfl⟩,
            fun _ _ _ => ⟨rfl, rfl⟩, trivial⟩
        · refine ⟨?_, ?_, ?_, ?_, ?_, ?_, ?_, ?_, ?_, ?_, ?_, ?_, ?_, ?_, ?_, ?_, ?_, ?_, ?_, ?_, ?_, ?_, ?_, ?_, ?_, ?_, trivial⟩
          · exact sd_pure (.inl rfl) (fun _ _ => by kernel_rfl) rfl (fun _ => rfl) rfl
          · exact sd_load 101 13 (.inl rfl) (fun _ => by kernel_rfl) rfl (fun _ => rfl) (fun _ => rfl) (fun _ => rfl) rfl
          · exact sd_pure (.inl rfl) (fun _ _ => by kernel_rfl) rfl (fun _ => rfl) rfl
          · exact sd_pure (.inl rfl) (fun _ _ => by kernel_rfl) rfl (fun _ => rfl) rfl
          · exact sd_loadN 7 (runs_g 3 true 31 rfl rfl rfl (fun _ => rfl)) Tryz.underlying36 (fun _ => by kernel_rfl) rfl (fun _ => rfl) (fun _ => rfl) (fun _ => rfl) rfl rfl
          · refine sduty_runs (runs_g 3 true 31 rfl rfl rfl (fun _ => rfl)) fun yy a w4 hv K hK => ?_
            have e32 : a.tmps[32]? = some (.agg #[.bool b, .int .u8 c, .int .u8 t, .int .u16 l]) := hv.get 32 rfl rfl
            go_simp
            refine (kindOf_any b c t l w4).mono ?_
            rintro e w5 ⟨rfl, hB⟩
            exact hK pay0 _ (stp_of_below hB)
          · refine sduty_runs (runs_g 3 true 31 rfl rfl rfl (fun _ => rfl)) fun yy a w4 hv K hK => ?_
            have e33 : a.tmps[33]? = some (.int .i64 (kindOf c t)) := hv.get 33 rfl rfl
            have hkk := Hkk.out
            go_simp
            try rw [hkk]
            exact hK pay0 _ (stp_none _)
          · refine sduty_runs (.inl rfl) fun yy a w4 hv K hK => ?_
            have e31 : a.tmps[31]? = some (.bool true) := hv.get 31 rfl rfl
            have e34 : a.tmps[34]? = some (.bool true) := hv.get 34 rfl rfl
            go_simp
            exact hK pay0 _ (stp_none _)
          · exact sd_pure (.inl rfl) (fun _ _ => by kernel_rfl) rfl (fun _ => rfl) rfl
          · exact sd_pure (runs_g 8 true 36 rfl rfl rfl (fun _ => rfl)) (fun _ _ => by kernel_rfl) rfl (fun _ => rfl) rfl
          · exact sd_load 7 2 (runs_g 8 true 36 rfl rfl rfl (fun _ => rfl)) (fun _ => by kernel_rfl) rfl (fun _ => rfl) (fun _ => rfl) (fun _ => rfl) rfl
          · refine sduty_runs (runs_g 8 true 36 rfl rfl rfl (fun _ => rfl)) fun yy a w4 hv K hK => ?_
            have e38 : a.tmps[38]? = some (.int .u8 t) := hv.get 38 rfl rfl
            have htt := Htt.out
            go_simp
            try rw [htt]
            exact hK pay0 _ (stp_none _)
          · refine sduty_runs (.inl rfl) fun yy a w4 hv K hK => ?_
            have e36 : a.tmps[36]? = some (.bool true) := hv.get 36 rfl rfl
            have e39 : a.tmps[39]? = some (.bool false) := hv.get 39 rfl rfl
            go_simp
            exact hK pay0 _ (stp_none _)
          · exact sd_pure (.inl rfl) (fun _ _ => by kernel_rfl) rfl (fun _ => rfl) rfl
          · exact sduty_skip 13 true 41 rfl rfl rfl (fun _ => rfl) rfl rfl
          · exact sduty_skip 13 true 41 rfl rfl rfl (fun _ => rfl) rfl rfl
          · exact sduty_skip 13 true 41 rfl rfl rfl (fun _ => rfl) rfl rfl
          · exact sduty_skip 13 true 41 rfl rfl rfl (fun _ => rfl) rfl rfl
          · exact sduty_skip 13 true 41 rfl rfl rfl (fun _ => rfl) rfl rfl
          · exact sduty_skip 13 true 41 rfl rfl rfl (fun _ => rfl) rfl rfl
          · exact sduty_skip 13 true 41 rfl rfl rfl (fun _ => rfl) rfl rfl
          · exact sduty_skip 13 true 41 rfl rfl rfl (fun _ => rfl) rfl rfl
          · exact sduty_skip 13 true 41 rfl rfl rfl (fun _ => rfl) rfl rfl
          · refine sduty_runs (.inl rfl) fun yy a w4 hv K hK => ?_
            have e41 : a.tmps[41]? = some (.bool false) := hv.get 41 rfl rfl
            have e50 : a.tmps[50]? = some (undef) := hv.get 50 rfl rfl
            go_simp
            exact hK pay0 _ (stp_none _)
          · exact sd_pure (.inl rfl) (fun _ _ => by kernel_rfl) rfl (fun _ => rfl) rfl
          · exact sd_pure (.inl rfl) (fun _ _ => by kernel_rfl) rfl (fun _ => rfl) rfl
        · intro yy a36 w36_ hE36 hS36
          have hE37 := hE36.keep (l' := [(2, .slice p.data.A (p.data.l.length : Nat) p.data.c), (3, .bool (false))]) ⟨hE36.get 2 rfl, hE36.get 3 rfl, trivial⟩
          have hS37 := hS36.keep (L' := [(101, some (ckB (g101) 38 (p.cells))), (7, some (ckB (g7) 36 #[.bool b, .int .u8 c, .int .u8 t, .int .u16 l]))]) ⟨rfl, rfl, trivial⟩
          clear hE36 hS36
          clear yy
          refine hK31 _ _ ?_
          refine wp_ret ?_
          try simp only [Exit.then]
          refine bodyPost_ret (v := .tuple #[.slice p.data.A (p.data.l.length : Nat) p.data.c, .bool (false)]) (by simp [results, Tryz.results24, go_sem, hE37.get 2 rfl, hE37.get 3 rfl]) hE37.defers ⟨_, rfl, hS37.below⟩
    case neg =>
      have Hkk := Lib.hid (Bool.eq_false_iff.2 hkc)
      clear hkc
      refine wp_sep (l0 := [(0, .agg p.cells), (1, .pointer (some ⟨g101, 0, none⟩)), (2, .slice none 0 0), (3, .bool false), (11, .pointer (some ⟨g101, 0, none⟩)), (12, .int .i64 0), (13, .bool false), (14, .bool false), (15, .pointer (some ⟨g101, 0, none⟩)), (16, .int .i64 0), (17, .bool false), (18, .bool false), (19, .pointer (some ⟨g101, 0, none⟩)), (20, .int .i64 0), (21, .bool true), (23, .pointer (some ⟨g101, 13, none⟩)), (24, .slice p.data.A (p.data.l.length : Nat) p.data.c), (25, .tuple #[.agg #[.bool b, .int .u8 c, .int .u8 t, .int .u16 l], .bool true]), (22, .tuple #[.agg #[.bool b, .int .u8 c, .int .u8 t, .int .u16 l], .bool true]), (26, .agg #[.bool b, .int .u8 c, .int .u8 t, .int .u16 l]), (27, .bool true), (4, .pointer (some ⟨g7, 0, none⟩)), (5, .bool true)]) (L0 := [(101, some (ckB (g101) 38 (p.cells))), (7, some (ckB (g7) 36 #[.bool b, .int .u8 c, .int .u8 t, .int .u16 l]))]) (hE30.keep (l' := [(0, .agg p.cells), (1, .pointer (some ⟨g101, 0, none⟩)), (2, .slice none 0 0), (3, .bool false), (11, .pointer (some ⟨g101, 0, none⟩)), (12, .int .i64 0), (13, .bool false), (14, .bool false), (15, .pointer (some ⟨g101, 0, none⟩)), (16, .int .i64 0), (17, .bool false), (18, .bool false), (19, .pointer (some ⟨g101, 0, none⟩)), (20, .int .i64 0), (21, .bool true), (23, .pointer (some ⟨g101, 13, none⟩)), (24, .slice p.data.A (p.data.l.length : Nat) p.data.c), (25, .tuple #[.agg #[.bool b, .int .u8 c, .int .u8 t, .int .u16 l], .bool true]), (22, .tuple #[.agg #[.bool b, .int .u8 c, .int .u8 t, .int .u16 l], .bool true]), (26, .agg #[.bool b, .int .u8 c, .int .u8 t, .int .u16 l]), (27, .bool true), (4, .pointer (some ⟨g7, 0, none⟩)), (5, .bool true)]) ⟨hE30.get 0 rfl, hE30.get 1 rfl, hE30.get 2 rfl, hE30.get 3 rfl, hE30.get 11 rfl, hE30.get 12 rfl, hE30.get 13 rfl, hE30.get 14 rfl, hE30.get 15 rfl, hE30.get 16 rfl, hE30.get 17 rfl, hE30.get 18 rfl, hE30.get 19 rfl, hE30.get 20 rfl, hE30.get 21 rfl, hE30.get 23 rfl, hE30.get 24 rfl, hE30.get 25 rfl, hE30.get 22 rfl, hE30.get 26 rfl, hE30.get 27 rfl, hE30.get 4 rfl, hE30.get 5 rfl, trivial⟩) (hS29.keep (L' := [(101, some (ckB (g101) 38 (p.cells))), (7, some (ckB (g7) 36 #[.bool b, .int .u8 c, .int .u8 t, .int .u16 l]))]) ⟨rfl, rfl, trivial⟩)
        [fun _ => .pointer (some ⟨g101, 13, none⟩),
          fun _ => .slice p.data.A (p.data.l.length : Nat) p.data.c,
          fun _ => .bool true,
          fun _ => .bool true,
          fun _ => .agg #[.bool b, .int .u8 c, .int .u8 t, .int .u16 l],
          fun _ => .int .i64 (kindOf c t),
          fun _ => .bool false,
          fun _ => .bool false,
          fun _ => .bool false,
          fun _ => undef,
          fun _ => undef,
          fun _ => undef,
          fun _ => .bool false,
          fun _ => .bool false,
          fun _ => undef,
          fun _ => undef,
          fun _ => undef,
          fun _ => undef,
          fun _ => undef,
          fun _ => undef,
          fun _ => undef,
          fun _ => undef,
          fun _ => undef,
          fun _ => .bool (false),
          fun _ => .slice p.data.A (p.data.l.length : Nat) p.data.c,
          fun _ => .bool (false)]
        [[], [], [], [], [], [], [], [], [], [], [], [], [], [], [], [], [], [], [], [], [], [], [], [], [], []]
        [[], [101], [], [], [7], [], [], [], [], [], [], [], [], [], [], [], [], [], [], [], [], [], [], [], [], []]
        (by kernel_rfl) (by kernel_rfl) (by kernel_rfl) rfl ?_ ?_ ?_
      · exact ⟨fun _ _ _ => ⟨rfl, rfl⟩,
          fun _ _ _ => ⟨rfl, rfl⟩,
          fun _ _ _ => ⟨rfl, rfl⟩,
          fun _ _ _ => ⟨rfl, rfl⟩,
          fun _ _ _ => ⟨rfl, rfl⟩,
          fun _ _ _ => ⟨rfl, rfl⟩,
          fun _ _ _ => ⟨rfl, rfl⟩,
          fun _ _ _ => ⟨rfl, rfl⟩,
          fun _ _ _ => ⟨rfl, rfl⟩,
          fun _ _ _ => ⟨rfl, rfl⟩,
          fun _ _ _ => ⟨rfl, rfl⟩,
          fun _ _ _ => ⟨rfl, rfl⟩,
          fun _ _ _ => ⟨rfl, rfl⟩,
          fun _ _ _ => ⟨rfl, rfl⟩,
          fun _ _ _ => ⟨rfl, rfl⟩,
          fun _ _ _ => ⟨rfl, rfl⟩,
          fun _ _ _ => ⟨rfl, rfl⟩,
          fun _ _ _ => ⟨rfl, rfl⟩,
          fun _ _ _ => ⟨rfl, rfl⟩,
          fun _ _ _ => ⟨rfl, rfl⟩,
          fun _ _ _ => ⟨rfl, rfl⟩,
          fun _ _ _ => ⟨rfl, rfl⟩,
          fun _ _ _ => ⟨rfl, rfl⟩,
          fun _ _ _ => ⟨rfl, rfl⟩,
          fun _ _ _ => ⟨rfl, rfl⟩,
          fun _ _ _ => ⟨rfl, rfl⟩, trivial⟩
      · refine ⟨?_, ?_, ?_, ?_, ?_, ?_, ?_, ?_, ?_, ?_, ?_, ?_, ?_, ?_, ?_, ?_, ?_, ?_, ?_, ?_, ?_, ?_, ?_, ?_, ?_, ?_, trivial⟩
        · exact sd_pure (.inl rfl) (fun _ _ => by kernel_rfl) rfl (fun _ => rfl) rfl
        · exact sd_load 101 13 (.inl rfl) (fun _ => by kernel_rfl) rfl (fun _ => rfl) (fun _ => rfl) (fun _ => rfl) rfl
        · exact sd_pure (.inl rfl) (fun _ _ => by kernel_rfl) rfl (fun _ => rfl) rfl
        · exact sd_pure (.inl rfl) (fun _ _ => by kernel_rfl) rfl (fun _ => rfl) rfl
        · exact sd_loadN 7 (runs_g 3 true 31 rfl rfl rfl (fun _ => rfl)) Tryz.underlying36 (fun _ => by kernel_rfl) rfl (fun _ => rfl) (fun _ => rfl) (fun _ => rfl) rfl rfl
        · refine sduty_runs (runs_g 3 true 31 rfl rfl rfl (fun _ => rfl)) fun yy a w4 hv K hK => ?_
          have e32 : a.tmps[32]? = some (.agg #[.bool b, .int .u8 c, .int .u8 t, .int .u16 l]) := hv.get 32 rfl rfl
          go_simp
          refine (kindOf_any b c t l w4).mono ?_
          rintro e w5 ⟨rfl, hB⟩
          exact hK pay0 _ (stp_of_below hB)
        · refine sduty_runs (runs_g 3 true 31 rfl rfl rfl (fun _ => rfl)) fun yy a w4 hv K hK => ?_
          have e33 : a.tmps[33]? = some (.int .i64 (kindOf c t)) := hv.get 33 rfl rfl
          have hkk := Hkk.out
          go_simp
          try rw [hkk]
          exact hK pay0 _ (stp_none _)
        · refine sduty_runs (.inl rfl) fun yy a w4 hv K hK => ?_
          have e31 : a.tmps[31]? = some (.bool true) := hv.get 31 rfl rfl
          have e34 : a.tmps[34]? = some (.bool false) := hv.get 34 rfl rfl
          go_simp
          exact hK pay0 _ (stp_none _)
        · exact sd_pure (.inl rfl) (fun _ _ => by kernel_rfl) rfl (fun _ => rfl) rfl
        · exact sduty_skip 8 true 36 rfl rfl rfl (fun _ => rfl) rfl rfl
        · exact sduty_skip 8 true 36 rfl rfl rfl (fun _ => rfl) rfl rfl
        · exact sduty_skip 8 true 36 rfl rfl rfl (fun _ => rfl) rfl rfl
        · refine sduty_runs (.inl rfl) fun yy a w4 hv K hK => ?_
          have e36 : a.tmps[36]? = some (.bool false) := hv.get 36 rfl rfl
          have e39 : a.tmps[39]? = some (undef) := hv.get 39 rfl rfl
          go_simp
          exact hK pay0 _ (stp_none _)
        · exact sd_pure (.inl rfl) (fun _ _ => by kernel_rfl) rfl (fun _ => rfl) rfl
        · exact sduty_skip 13 true 41 rfl rfl rfl (fun _ => rfl) rfl rfl
        · exact sduty_skip 13 true 41 rfl rfl rfl (fun _ => rfl) rfl rfl
        · exact sduty_skip 13 true 41 rfl rfl rfl (fun _ => rfl) rfl rfl
        · exact sduty_skip 13 true 41 rfl rfl rfl (fun _ => rfl) rfl rfl
        · exact sduty_skip 13 true 41 rfl rfl rfl (fun _ => rfl) rfl rfl
        · exact sduty_skip 13 true 41 rfl rfl rfl (fun _ => rfl) rfl rfl
        · exact sduty_skip 13 true 41 rfl rfl rfl (fun _ => rfl) rfl rfl
        · exact sduty_skip 13 true 41 rfl rfl rfl (fun _ => rfl) rfl rfl
        · exact sduty_skip 13 true 41 rfl rfl rfl (fun _ => rfl) rfl rfl
        · refine sduty_runs (.inl rfl) fun yy a w4 hv K hK => ?_
          have e41 : a.tmps[41]? = some (.bool false) := hv.get 41 rfl rfl
          have e50 : a.tmps[50]? = some (undef) := hv.get 50 rfl rfl
          go_simp
          exact hK pay0 _ (stp_none _)
        · exact sd_pure (.inl rfl) (fun _ _ => by kernel_rfl) rfl (fun _ => rfl) rfl
        · exact sd_pure (.inl rfl) (fun _ _ => by kernel_rfl) rfl (fun _ => rfl) rfl
      · intro yy a38 w38_ hE38 hS38
        have hE39 := hE38.keep (l' := [(2, .slice p.data.A (p.data.l.length : Nat) p.data.c), (3, .bool (false))]) ⟨hE38.get 2 rfl, hE38.get 3 rfl, trivial⟩
        have hS39 := hS38.keep (L' := [(101, some (ckB (g101) 38 (p.cells))), (7, some (ckB (g7) 36 #[.bool b, .int .u8 c, .int .u8 t, .int .u16 l]))]) ⟨rfl, rfl, trivial⟩
        clear hE38 hS38
        clear yy
        refine hK31 _ _ ?_
        refine wp_ret ?_
        try simp only [Exit.then]
        refine bodyPost_ret (v := .tuple #[.slice p.data.A (p.data.l.length : Nat) p.data.c, .bool (false)]) (by simp [results, Tryz.results24, go_sem, hE39.get 2 rfl, hE39.get 3 rfl]) hE39.defers ⟨_, rfl, hS39.below⟩

end Go.Proofs.YtmmfpgoodfgkbaaGreat
