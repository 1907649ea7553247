/-
  THE WALK of the reference's reading of a header. Condition: the bytes that the slice reads as.
-/
import Derived.Test.YtmmfpgoodfgkbaaGreatMSep
import Derived.Test.YtmmfpgoodfgkbaaGreatRead
namespace Go.Proofs.YtmmfpgoodfgkbaaGreat
open Go Go.RowKit
set_option linter.unusedVariables false

set_option maxHeartbeats 400000 in
theorem u16_two {w : World} {B n c : Nat} {ad : Addr} {zs : List Int} (h : Reads w B 1 (some ad) n (u8s zs)) (b0 : 0 ≤ gi zs 0 ∧ gi zs 0 < 256) (b1 : 0 ≤ gi zs 1 ∧ gi zs 1 < 256) (hn : 2 ≤ n) :
    Calls Tryz.prog 60 #[.slice (some ad) n c] w fun e w' => e = .returned (.int .u16 (rd16 zs 0)) ∧ ∃ m, w' = w.drewN m := by
  have c0 : w.cell? ad = some (.int .u8 (gi zs 0)) := h.byte (k := 0) (by omega)
  have c1 : w.cell? ⟨ad.block, ad.off + 1, none⟩ = some (.int .u8 (gi zs 1)) := h.byteS (k := 0) (by omega)
  have hl0 : (0 : Int) < (n : Int) := by omega
  have hl1 : (1 : Int) < (n : Int) := by omega
  go_enter Tryz.func60, Tryz.ntmps60
  go_wp2_with fail
  go_quiet (fail)
  go_wp2
  go_ret
  rw [or16 b0.1 b0.2 b1.1 b1.2]
  exact ⟨rfl, nq, rfl⟩
def hdr0 : Array Value := #[.bool false, .int .u8 0, .int .u8 0, .int .u16 0]
def hdrR (zs : List Int) : Array Value := #[.bool (bits .and .u8 (gi zs 0) 32 != 0), .int .u8 (bits .and .u8 (gi zs 0) 31), .int .u8 (gi zs 1), .int .u16 (rd16 zs 2)]
set_option maxHeartbeats 2000000 in
set_option maxRecDepth 100000 in
theorem readHeader_short (A : Option Addr) (n c : Nat) (w : World) (hn : n < 4) :
    Calls Tryz.prog 35 #[.slice A n c] w fun e w' => e = .returned (.tuple #[.agg hdr0, .bool false]) ∧ Below w.heap.size w w' := by
  have hn0 : decide ((n : Int) < 4) = true := decide_eq_true (by omega)
  refine calls_of_wp Tryz.func35 rfl ?_
  rw [Tryz.ntmps35]
  have hE0 : Env 31 [(0, .slice A n c)] ⟨#[.slice A n c] ++ Array.replicate (31 - (#[.slice A n c] : Array Value).size) undef, []⟩ := Env.enter _ (by simp) ⟨by simp, trivial⟩
  generalize (⟨#[.slice A n c] ++ Array.replicate (31 - (#[.slice A n c] : Array Value).size) undef, []⟩ : Act) = a0 at hE0 ⊢
  have hS0 : Stp (fun _ => False) w w (lookM []) := Stp.refl w
  refine wp_seq_k fun K1 hK1 => ?_
  refine wp_region_lit ?_
  refine seq_new hE0 hS0 2 101 (fun g => .pointer (some ⟨g, 0, none⟩)) 36 #[.bool false, .int .u8 0, .int .u8 0, .int .u16 0] (fun w => by kernel_rfl) rfl rfl rfl rfl rfl fun a2 u1 g101 hE2 hS2 => ?_
  clear hE0 a0
  clear hS0
  refine seq_pure hE2 3 (.bool false) (fun w => by kernel_rfl) rfl rfl rfl rfl rfl fun a3 hE3 => ?_
  clear hE2 a2
  refine wpList_nil ?_
  refine hK1 _ _ ?_
  clear hK1
  refine wp_seq_k fun K4 hK4 => ?_
  refine wp_seq_k fun K5 hK5 => ?_
  refine wp_region_lit ?_
  refine seq_pure hE3 4 (.slice A n c) (fun w => by kernel_rfl) rfl rfl rfl rfl rfl fun a6 hE6 => ?_
  clear hE3 a3
  refine wpList_val hE6 5 rfl rfl fun K hK => ?_
  have e4 := hE6.get 4 rfl
  go_simp
  refine hK _ _ fun a7 hE7 => ?_
  clear hK K e4
  clear hE6 a6
  refine wpList_val hE7 6 rfl rfl fun K hK => ?_
  have e5 := hE7.get 5 rfl
  go_simp
  refine hK _ _ fun a8 hE8 => ?_
  clear hK K e5
  clear hE7 a7
  refine seq_pure hE8 7 (.bool true) (fun w => by kernel_rfl) rfl rfl rfl rfl rfl fun a9 hE9 => ?_
  clear hE8 a8
  refine wpList_gskip hE9 8 3 false 7 rfl rfl rfl rfl rfl fun a10 hE10 => ?_
  clear hE9 a9
  refine wpList_gskip hE10 9 3 false 7 rfl rfl rfl rfl rfl fun a11 hE11 => ?_
  clear hE10 a10
  refine wpList_gskip hE11 10 3 false 7 rfl rfl rfl rfl rfl fun a12 hE12 => ?_
  clear hE11 a11
  refine wpList_gskip hE12 11 3 false 7 rfl rfl rfl rfl rfl fun a13 hE13 => ?_
  clear hE12 a12
  refine wpList_gskip hE13 12 3 false 7 rfl rfl rfl rfl rfl fun a14 hE14 => ?_
  clear hE13 a13
  refine wpList_val hE14 13 rfl rfl fun K hK => ?_
  have e7 := hE14.get 7 rfl
  have e12 := hE14.get 12 rfl
  go_simp
  refine hK _ _ fun a15 hE15 => ?_
  clear hK K e7 e12
  clear hE14 a14
  refine wpList_nil ?_
  refine hK5 _ _ ?_
  clear hK5
  refine wp_if_t hE15 13 rfl ?_
  refine wp_seq_k fun K16 hK16 => ?_
  refine wp_region_lit ?_
  refine seq_pure hE15 14 (.agg #[.bool false, .int .u8 0, .int .u8 0, .int .u16 0]) (fun w => by kernel_rfl) rfl rfl rfl rfl rfl fun a17 hE17 => ?_
  clear hE15 a15
  refine seq_storeN hE17 hS2 101 (new := #[.bool false, .int .u8 0, .int .u8 0, .int .u16 0]) (by simp [Value.oneCell']) rfl rfl rfl rfl rfl (by kernel_rfl) rfl rfl rfl fun u2 hS18 => ?_
  clear hS2
  clear u1
  refine seq_pure hE17 3 (.bool false) (fun w => by kernel_rfl) rfl rfl rfl rfl rfl fun a19 hE19 => ?_
  clear hE17 a17
  refine wpList_nil ?_
  refine hK16 _ _ ?_
  clear hK16
  refine wp_ret ?_
  try simp only [Exit.then]
  refine bodyPost_ret (results_cell_tmp1 Tryz.results35 _ _ _ 36 _ _ (hE19.get 2 rfl) (hS18.blk 101 rfl) Tryz.underlying36 rfl (by kernel_rfl) (hE19.get 3 rfl)) hE19.defers ⟨rfl, hS18.below⟩

set_option maxHeartbeats 2000000 in
set_option maxRecDepth 100000 in
theorem readHeader_bad {w : World} {B n c : Nat} {ad : Addr} {zs : List Int} (h : Reads w B 1 (some ad) n (u8s zs)) (hB : B ≤ w.heap.size) (b0 : 0 ≤ gi zs 0 ∧ gi zs 0 < 256) (b1 : 0 ≤ gi zs 1 ∧ gi zs 1 < 256) (b2 : 0 ≤ gi zs 2 ∧ gi zs 2 < 256) (b3 : 0 ≤ gi zs 3 ∧ gi zs 3 < 256) (hn : 4 ≤ n) (hc : n ≤ c) (hb : ¬ gi zs 0 / 64 = 2) :
    Calls Tryz.prog 35 #[.slice (some ad) n c] w fun e w' => e = .returned (.tuple #[.agg hdr0, .bool false]) ∧ Below w.heap.size w w' := by
  have hn0 : decide ((n : Int) < 4) = false := decide_eq_false (by omega)
  have hl0 : (0 : Int) < (n : Int) := by omega
  have hl1 : (1 : Int) < (n : Int) := by omega
  have Hb := Lib.hid (show (gi zs 0 / 64 != 2) = true by simpa using hb)
  clear hb
  refine calls_of_wp Tryz.func35 rfl ?_
  rw [Tryz.ntmps35]
  have hE0 : Env 31 [(0, .slice (some ad) n c)] ⟨#[.slice (some ad) n c] ++ Array.replicate (31 - (#[.slice (some ad) n c] : Array Value).size) undef, []⟩ := Env.enter _ (by simp) ⟨by simp, trivial⟩
  generalize (⟨#[.slice (some ad) n c] ++ Array.replicate (31 - (#[.slice (some ad) n c] : Array Value).size) undef, []⟩ : Act) = a0 at hE0 ⊢
  have hS0 : Stp (fun _ => False) w w (lookM []) := Stp.refl w
  refine wp_seq_k fun K1 hK1 => ?_
  refine wp_region_lit ?_
  refine seq_new hE0 hS0 2 101 (fun g => .pointer (some ⟨g, 0, none⟩)) 36 #[.bool false, .int .u8 0, .int .u8 0, .int .u16 0] (fun w => by kernel_rfl) rfl rfl rfl rfl rfl fun a2 u1 g101 hE2 hS2 => ?_
  clear hE0 a0
  clear hS0
  refine seq_pure hE2 3 (.bool false) (fun w => by kernel_rfl) rfl rfl rfl rfl rfl fun a3 hE3 => ?_
  clear hE2 a2
  refine wpList_nil ?_
  refine hK1 _ _ ?_
  clear hK1
  refine wp_seq_k fun K4 hK4 => ?_
  refine wp_seq_k fun K5 hK5 => ?_
  refine wp_region_lit ?_
  refine seq_pure hE3 4 (.slice (some ad) n c) (fun w => by kernel_rfl) rfl rfl rfl rfl rfl fun a6 hE6 => ?_
  clear hE3 a3
  refine wpList_val hE6 5 rfl rfl fun K hK => ?_
  have e4 := hE6.get 4 rfl
  go_simp
  refine hK _ _ fun a7 hE7 => ?_
  clear hK K e4
  clear hE6 a6
  refine wpList_val hE7 6 rfl rfl fun K hK => ?_
  have e5 := hE7.get 5 rfl
  go_simp
  refine hK _ _ fun a8 hE8 => ?_
  clear hK K e5
  clear hE7 a7
  refine seq_pure hE8 7 (.bool false) (fun w => by kernel_rfl) rfl rfl rfl rfl rfl fun a9 hE9 => ?_
  clear hE8 a8
  refine wpList_gval hE9 8 3 false 7 rfl rfl rfl rfl fun K hK => ?_
  have e0 := hE9.get 0 rfl
  go_simp
  refine hK _ _ fun a10 hE10 => ?_
  clear hK K e0
  clear hE9 a9
  refine wpList_gval hE10 9 3 false 7 rfl rfl rfl rfl fun K hK => ?_
  have e8 := hE10.get 8 rfl
  have hx := run_index0 (P := Tryz.prog) (w := u1) (size := 1) Tryz.underlying25 (fun w => by kernel_rfl) ad ad n c 0 0 rfl (by omega) rfl
  refine exec_wp (v := .pointer (some ad)) (w' := u1) (by simp [execOp, Act.eval, e8, hx]) ?_
  refine hK _ _ fun a11 hE11 => ?_
  clear hK K e8
  clear hE10 a10
  clear hx
  refine wpList_gval hE11 10 3 false 7 rfl rfl rfl rfl fun K hK => ?_
  have e9 := hE11.get 9 rfl
  have c0 : u1.cell? ad = some (.int .u8 (gi zs 0)) := ((h.below ((hS2.old _ (Nat.le_refl _) (fun _ h => h.elim)).mono hB)).byte (k := 0) (by omega))
  go_simp
  refine hK _ _ fun a12 hE12 => ?_
  clear hK K e9
  clear hE11 a11
  clear c0
  refine wpList_gval hE12 11 3 false 7 rfl rfl rfl rfl fun K hK => ?_
  have e10 := hE12.get 10 rfl
  go_simp
  refine hK _ _ fun a13 hE13 => ?_
  clear hK K e10
  clear hE12 a12
  refine wpList_gval hE13 12 3 false 7 rfl rfl rfl rfl fun K hK => ?_
  have e11 := hE13.get 11 rfl
  go_simp
  rw [Hb.out]
  refine hK _ _ fun a14 hE14 => ?_
  clear hK K e11
  clear hE13 a13
  refine wpList_val hE14 13 rfl rfl fun K hK => ?_
  have e7 := hE14.get 7 rfl
  have e12 := hE14.get 12 rfl
  go_simp
  refine hK _ _ fun a15 hE15 => ?_
  clear hK K e7 e12
  clear hE14 a14
  refine wpList_nil ?_
  refine hK5 _ _ ?_
  clear hK5
  refine wp_if_t hE15 13 rfl ?_
  refine wp_seq_k fun K16 hK16 => ?_
  refine wp_region_lit ?_
  refine seq_pure hE15 14 (.agg #[.bool false, .int .u8 0, .int .u8 0, .int .u16 0]) (fun w => by kernel_rfl) rfl rfl rfl rfl rfl fun a17 hE17 => ?_
  clear hE15 a15
  refine seq_storeN hE17 hS2 101 (new := #[.bool false, .int .u8 0, .int .u8 0, .int .u16 0]) (by simp [Value.oneCell']) rfl rfl rfl rfl rfl (by kernel_rfl) rfl rfl rfl fun u2 hS18 => ?_
  clear hS2
  clear u1
  refine seq_pure hE17 3 (.bool false) (fun w => by kernel_rfl) rfl rfl rfl rfl rfl fun a19 hE19 => ?_
  clear hE17 a17
  refine wpList_nil ?_
  refine hK16 _ _ ?_
  clear hK16
  refine wp_ret ?_
  try simp only [Exit.then]
  refine bodyPost_ret (results_cell_tmp1 Tryz.results35 _ _ _ 36 _ _ (hE19.get 2 rfl) (hS18.blk 101 rfl) Tryz.underlying36 rfl (by kernel_rfl) (hE19.get 3 rfl)) hE19.defers ⟨rfl, hS18.below⟩

set_option maxHeartbeats 2000000 in
set_option maxRecDepth 100000 in
theorem readHeader_ok {w : World} {B n c : Nat} {ad : Addr} {zs : List Int} (h : Reads w B 1 (some ad) n (u8s zs)) (hB : B ≤ w.heap.size) (b0 : 0 ≤ gi zs 0 ∧ gi zs 0 < 256) (b1 : 0 ≤ gi zs 1 ∧ gi zs 1 < 256) (b2 : 0 ≤ gi zs 2 ∧ gi zs 2 < 256) (b3 : 0 ≤ gi zs 3 ∧ gi zs 3 < 256) (hn : 4 ≤ n) (hc : n ≤ c) (hb : gi zs 0 / 64 = 2) :
    Calls Tryz.prog 35 #[.slice (some ad) n c] w fun e w' => e = .returned (.tuple #[.agg (hdrR zs), .bool true]) ∧ Below w.heap.size w w' := by
  have hn0 : decide ((n : Int) < 4) = false := decide_eq_false (by omega)
  have hl0 : (0 : Int) < (n : Int) := by omega
  have hl1 : (1 : Int) < (n : Int) := by omega
  have Hb := Lib.hid (show (gi zs 0 / 64 != 2) = false by rw [hb]; rfl)
  clear hb
  refine calls_of_wp Tryz.func35 rfl ?_
  rw [Tryz.ntmps35]
  have hE0 : Env 31 [(0, .slice (some ad) n c)] ⟨#[.slice (some ad) n c] ++ Array.replicate (31 - (#[.slice (some ad) n c] : Array Value).size) undef, []⟩ := Env.enter _ (by simp) ⟨by simp, trivial⟩
  generalize (⟨#[.slice (some ad) n c] ++ Array.replicate (31 - (#[.slice (some ad) n c] : Array Value).size) undef, []⟩ : Act) = a0 at hE0 ⊢
  have hS0 : Stp (fun _ => False) w w (lookM []) := Stp.refl w
  refine wp_seq_k fun K1 hK1 => ?_
  refine wp_region_lit ?_
  refine seq_new hE0 hS0 2 101 (fun g => .pointer (some ⟨g, 0, none⟩)) 36 #[.bool false, .int .u8 0, .int .u8 0, .int .u16 0] (fun w => by kernel_rfl) rfl rfl rfl rfl rfl fun a2 u1 g101 hE2 hS2 => ?_
  clear hE0 a0
  clear hS0
  refine seq_pure hE2 3 (.bool false) (fun w => by kernel_rfl) rfl rfl rfl rfl rfl fun a3 hE3 => ?_
  clear hE2 a2
  refine wpList_nil ?_
  refine hK1 _ _ ?_
  clear hK1
  refine wp_seq_k fun K4 hK4 => ?_
  refine wp_seq_k fun K5 hK5 => ?_
  refine wp_region_lit ?_
  refine seq_pure hE3 4 (.slice (some ad) n c) (fun w => by kernel_rfl) rfl rfl rfl rfl rfl fun a6 hE6 => ?_
  clear hE3 a3
  refine wpList_val hE6 5 rfl rfl fun K hK => ?_
  have e4 := hE6.get 4 rfl
  go_simp
  refine hK _ _ fun a7 hE7 => ?_
  clear hK K e4
  clear hE6 a6
  refine wpList_val hE7 6 rfl rfl fun K hK => ?_
  have e5 := hE7.get 5 rfl
  go_simp
  refine hK _ _ fun a8 hE8 => ?_
  clear hK K e5
  clear hE7 a7
  refine seq_pure hE8 7 (.bool false) (fun w => by kernel_rfl) rfl rfl rfl rfl rfl fun a9 hE9 => ?_
  clear hE8 a8
  refine wpList_gval hE9 8 3 false 7 rfl rfl rfl rfl fun K hK => ?_
  have e0 := hE9.get 0 rfl
  go_simp
  refine hK _ _ fun a10 hE10 => ?_
  clear hK K e0
  clear hE9 a9
  refine wpList_gval hE10 9 3 false 7 rfl rfl rfl rfl fun K hK => ?_
  have e8 := hE10.get 8 rfl
  have hx := run_index0 (P := Tryz.prog) (w := u1) (size := 1) Tryz.underlying25 (fun w => by kernel_rfl) ad ad n c 0 0 rfl (by omega) rfl
  refine exec_wp (v := .pointer (some ad)) (w' := u1) (by simp [execOp, Act.eval, e8, hx]) ?_
  refine hK _ _ fun a11 hE11 => ?_
  clear hK K e8
  clear hE10 a10
  clear hx
  refine wpList_gval hE11 10 3 false 7 rfl rfl rfl rfl fun K hK => ?_
  have e9 := hE11.get 9 rfl
  have c0 : u1.cell? ad = some (.int .u8 (gi zs 0)) := ((h.below ((hS2.old _ (Nat.le_refl _) (fun _ h => h.elim)).mono hB)).byte (k := 0) (by omega))
  go_simp
  refine hK _ _ fun a12 hE12 => ?_
  clear hK K e9
  clear hE11 a11
  clear c0
  refine wpList_gval hE12 11 3 false 7 rfl rfl rfl rfl fun K hK => ?_
  have e10 := hE12.get 10 rfl
  go_simp
  refine hK _ _ fun a13 hE13 => ?_
  clear hK K e10
  clear hE12 a12
  refine wpList_gval hE13 12 3 false 7 rfl rfl rfl rfl fun K hK => ?_
  have e11 := hE13.get 11 rfl
  go_simp
  rw [Hb.out]
  refine hK _ _ fun a14 hE14 => ?_
  clear hK K e11
  clear hE13 a13
  refine wpList_val hE14 13 rfl rfl fun K hK => ?_
  have e7 := hE14.get 7 rfl
  have e12 := hE14.get 12 rfl
  go_simp
  refine hK _ _ fun a15 hE15 => ?_
  clear hK K e7 e12
  clear hE14 a14
  refine wpList_nil ?_
  refine hK5 _ _ ?_
  clear hK5
  refine wp_if_f hE15 13 rfl ?_
  refine wp_skip ?_
  refine hK4 _ _ ?_
  clear hK4
  refine wp_seq_k fun K16 hK16 => ?_
  refine wp_sep (l0 := [(0, .slice (some ad) n c), (2, .pointer (some ⟨g101, 0, none⟩)), (3, .bool false), (4, .slice (some ad) n c), (5, .int .i64 (n : Nat)), (6, .bool false), (7, .bool false), (8, .slice (some ad) n c), (9, .pointer (some ad)), (10, .int .u8 (gi zs 0)), (11, .int .u8 (gi zs 0 / 64)), (12, .bool false), (13, .bool false)]) (L0 := [(101, some (ckB (g101) 36 #[.bool false, .int .u8 0, .int .u8 0, .int .u16 0]))]) (hE15.keep (l' := [(0, .slice (some ad) n c), (2, .pointer (some ⟨g101, 0, none⟩)), (3, .bool false), (4, .slice (some ad) n c), (5, .int .i64 (n : Nat)), (6, .bool false), (7, .bool false), (8, .slice (some ad) n c), (9, .pointer (some ad)), (10, .int .u8 (gi zs 0)), (11, .int .u8 (gi zs 0 / 64)), (12, .bool false), (13, .bool false)]) ⟨hE15.get 0 rfl, hE15.get 2 rfl, hE15.get 3 rfl, hE15.get 4 rfl, hE15.get 5 rfl, hE15.get 6 rfl, hE15.get 7 rfl, hE15.get 8 rfl, hE15.get 9 rfl, hE15.get 10 rfl, hE15.get 11 rfl, hE15.get 12 rfl, hE15.get 13 rfl, trivial⟩) (hS2.keep (L' := [(101, some (ckB (g101) 36 #[.bool false, .int .u8 0, .int .u8 0, .int .u16 0]))]) ⟨rfl, trivial⟩)
    [fun _ => .slice (some ad) n c,
      fun _ => .pointer (some ad),
      fun _ => .int .u8 (gi zs 0),
      fun _ => .int .u8 (bits .and .u8 (gi zs 0) 32),
      fun _ => .bool (bits .and .u8 (gi zs 0) 32 != 0),
      fun _ => .slice (some ad) n c,
      fun _ => .pointer (some ad),
      fun _ => .int .u8 (gi zs 0),
      fun _ => .int .u8 (bits .and .u8 (gi zs 0) 31),
      fun _ => .slice (some ad) n c,
      fun _ => .pointer (some ⟨ad.block, ad.off + 1, none⟩),
      fun _ => .int .u8 (gi zs 1),
      fun _ => .slice (some ad) n c,
      fun _ => .slice (some ⟨ad.block, ad.off + 2, none⟩) (n - 2 : Nat) (c - 2 : Nat),
      fun _ => .int .u16 (rd16 zs 2),
      fun _ => .agg #[.bool (bits .and .u8 (gi zs 0) 32 != 0), .int .u8 (bits .and .u8 (gi zs 0) 31), .int .u8 (gi zs 1), .int .u16 (rd16 zs 2)],
      fun _ => undef,
      fun _ => .bool true]
    [[], [], [], [], [], [], [], [], [], [], [], [], [], [], [], [], [(101, fun _ => some (ckB (g101) 36 #[.bool (bits .and .u8 (gi zs 0) 32 != 0), .int .u8 (bits .and .u8 (gi zs 0) 31), .int .u8 (gi zs 1), .int .u16 (rd16 zs 2)]))], []]
    [[], [], [], [], [], [], [], [], [], [], [], [], [], [], [], [], [], []]
    (by kernel_rfl) (by kernel_rfl) (by kernel_rfl) rfl ?_ ?_ ?_
  · exact ⟨fun _ _ _ => ⟨rfl, rfl⟩,
      fun _ _ _ => ⟨rfl, rfl⟩,
      fun _ _ _ => ⟨rfl, rfl⟩,
      fun _ _ _ => ⟨rfl, rfl⟩,
      fun _ _ _ => ⟨rfl, rfl⟩,
      fun _ _ _ => ⟨rfl, rfl⟩,
      fun _ _ _ => ⟨rfl, rfl⟩,
      fun _ _ _ => ⟨rfl, rfl⟩,
      fun _ _ _ => ⟨rfl, rfl⟩,
      fun _ _ _ => ⟨rfl, rfl⟩,
      fun _ _ _ => ⟨rfl, rfl⟩,
      fun _ _ _ => ⟨rfl, rfl⟩,
      fun _ _ _ => ⟨rfl, rfl⟩,
      fun _ _ _ => ⟨rfl, rfl⟩,
      fun _ _ _ => ⟨rfl, rfl⟩,
      fun _ _ _ => ⟨rfl, rfl⟩,
      fun _ _ _ => ⟨rfl, rfl⟩,
      fun _ _ _ => ⟨rfl, rfl⟩, trivial⟩
  · refine ⟨?_, ?_, ?_, ?_, ?_, ?_, ?_, ?_, ?_, ?_, ?_, ?_, ?_, ?_, ?_, ?_, ?_, ?_, trivial⟩
    · exact sd_pure (.inl rfl) (fun _ _ => by kernel_rfl) rfl (fun _ => rfl) rfl
    · refine sduty_runs (.inl rfl) fun yy a w4 hv K hK => ?_
      have e15 : a.tmps[15]? = some (.slice (some ad) n c) := hv.get 15 rfl rfl
      have hx := run_index0 (P := Tryz.prog) (w := w4) (size := 1) Tryz.underlying25 (fun w => by kernel_rfl) ad ad n c 0 0 rfl (by omega) rfl
      refine exec_wp (v := .pointer (some ad)) (w' := w4) (by simp [execOp, Act.eval, e15, hx]) ?_
      exact hK pay0 _ (stp_none _)
    · refine sduty_runs (.inl rfl) fun yy a w4 hv K hK => ?_
      have e16 : a.tmps[16]? = some (.pointer (some ad)) := hv.get 16 rfl rfl
      have c0 : w4.cell? ad = some (.int .u8 (gi zs 0)) := ((h.below ((hv.mem.old _ (Nat.le_refl _) (fun _ h => h.elim)).mono hB)).byte (k := 0) (by omega))
      go_simp
      exact hK pay0 _ (stp_none _)
    · refine sduty_runs (.inl rfl) fun yy a w4 hv K hK => ?_
      have e17 : a.tmps[17]? = some (.int .u8 (gi zs 0)) := hv.get 17 rfl rfl
      go_simp
      exact hK pay0 _ (stp_none _)
    · refine sduty_runs (.inl rfl) fun yy a w4 hv K hK => ?_
      have e18 : a.tmps[18]? = some (.int .u8 (bits .and .u8 (gi zs 0) 32)) := hv.get 18 rfl rfl
      go_simp
      exact hK pay0 _ (stp_none _)
    · exact sd_pure (.inl rfl) (fun _ _ => by kernel_rfl) rfl (fun _ => rfl) rfl
    · refine sduty_runs (.inl rfl) fun yy a w4 hv K hK => ?_
      have e20 : a.tmps[20]? = some (.slice (some ad) n c) := hv.get 20 rfl rfl
      have hx := run_index0 (P := Tryz.prog) (w := w4) (size := 1) Tryz.underlying25 (fun w => by kernel_rfl) ad ad n c 0 0 rfl (by omega) rfl
      refine exec_wp (v := .pointer (some ad)) (w' := w4) (by simp [execOp, Act.eval, e20, hx]) ?_
      exact hK pay0 _ (stp_none _)
    · refine sduty_runs (.inl rfl) fun yy a w4 hv K hK => ?_
      have e21 : a.tmps[21]? = some (.pointer (some ad)) := hv.get 21 rfl rfl
      have c0 : w4.cell? ad = some (.int .u8 (gi zs 0)) := ((h.below ((hv.mem.old _ (Nat.le_refl _) (fun _ h => h.elim)).mono hB)).byte (k := 0) (by omega))
      go_simp
      exact hK pay0 _ (stp_none _)
    · refine sduty_runs (.inl rfl) fun yy a w4 hv K hK => ?_
      have e22 : a.tmps[22]? = some (.int .u8 (gi zs 0)) := hv.get 22 rfl rfl
      go_simp
      exact hK pay0 _ (stp_none _)
    · exact sd_pure (.inl rfl) (fun _ _ => by kernel_rfl) rfl (fun _ => rfl) rfl
    · refine sduty_runs (.inl rfl) fun yy a w4 hv K hK => ?_
      have e24 : a.tmps[24]? = some (.slice (some ad) n c) := hv.get 24 rfl rfl
      have hx := run_index0 (P := Tryz.prog) (w := w4) (size := 1) Tryz.underlying25 (fun w => by kernel_rfl) ad ⟨ad.block, ad.off + 1, none⟩ n c 1 1 rfl (by omega) rfl
      refine exec_wp (v := .pointer (some ⟨ad.block, ad.off + 1, none⟩)) (w' := w4) (by simp [execOp, Act.eval, e24, hx]) ?_
      exact hK pay0 _ (stp_none _)
    · refine sduty_runs (.inl rfl) fun yy a w4 hv K hK => ?_
      have e25 : a.tmps[25]? = some (.pointer (some ⟨ad.block, ad.off + 1, none⟩)) := hv.get 25 rfl rfl
      have c1 : w4.cell? ⟨ad.block, ad.off + 1, none⟩ = some (.int .u8 (gi zs 1)) := ((h.below ((hv.mem.old _ (Nat.le_refl _) (fun _ h => h.elim)).mono hB)).byteS (k := 0) (by omega))
      go_simp
      exact hK pay0 _ (stp_none _)
    · exact sd_pure (.inl rfl) (fun _ _ => by kernel_rfl) rfl (fun _ => rfl) rfl
    · refine sduty_runs (.inl rfl) fun yy a w4 hv K hK => ?_
      have e27 : a.tmps[27]? = some (.slice (some ad) n c) := hv.get 27 rfl rfl
      go_simp
      rw [if_pos (by omega), if_neg (by omega)]
      exact hK pay0 _ (stp_none _)
    · refine sduty_runs (.inl rfl) fun yy a w4 hv K hK => ?_
      have e28 : a.tmps[28]? = some (.slice (some ⟨ad.block, ad.off + 2, none⟩) (n - 2 : Nat) (c - 2 : Nat)) := hv.get 28 rfl rfl
      go_simp
      refine (u16_two (reads_subS (h.below ((hv.mem.old _ (Nat.le_refl _) (fun _ h => h.elim)).mono hB)) 1 (by omega)) (by rw [gi_drop]; exact b2) (by rw [gi_drop]; exact b3) (by omega)).mono ?_
      rintro e w5 ⟨rfl, m, rfl⟩
      rw [rd16_drop]
      exact hK pay0 _ ((stp_none _).drewN _)
    · exact sd_pure (.inl rfl) (fun _ _ => by kernel_rfl) rfl (fun _ => rfl) rfl
    · exact sd_storeN 101 (new := fun yy => #[.bool (bits .and .u8 (gi zs 0) 32 != 0), .int .u8 (bits .and .u8 (gi zs 0) 31), .int .u8 (gi zs 1), .int .u16 (rd16 zs 2)]) (.inl rfl) (fun _ => by simp [Value.oneCell']) rfl (fun _ => rfl) (fun _ => rfl) (fun _ => rfl) (fun _ => rfl) (fun _ => by kernel_rfl) (fun _ => rfl) (fun _ => rfl) (fun _ => rfl)
    · exact sd_pure (.inl rfl) (fun _ _ => by kernel_rfl) rfl (fun _ => rfl) rfl
  · intro yy a17 w17_ hE17 hS17
    have hE18 := hE17.keep (l' := [(2, .pointer (some ⟨g101, 0, none⟩)), (3, .bool true)]) ⟨hE17.get 2 rfl, hE17.get 3 rfl, trivial⟩
    have hS18 := hS17.keep (L' := [(101, some (ckB (g101) 36 #[.bool (bits .and .u8 (gi zs 0) 32 != 0), .int .u8 (bits .and .u8 (gi zs 0) 31), .int .u8 (gi zs 1), .int .u16 (rd16 zs 2)]))]) ⟨rfl, trivial⟩
    clear hE17 hS17
    clear yy
    refine hK16 _ _ ?_
    clear hK16
    refine wp_ret ?_
    try simp only [Exit.then]
    refine bodyPost_ret (results_cell_tmp1 Tryz.results35 _ _ _ 36 _ _ (hE18.get 2 rfl) (hS18.blk 101 rfl) Tryz.underlying36 rfl (by kernel_rfl) (hE18.get 3 rfl)) hE18.defers ⟨rfl, hS18.below⟩

end Go.Proofs.YtmmfpgoodfgkbaaGreat
