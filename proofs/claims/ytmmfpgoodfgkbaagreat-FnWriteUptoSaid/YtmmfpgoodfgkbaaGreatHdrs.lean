/-
  THE WALKS of the headers of packets. Condition: what the packet's slices read as; fewer than 2^31 elements; sums below 2^40.
-/
import Derived.Test.YtmmfpgoodfgkbaaGreatSizes
import Derived.Test.YtmmfpgoodfgkbaaGreatMSep
namespace Go.Proofs.YtmmfpgoodfgkbaaGreat
open Go Go.RowKit
set_option linter.unusedVariables false

/-- The header of a packet of n bytes. -/
def hdrA (c t : Int) (n : Nat) : Array Value := #[.bool false, .int .u8 c, .int .u8 t, .int .u16 (((n : Int) / 4 - 1) % 65536)]
theorem same_below {P : Program} {f : FuncId} {args : Array Value} {w : World} {E : Ending} (h : Calls P f args w fun e w' => e = E ∧ w' = w) : Calls P f args w fun e w' => e = E ∧ Below w.heap.size w w' :=
  h.mono fun _ _ h => ⟨h.1, h.2 ▸ Below.refl _ _⟩

set_option maxHeartbeats 2000000 in
set_option maxRecDepth 100000 in
theorem nackhdr_any (g : Nat) (w : World) (T : TypeId) (A : Option Addr) (n : Nat) (c : Nat) (x y : Value) (hb : Blk w g T #[x, y, .slice A n c]) (hn : n ≤ 2147483647) :
    Calls Tryz.prog 144 #[.pointer (some ⟨g, 0, none⟩)] w fun e w' => e = .returned (.agg (hdrA (1) 205 (12 + 4 * n))) ∧ Below w.heap.size w w' := by
  obtain ⟨N, hN⟩ : ∃ N, N = 12 + 4 * n := ⟨_, rfl⟩
  have hN4 : N ≤ 2199023255552 := by omega
  rw [← hN]
  have HN := Lib.hid hN
  clear hN
  refine calls_of_wp Tryz.func144 rfl ?_
  rw [Tryz.ntmps144]
  have hE0 : Env 9 [(0, .pointer (some ⟨g, 0, none⟩))] ⟨#[.pointer (some ⟨g, 0, none⟩)] ++ Array.replicate (9 - (#[.pointer (some ⟨g, 0, none⟩)] : Array Value).size) undef, []⟩ := Env.enter _ (by simp) ⟨by simp, trivial⟩
  generalize (⟨#[.pointer (some ⟨g, 0, none⟩)] ++ Array.replicate (9 - (#[.pointer (some ⟨g, 0, none⟩)] : Array Value).size) undef, []⟩ : Act) = a0 at hE0 ⊢
  have hS0 : Stp (fun _ => False) w w (lookM []) := Stp.refl w
  refine wp_seq_k fun K1 hK1 => ?_
  refine wp_region_lit ?_
  refine seq_new hE0 hS0 2 101 (fun g => .pointer (some ⟨g, 0, none⟩)) 239 #[.bool false, .int .u8 0, .int .u8 0, .int .u16 0] (fun w => by kernel_rfl) rfl rfl rfl rfl rfl fun a2 u1 g101 hE2 hS2 => ?_
  clear hE0 a0
  clear hS0
  refine wpList_nil ?_
  refine hK1 _ _ ?_
  clear hK1
  refine wp_seq_k fun K3 hK3 => ?_
  refine wp_region_lit ?_
  refine seq_pure hE2 3 (.pointer (some ⟨g, 0, none⟩)) (fun w => by kernel_rfl) rfl rfl rfl rfl rfl fun a4 hE4 => ?_
  clear hE2 a2
  refine wpList_val hE4 4 rfl rfl fun K hK => ?_
  have e3 := hE4.get 3 rfl
  go_simp
  refine (same_below (nacksize_any g u1 A n c T x y (hb.below (hS2.old _ (Nat.le_refl _) (fun _ h => h.elim)) hb.lt) hn)).mono ?_
  rintro e w5 ⟨rfl, hB5⟩
  rw [← HN.out]
  refine hK _ _ fun a5 hE5 => ?_
  clear hK K e3
  clear hE4 a4
  have hS6 := hS2.still hB5
  clear hB5 hS2
  refine wpList_val hE5 5 rfl rfl fun K hK => ?_
  have e4 := hE5.get 4 rfl
  go_simp
  rw [show IntKind.i64.wrap ((N : Int) / 4) = (N : Int) / 4 from IntWalk.i64_in _ (by omega)]
  refine hK _ _ fun a7 hE7 => ?_
  clear hK K e4
  clear hE5 a5
  refine wpList_val hE7 6 rfl rfl fun K hK => ?_
  have e5 := hE7.get 5 rfl
  go_simp
  rw [show IntKind.i64.wrap ((N : Int) / 4 - 1) = (N : Int) / 4 - 1 from IntWalk.i64_in _ (by omega)]
  refine hK _ _ fun a8 hE8 => ?_
  clear hK K e5
  clear hE7 a7
  refine wpList_val hE8 7 rfl rfl fun K hK => ?_
  have e6 := hE8.get 6 rfl
  go_simp
  rw [IntKind.wrap_u16]
  refine hK _ _ fun a9 hE9 => ?_
  clear hK K e6
  clear hE8 a8
  refine seq_pure hE9 8 (.agg #[.bool false, .int .u8 1, .int .u8 205, .int .u16 (((N : Int) / 4 - 1) % 65536)]) (fun w => by kernel_rfl) rfl rfl rfl rfl rfl fun a10 hE10 => ?_
  clear hE9 a9
  refine seq_storeN hE10 hS6 101 (new := #[.bool false, .int .u8 1, .int .u8 205, .int .u16 (((N : Int) / 4 - 1) % 65536)]) (by simp [Value.oneCell']) rfl rfl rfl rfl rfl (by kernel_rfl) rfl rfl rfl fun u2 hS11 => ?_
  clear hS6
  clear w5
  refine wpList_nil ?_
  refine hK3 _ _ ?_
  clear hK3
  refine wp_ret ?_
  refine bodyPost_ret (results_cell_row Tryz.results144 _ _ _ 239 _ (0, 0) _ (by simp [hE10.get 2 rfl]) (hS11.blk 101 rfl) Tryz.underlying239 rfl rfl) hE10.defers ⟨rfl, hS11.below⟩

set_option maxHeartbeats 2000000 in
set_option maxRecDepth 100000 in
theorem slihdr_any (g : Nat) (w : World) (T : TypeId) (A : Option Addr) (n : Nat) (c : Nat) (x y : Value) (hb : Blk w g T #[x, y, .slice A n c]) (hn : n ≤ 2147483647) :
    Calls Tryz.prog 170 #[.pointer (some ⟨g, 0, none⟩)] w fun e w' => e = .returned (.agg (hdrA (2) 206 (12 + 4 * n))) ∧ Below w.heap.size w w' := by
  obtain ⟨N, hN⟩ : ∃ N, N = 12 + 4 * n := ⟨_, rfl⟩
  have hN4 : N ≤ 2199023255552 := by omega
  rw [← hN]
  have HN := Lib.hid hN
  clear hN
  refine calls_of_wp Tryz.func170 rfl ?_
  rw [Tryz.ntmps170]
  have hE0 : Env 9 [(0, .pointer (some ⟨g, 0, none⟩))] ⟨#[.pointer (some ⟨g, 0, none⟩)] ++ Array.replicate (9 - (#[.pointer (some ⟨g, 0, none⟩)] : Array Value).size) undef, []⟩ := Env.enter _ (by simp) ⟨by simp, trivial⟩
  generalize (⟨#[.pointer (some ⟨g, 0, none⟩)] ++ Array.replicate (9 - (#[.pointer (some ⟨g, 0, none⟩)] : Array Value).size) undef, []⟩ : Act) = a0 at hE0 ⊢
  have hS0 : Stp (fun _ => False) w w (lookM []) := Stp.refl w
  refine wp_seq_k fun K1 hK1 => ?_
  refine wp_region_lit ?_
  refine seq_new hE0 hS0 2 101 (fun g => .pointer (some ⟨g, 0, none⟩)) 239 #[.bool false, .int .u8 0, .int .u8 0, .int .u16 0] (fun w => by kernel_rfl) rfl rfl rfl rfl rfl fun a2 u1 g101 hE2 hS2 => ?_
  clear hE0 a0
  clear hS0
  refine wpList_nil ?_
  refine hK1 _ _ ?_
  clear hK1
  refine wp_seq_k fun K3 hK3 => ?_
  refine wp_region_lit ?_
  refine seq_pure hE2 3 (.pointer (some ⟨g, 0, none⟩)) (fun w => by kernel_rfl) rfl rfl rfl rfl rfl fun a4 hE4 => ?_
  clear hE2 a2
  refine wpList_val hE4 4 rfl rfl fun K hK => ?_
  have e3 := hE4.get 3 rfl
  go_simp
  refine (same_below (slisize_any g u1 A n c T x y (hb.below (hS2.old _ (Nat.le_refl _) (fun _ h => h.elim)) hb.lt) hn)).mono ?_
  rintro e w5 ⟨rfl, hB5⟩
  rw [← HN.out]
  refine hK _ _ fun a5 hE5 => ?_
  clear hK K e3
  clear hE4 a4
  have hS6 := hS2.still hB5
  clear hB5 hS2
  refine wpList_val hE5 5 rfl rfl fun K hK => ?_
  have e4 := hE5.get 4 rfl
  go_simp
  rw [show IntKind.i64.wrap ((N : Int) / 4) = (N : Int) / 4 from IntWalk.i64_in _ (by omega)]
  refine hK _ _ fun a7 hE7 => ?_
  clear hK K e4
  clear hE5 a5
  refine wpList_val hE7 6 rfl rfl fun K hK => ?_
  have e5 := hE7.get 5 rfl
  go_simp
  rw [show IntKind.i64.wrap ((N : Int) / 4 - 1) = (N : Int) / 4 - 1 from IntWalk.i64_in _ (by omega)]
  refine hK _ _ fun a8 hE8 => ?_
  clear hK K e5
  clear hE7 a7
  refine wpList_val hE8 7 rfl rfl fun K hK => ?_
  have e6 := hE8.get 6 rfl
  go_simp
  rw [IntKind.wrap_u16]
  refine hK _ _ fun a9 hE9 => ?_
  clear hK K e6
  clear hE8 a8
  refine seq_pure hE9 8 (.agg #[.bool false, .int .u8 2, .int .u8 206, .int .u16 (((N : Int) / 4 - 1) % 65536)]) (fun w => by kernel_rfl) rfl rfl rfl rfl rfl fun a10 hE10 => ?_
  clear hE9 a9
  refine seq_storeN hE10 hS6 101 (new := #[.bool false, .int .u8 2, .int .u8 206, .int .u16 (((N : Int) / 4 - 1) % 65536)]) (by simp [Value.oneCell']) rfl rfl rfl rfl rfl (by kernel_rfl) rfl rfl rfl fun u2 hS11 => ?_
  clear hS6
  clear w5
  refine wpList_nil ?_
  refine hK3 _ _ ?_
  clear hK3
  refine wp_ret ?_
  refine bodyPost_ret (results_cell_row Tryz.results170 _ _ _ 239 _ (0, 0) _ (by simp [hE10.get 2 rfl]) (hS11.blk 101 rfl) Tryz.underlying239 rfl rfl) hE10.defers ⟨rfl, hS11.below⟩

set_option maxHeartbeats 2000000 in
set_option maxRecDepth 100000 in
theorem firhdr_any (g : Nat) (w : World) (T : TypeId) (A : Option Addr) (n : Nat) (c : Nat) (x y : Value) (hb : Blk w g T #[x, y, .slice A n c]) (hn : n ≤ 2147483647) :
    Calls Tryz.prog 175 #[.pointer (some ⟨g, 0, none⟩)] w fun e w' => e = .returned (.agg (hdrA (4) 206 (12 + 8 * n))) ∧ Below w.heap.size w w' := by
  obtain ⟨N, hN⟩ : ∃ N, N = 12 + 8 * n := ⟨_, rfl⟩
  have hN4 : N ≤ 2199023255552 := by omega
  rw [← hN]
  have HN := Lib.hid hN
  clear hN
  refine calls_of_wp Tryz.func175 rfl ?_
  rw [Tryz.ntmps175]
  have hE0 : Env 9 [(0, .pointer (some ⟨g, 0, none⟩))] ⟨#[.pointer (some ⟨g, 0, none⟩)] ++ Array.replicate (9 - (#[.pointer (some ⟨g, 0, none⟩)] : Array Value).size) undef, []⟩ := Env.enter _ (by simp) ⟨by simp, trivial⟩
  generalize (⟨#[.pointer (some ⟨g, 0, none⟩)] ++ Array.replicate (9 - (#[.pointer (some ⟨g, 0, none⟩)] : Array Value).size) undef, []⟩ : Act) = a0 at hE0 ⊢
  have hS0 : Stp (fun _ => False) w w (lookM []) := Stp.refl w
  refine wp_seq_k fun K1 hK1 => ?_
  refine wp_region_lit ?_
  refine seq_new hE0 hS0 2 101 (fun g => .pointer (some ⟨g, 0, none⟩)) 239 #[.bool false, .int .u8 0, .int .u8 0, .int .u16 0] (fun w => by kernel_rfl) rfl rfl rfl rfl rfl fun a2 u1 g101 hE2 hS2 => ?_
  clear hE0 a0
  clear hS0
  refine wpList_nil ?_
  refine hK1 _ _ ?_
  clear hK1
  refine wp_seq_k fun K3 hK3 => ?_
  refine wp_region_lit ?_
  refine seq_pure hE2 3 (.pointer (some ⟨g, 0, none⟩)) (fun w => by kernel_rfl) rfl rfl rfl rfl rfl fun a4 hE4 => ?_
  clear hE2 a2
  refine wpList_val hE4 4 rfl rfl fun K hK => ?_
  have e3 := hE4.get 3 rfl
  go_simp
  refine (same_below (firsize_any g u1 A n c T x y (hb.below (hS2.old _ (Nat.le_refl _) (fun _ h => h.elim)) hb.lt) hn)).mono ?_
  rintro e w5 ⟨rfl, hB5⟩
  rw [← HN.out]
  refine hK _ _ fun a5 hE5 => ?_
  clear hK K e3
  clear hE4 a4
  have hS6 := hS2.still hB5
  clear hB5 hS2
  refine wpList_val hE5 5 rfl rfl fun K hK => ?_
  have e4 := hE5.get 4 rfl
  go_simp
  rw [show IntKind.i64.wrap ((N : Int) / 4) = (N : Int) / 4 from IntWalk.i64_in _ (by omega)]
  refine hK _ _ fun a7 hE7 => ?_
  clear hK K e4
  clear hE5 a5
  refine wpList_val hE7 6 rfl rfl fun K hK => ?_
  have e5 := hE7.get 5 rfl
  go_simp
  rw [show IntKind.i64.wrap ((N : Int) / 4 - 1) = (N : Int) / 4 - 1 from IntWalk.i64_in _ (by omega)]
  refine hK _ _ fun a8 hE8 => ?_
  clear hK K e5
  clear hE7 a7
  refine wpList_val hE8 7 rfl rfl fun K hK => ?_
  have e6 := hE8.get 6 rfl
  go_simp
  rw [IntKind.wrap_u16]
  refine hK _ _ fun a9 hE9 => ?_
  clear hK K e6
  clear hE8 a8
  refine seq_pure hE9 8 (.agg #[.bool false, .int .u8 4, .int .u8 206, .int .u16 (((N : Int) / 4 - 1) % 65536)]) (fun w => by kernel_rfl) rfl rfl rfl rfl rfl fun a10 hE10 => ?_
  clear hE9 a9
  refine seq_storeN hE10 hS6 101 (new := #[.bool false, .int .u8 4, .int .u8 206, .int .u16 (((N : Int) / 4 - 1) % 65536)]) (by simp [Value.oneCell']) rfl rfl rfl rfl rfl (by kernel_rfl) rfl rfl rfl fun u2 hS11 => ?_
  clear hS6
  clear w5
  refine wpList_nil ?_
  refine hK3 _ _ ?_
  clear hK3
  refine wp_ret ?_
  refine bodyPost_ret (results_cell_row Tryz.results175 _ _ _ 239 _ (0, 0) _ (by simp [hE10.get 2 rfl]) (hS11.blk 101 rfl) Tryz.underlying239 rfl rfl) hE10.defers ⟨rfl, hS11.below⟩

set_option maxHeartbeats 2000000 in
set_option maxRecDepth 100000 in
theorem rrrhdr_any (g : Nat) (w : World) (T : TypeId) (x y : Value) (hb : Blk w g T #[x, y]) :
    Calls Tryz.prog 149 #[.pointer (some ⟨g, 0, none⟩)] w fun e w' => e = .returned (.agg (hdrA (5) 205 (12))) ∧ Below w.heap.size w w' := by
  refine calls_of_wp Tryz.func149 rfl ?_
  rw [Tryz.ntmps149]
  have hE0 : Env 4 [(0, .pointer (some ⟨g, 0, none⟩))] ⟨#[.pointer (some ⟨g, 0, none⟩)] ++ Array.replicate (4 - (#[.pointer (some ⟨g, 0, none⟩)] : Array Value).size) undef, []⟩ := Env.enter _ (by simp) ⟨by simp, trivial⟩
  generalize (⟨#[.pointer (some ⟨g, 0, none⟩)] ++ Array.replicate (4 - (#[.pointer (some ⟨g, 0, none⟩)] : Array Value).size) undef, []⟩ : Act) = a0 at hE0 ⊢
  have hS0 : Stp (fun _ => False) w w (lookM []) := Stp.refl w
  refine wp_seq_k fun K1 hK1 => ?_
  refine wp_region_lit ?_
  refine seq_new hE0 hS0 2 101 (fun g => .pointer (some ⟨g, 0, none⟩)) 239 #[.bool false, .int .u8 0, .int .u8 0, .int .u16 0] (fun w => by kernel_rfl) rfl rfl rfl rfl rfl fun a2 u1 g101 hE2 hS2 => ?_
  clear hE0 a0
  clear hS0
  refine wpList_nil ?_
  refine hK1 _ _ ?_
  clear hK1
  refine wp_seq_k fun K3 hK3 => ?_
  refine wp_region_lit ?_
  refine seq_pure hE2 3 (.agg #[.bool false, .int .u8 5, .int .u8 205, .int .u16 2]) (fun w => by kernel_rfl) rfl rfl rfl rfl rfl fun a4 hE4 => ?_
  clear hE2 a2
  refine seq_storeN hE4 hS2 101 (new := #[.bool false, .int .u8 5, .int .u8 205, .int .u16 2]) (by simp [Value.oneCell']) rfl rfl rfl rfl rfl (by kernel_rfl) rfl rfl rfl fun u2 hS5 => ?_
  clear hS2
  clear u1
  refine wpList_nil ?_
  refine hK3 _ _ ?_
  clear hK3
  refine wp_ret ?_
  refine bodyPost_ret (results_cell_row Tryz.results149 _ _ _ 239 _ (0, 0) _ (by simp [hE4.get 2 rfl]) (hS5.blk 101 rfl) Tryz.underlying239 rfl rfl) hE4.defers ⟨rfl, hS5.below⟩

set_option maxHeartbeats 2000000 in
set_option maxRecDepth 100000 in
theorem cchdr_any (g : Nat) (w : World) (T : TypeId) (A : Option Addr) (l : List Blo) (c : Nat) (x y : Value) (hb : Blk w g T #[x, .slice A (l.length : Nat) c, y]) (hr : Reads w w.heap.size 3 A l.length (l.flatMap Blo.cells)) (hn : l.length ≤ 2147483647) (hm : ∀ x ∈ l, x.mets.l.length ≤ 2147483647) (hsum : blosLen l ≤ 1099511627776) :
    Calls Tryz.prog 155 #[.pointer (some ⟨g, 0, none⟩)] w fun e w' => e = .returned (.agg (hdrA (11) 205 (12 + blosLen l))) ∧ Below w.heap.size w w' := by
  obtain ⟨N, hN⟩ : ∃ N, N = 12 + blosLen l := ⟨_, rfl⟩
  have hN4 : N ≤ 2199023255552 := by omega
  rw [← hN]
  have HN := Lib.hid hN
  clear hN
  refine calls_of_wp Tryz.func155 rfl ?_
  rw [Tryz.ntmps155]
  have hE0 : Env 9 [(0, .pointer (some ⟨g, 0, none⟩))] ⟨#[.pointer (some ⟨g, 0, none⟩)] ++ Array.replicate (9 - (#[.pointer (some ⟨g, 0, none⟩)] : Array Value).size) undef, []⟩ := Env.enter _ (by simp) ⟨by simp, trivial⟩
  generalize (⟨#[.pointer (some ⟨g, 0, none⟩)] ++ Array.replicate (9 - (#[.pointer (some ⟨g, 0, none⟩)] : Array Value).size) undef, []⟩ : Act) = a0 at hE0 ⊢
  have hS0 : Stp (fun _ => False) w w (lookM []) := Stp.refl w
  refine wp_seq_k fun K1 hK1 => ?_
  refine wp_region_lit ?_
  refine seq_new hE0 hS0 2 101 (fun g => .pointer (some ⟨g, 0, none⟩)) 239 #[.bool false, .int .u8 0, .int .u8 0, .int .u16 0] (fun w => by kernel_rfl) rfl rfl rfl rfl rfl fun a2 u1 g101 hE2 hS2 => ?_
  clear hE0 a0
  clear hS0
  refine wpList_nil ?_
  refine hK1 _ _ ?_
  clear hK1
  refine wp_seq_k fun K3 hK3 => ?_
  refine wp_region_lit ?_
  refine seq_pure hE2 3 (.pointer (some ⟨g, 0, none⟩)) (fun w => by kernel_rfl) rfl rfl rfl rfl rfl fun a4 hE4 => ?_
  clear hE2 a2
  refine wpList_val hE4 4 rfl rfl fun K hK => ?_
  have e3 := hE4.get 3 rfl
  go_simp
  refine (ccsize_any g u1 A l c T x y (hb.below (hS2.old _ (Nat.le_refl _) (fun _ h => h.elim)) hb.lt) ((hr.below (hS2.old _ (Nat.le_refl _) (fun _ h => h.elim))).more hS2.size) hn hm hsum).mono ?_
  rintro e w5 ⟨rfl, hB5⟩
  rw [← HN.out]
  refine hK _ _ fun a5 hE5 => ?_
  clear hK K e3
  clear hE4 a4
  have hS6 := hS2.still hB5
  clear hB5 hS2
  refine wpList_val hE5 5 rfl rfl fun K hK => ?_
  have e4 := hE5.get 4 rfl
  go_simp
  rw [show IntKind.i64.wrap ((N : Int) / 4) = (N : Int) / 4 from IntWalk.i64_in _ (by omega)]
  refine hK _ _ fun a7 hE7 => ?_
  clear hK K e4
  clear hE5 a5
  refine wpList_val hE7 6 rfl rfl fun K hK => ?_
  have e5 := hE7.get 5 rfl
  go_simp
  rw [show IntKind.i64.wrap ((N : Int) / 4 - 1) = (N : Int) / 4 - 1 from IntWalk.i64_in _ (by omega)]
  refine hK _ _ fun a8 hE8 => ?_
  clear hK K e5
  clear hE7 a7
  refine wpList_val hE8 7 rfl rfl fun K hK => ?_
  have e6 := hE8.get 6 rfl
  go_simp
  rw [IntKind.wrap_u16]
  refine hK _ _ fun a9 hE9 => ?_
  clear hK K e6
  clear hE8 a8
  refine seq_pure hE9 8 (.agg #[.bool false, .int .u8 11, .int .u8 205, .int .u16 (((N : Int) / 4 - 1) % 65536)]) (fun w => by kernel_rfl) rfl rfl rfl rfl rfl fun a10 hE10 => ?_
  clear hE9 a9
  refine seq_storeN hE10 hS6 101 (new := #[.bool false, .int .u8 11, .int .u8 205, .int .u16 (((N : Int) / 4 - 1) % 65536)]) (by simp [Value.oneCell']) rfl rfl rfl rfl rfl (by kernel_rfl) rfl rfl rfl fun u2 hS11 => ?_
  clear hS6
  clear w5
  refine wpList_nil ?_
  refine hK3 _ _ ?_
  clear hK3
  refine wp_ret ?_
  refine bodyPost_ret (results_cell_row Tryz.results155 _ _ _ 239 _ (0, 0) _ (by simp [hE10.get 2 rfl]) (hS11.blk 101 rfl) Tryz.underlying239 rfl rfl) hE10.defers ⟨rfl, hS11.below⟩

set_option maxHeartbeats 2000000 in
set_option maxRecDepth 100000 in
theorem srhdr_any (g : Nat) (w : World) (T : TypeId) (A A2 : Option Addr) (l : List Rep) (c m c2 : Nat) (x0 x1 x2 x3 x4 : Value) (hb : Blk w g T #[x0, x1, x2, x3, x4, .slice A (l.length : Nat) c, .slice A2 m c2]) (hr : Reads w w.heap.size 7 A l.length (repsC l)) (hn : l.length ≤ 2147483647) (hm : m ≤ 2147483647) :
    Calls Tryz.prog 105 #[.pointer (some ⟨g, 0, none⟩)] w fun e w' => e = .returned (.agg (hdrA ((l.length : Int) % 256) 200 (28 + 24 * l.length + m + pad4 m))) ∧ Below w.heap.size w w' := by
  obtain ⟨N, hN⟩ : ∃ N, N = 28 + 24 * l.length + m + pad4 m := ⟨_, rfl⟩
  have hN4 : N ≤ 2199023255552 := by have := pad4_le m; omega
  rw [← hN]
  have HN := Lib.hid hN
  clear hN
  refine calls_of_wp Tryz.func105 rfl ?_
  rw [Tryz.ntmps105]
  have hE0 : Env 15 [(0, .pointer (some ⟨g, 0, none⟩))] ⟨#[.pointer (some ⟨g, 0, none⟩)] ++ Array.replicate (15 - (#[.pointer (some ⟨g, 0, none⟩)] : Array Value).size) undef, []⟩ := Env.enter _ (by simp) ⟨by simp, trivial⟩
  generalize (⟨#[.pointer (some ⟨g, 0, none⟩)] ++ Array.replicate (15 - (#[.pointer (some ⟨g, 0, none⟩)] : Array Value).size) undef, []⟩ : Act) = a0 at hE0 ⊢
  have hS0 : Stp (fun _ => False) w w (lookM []) := Stp.refl w
  refine wp_seq_k fun K1 hK1 => ?_
  refine wp_region_lit ?_
  refine seq_new hE0 hS0 2 101 (fun g => .pointer (some ⟨g, 0, none⟩)) 239 #[.bool false, .int .u8 0, .int .u8 0, .int .u16 0] (fun w => by kernel_rfl) rfl rfl rfl rfl rfl fun a2 u1 g101 hE2 hS2 => ?_
  clear hE0 a0
  clear hS0
  refine wpList_nil ?_
  refine hK1 _ _ ?_
  clear hK1
  refine wp_seq_k fun K3 hK3 => ?_
  refine wp_sep (l0 := [(0, .pointer (some ⟨g, 0, none⟩)), (2, .pointer (some ⟨g101, 0, none⟩))]) (L0 := [(101, some (ckB (g101) 239 #[.bool false, .int .u8 0, .int .u8 0, .int .u16 0]))]) (hE2.keep (l' := [(0, .pointer (some ⟨g, 0, none⟩)), (2, .pointer (some ⟨g101, 0, none⟩))]) ⟨hE2.get 0 rfl, hE2.get 2 rfl, trivial⟩) (hS2.keep (L' := [(101, some (ckB (g101) 239 #[.bool false, .int .u8 0, .int .u8 0, .int .u16 0]))]) ⟨rfl, trivial⟩)
    [fun _ => .pointer (some ⟨g, 0, none⟩),
      fun _ => .pointer (some ⟨g, 0, none⟩),
      fun _ => .pointer (some ⟨g, 5, none⟩),
      fun _ => .slice A (l.length : Nat) c,
      fun _ => .int .i64 (l.length : Nat),
      fun _ => .int .u8 (((l.length : Nat) : Int) % 256),
      fun _ => .pointer (some ⟨g, 0, none⟩),
      fun _ => .int .i64 (N : Nat),
      fun _ => .int .i64 ((N : Int) / 4),
      fun _ => .int .i64 ((N : Int) / 4 - 1),
      fun _ => .int .u16 (((N : Int) / 4 - 1) % 65536),
      fun _ => .agg #[.bool false, .int .u8 (((l.length : Nat) : Int) % 256), .int .u8 200, .int .u16 (((N : Int) / 4 - 1) % 65536)],
      fun _ => undef]
    [[], [], [], [], [], [], [], [], [], [], [], [], [(101, fun _ => some (ckB (g101) 239 #[.bool false, .int .u8 (((l.length : Nat) : Int) % 256), .int .u8 200, .int .u16 (((N : Int) / 4 - 1) % 65536)]))]]
    [[], [], [], [], [], [], [], [], [], [], [], [], []]
    (by kernel_rfl) (by kernel_rfl) (by kernel_rfl) rfl ?_ ?_ ?_
  · exact ⟨fun _ _ _ => ⟨rfl, rfl⟩,
      fun _ _ _ => ⟨rfl, rfl⟩,
      fun _ _ _ => ⟨rfl, rfl⟩,
      fun _ _ _ => ⟨rfl, rfl⟩,
      fun _ _ _ => ⟨rfl, rfl⟩,
      fun _ _ _ => ⟨rfl, rfl⟩,
      fun _ _ _ => ⟨rfl, rfl⟩,
      fun _ _ _ => ⟨rfl, rfl⟩,
      fun _ _ _ => ⟨rfl, rfl⟩,
      fun _ _ _ => ⟨rfl, rfl⟩,
      fun _ _ _ => ⟨rfl, rfl⟩,
      fun _ _ _ => ⟨rfl, rfl⟩,
      fun _ _ _ => ⟨rfl, rfl⟩, trivial⟩
  · refine ⟨?_, ?_, ?_, ?_, ?_, ?_, ?_, ?_, ?_, ?_, ?_, ?_, ?_, trivial⟩
    · exact sd_pure (.inl rfl) (fun _ _ => by kernel_rfl) rfl (fun _ => rfl) rfl
    · exact sd_pure (.inl rfl) (fun _ _ => by kernel_rfl) rfl (fun _ => rfl) rfl
    · exact sd_pure (.inl rfl) (fun _ _ => by kernel_rfl) rfl (fun _ => rfl) rfl
    · refine sduty_runs (.inl rfl) fun yy a w4 hv K hK => ?_
      have e5 : a.tmps[5]? = some (.pointer (some ⟨g, 5, none⟩)) := hv.get 5 rfl rfl
      have c3 : w4.cell? ⟨g, 5, none⟩ = some (.slice A (l.length : Nat) c) := (hb.below (hv.mem.old _ (Nat.le_refl _) (fun _ h => h.elim)) hb.lt).cell 5
      go_simp
      exact hK pay0 _ (stp_none _)
    · refine sduty_runs (.inl rfl) fun yy a w4 hv K hK => ?_
      have e6 : a.tmps[6]? = some (.slice A (l.length : Nat) c) := hv.get 6 rfl rfl
      go_simp
      exact hK pay0 _ (stp_none _)
    · refine sduty_runs (.inl rfl) fun yy a w4 hv K hK => ?_
      have e7 : a.tmps[7]? = some (.int .i64 (l.length : Nat)) := hv.get 7 rfl rfl
      go_simp
      rw [IntKind.wrap_u8]
      exact hK pay0 _ (stp_none _)
    · exact sd_pure (.inl rfl) (fun _ _ => by kernel_rfl) rfl (fun _ => rfl) rfl
    · refine sduty_runs (.inl rfl) fun yy a w4 hv K hK => ?_
      have e9 : a.tmps[9]? = some (.pointer (some ⟨g, 0, none⟩)) := hv.get 9 rfl rfl
      go_simp
      refine (srsize_any g w4 A A2 l c m c2 T x0 x1 x2 x3 x4 (hb.below (hv.mem.old _ (Nat.le_refl _) (fun _ h => h.elim)) hb.lt) ((hr.below (hv.mem.old _ (Nat.le_refl _) (fun _ h => h.elim))).more hv.mem.size) hn hm).mono ?_
      rintro e w5 ⟨rfl, hB⟩
      rw [← HN.out]
      exact hK pay0 _ (stp_of_below hB)
    · refine sduty_runs (.inl rfl) fun yy a w4 hv K hK => ?_
      have e10 : a.tmps[10]? = some (.int .i64 (N : Nat)) := hv.get 10 rfl rfl
      go_simp
      rw [show IntKind.i64.wrap ((N : Int) / 4) = (N : Int) / 4 from IntWalk.i64_in _ (by omega)]
      exact hK pay0 _ (stp_none _)
    · refine sduty_runs (.inl rfl) fun yy a w4 hv K hK => ?_
      have e11 : a.tmps[11]? = some (.int .i64 ((N : Int) / 4)) := hv.get 11 rfl rfl
      go_simp
      rw [show IntKind.i64.wrap ((N : Int) / 4 - 1) = (N : Int) / 4 - 1 from IntWalk.i64_in _ (by omega)]
      exact hK pay0 _ (stp_none _)
    · refine sduty_runs (.inl rfl) fun yy a w4 hv K hK => ?_
      have e12 : a.tmps[12]? = some (.int .i64 ((N : Int) / 4 - 1)) := hv.get 12 rfl rfl
      go_simp
      rw [IntKind.wrap_u16]
      exact hK pay0 _ (stp_none _)
    · exact sd_pure (.inl rfl) (fun _ _ => by kernel_rfl) rfl (fun _ => rfl) rfl
    · exact sd_storeN 101 (new := fun yy => #[.bool false, .int .u8 (((l.length : Nat) : Int) % 256), .int .u8 200, .int .u16 (((N : Int) / 4 - 1) % 65536)]) (.inl rfl) (fun _ => by simp [Value.oneCell']) rfl (fun _ => rfl) (fun _ => rfl) (fun _ => rfl) (fun _ => rfl) (fun _ => by kernel_rfl) (fun _ => rfl) (fun _ => rfl) (fun _ => rfl)
  · intro yy a4 w4_ hE4 hS4
    have hE5 := hE4.keep (l' := [(2, .pointer (some ⟨g101, 0, none⟩))]) ⟨hE4.get 2 rfl, trivial⟩
    have hS5 := hS4.keep (L' := [(101, some (ckB (g101) 239 #[.bool false, .int .u8 (((l.length : Nat) : Int) % 256), .int .u8 200, .int .u16 (((N : Int) / 4 - 1) % 65536)]))]) ⟨rfl, trivial⟩
    clear hE4 hS4
    clear yy
    refine hK3 _ _ ?_
    clear hK3
    refine wp_ret ?_
    refine bodyPost_ret (results_cell_row Tryz.results105 _ _ _ 239 _ (0, 0) _ (by simp [hE5.get 2 rfl]) (hS5.blk 101 rfl) Tryz.underlying239 rfl rfl) hE5.defers ⟨rfl, hS5.below⟩

set_option maxHeartbeats 2000000 in
set_option maxRecDepth 100000 in
theorem rrhdr_any (g : Nat) (w : World) (T : TypeId) (A A2 : Option Addr) (l : List Rep) (c m c2 : Nat) (x0 : Value) (hb : Blk w g T #[x0, .slice A (l.length : Nat) c, .slice A2 m c2]) (hr : Reads w w.heap.size 7 A l.length (repsC l)) (hn : l.length ≤ 2147483647) (hm : m ≤ 2147483647) :
    Calls Tryz.prog 119 #[.pointer (some ⟨g, 0, none⟩)] w fun e w' => e = .returned (.agg (hdrA ((l.length : Int) % 256) 201 (8 + 24 * l.length + m + pad4 m))) ∧ Below w.heap.size w w' := by
  obtain ⟨N, hN⟩ : ∃ N, N = 8 + 24 * l.length + m + pad4 m := ⟨_, rfl⟩
  have hN4 : N ≤ 2199023255552 := by have := pad4_le m; omega
  rw [← hN]
  have HN := Lib.hid hN
  clear hN
  refine calls_of_wp Tryz.func119 rfl ?_
  rw [Tryz.ntmps119]
  have hE0 : Env 15 [(0, .pointer (some ⟨g, 0, none⟩))] ⟨#[.pointer (some ⟨g, 0, none⟩)] ++ Array.replicate (15 - (#[.pointer (some ⟨g, 0, none⟩)] : Array Value).size) undef, []⟩ := Env.enter _ (by simp) ⟨by simp, trivial⟩
  generalize (⟨#[.pointer (some ⟨g, 0, none⟩)] ++ Array.replicate (15 - (#[.pointer (some ⟨g, 0, none⟩)] : Array Value).size) undef, []⟩ : Act) = a0 at hE0 ⊢
  have hS0 : Stp (fun _ => False) w w (lookM []) := Stp.refl w
  refine wp_seq_k fun K1 hK1 => ?_
  refine wp_region_lit ?_
  refine seq_new hE0 hS0 2 101 (fun g => .pointer (some ⟨g, 0, none⟩)) 239 #[.bool false, .int .u8 0, .int .u8 0, .int .u16 0] (fun w => by kernel_rfl) rfl rfl rfl rfl rfl fun a2 u1 g101 hE2 hS2 => ?_
  clear hE0 a0
  clear hS0
  refine wpList_nil ?_
  refine hK1 _ _ ?_
  clear hK1
  refine wp_seq_k fun K3 hK3 => ?_
  refine wp_sep (l0 := [(0, .pointer (some ⟨g, 0, none⟩)), (2, .pointer (some ⟨g101, 0, none⟩))]) (L0 := [(101, some (ckB (g101) 239 #[.bool false, .int .u8 0, .int .u8 0, .int .u16 0]))]) (hE2.keep (l' := [(0, .pointer (some ⟨g, 0, none⟩)), (2, .pointer (some ⟨g101, 0, none⟩))]) ⟨hE2.get 0 rfl, hE2.get 2 rfl, trivial⟩) (hS2.keep (L' := [(101, some (ckB (g101) 239 #[.bool false, .int .u8 0, .int .u8 0, .int .u16 0]))]) ⟨rfl, trivial⟩)
    [fun _ => .pointer (some ⟨g, 0, none⟩),
      fun _ => .pointer (some ⟨g, 0, none⟩),
      fun _ => .pointer (some ⟨g, 1, none⟩),
      fun _ => .slice A (l.length : Nat) c,
      fun _ => .int .i64 (l.length : Nat),
      fun _ => .int .u8 (((l.length : Nat) : Int) % 256),
      fun _ => .pointer (some ⟨g, 0, none⟩),
      fun _ => .int .i64 (N : Nat),
      fun _ => .int .i64 ((N : Int) / 4),
      fun _ => .int .i64 ((N : Int) / 4 - 1),
      fun _ => .int .u16 (((N : Int) / 4 - 1) % 65536),
      fun _ => .agg #[.bool false, .int .u8 (((l.length : Nat) : Int) % 256), .int .u8 201, .int .u16 (((N : Int) / 4 - 1) % 65536)],
      fun _ => undef]
    [[], [], [], [], [], [], [], [], [], [], [], [], [(101, fun _ => some (ckB (g101) 239 #[.bool false, .int .u8 (((l.length : Nat) : Int) % 256), .int .u8 201, .int .u16 (((N : Int) / 4 - 1) % 65536)]))]]
    [[], [], [], [], [], [], [], [], [], [], [], [], []]
    (by kernel_rfl) (by kernel_rfl) (by kernel_rfl) rfl ?_ ?_ ?_
  · exact ⟨fun _ _ _ => ⟨rfl, rfl⟩,
      fun _ _ _ => ⟨rfl, rfl⟩,
      fun _ _ _ => ⟨rfl, rfl⟩,
      fun _ _ _ => ⟨rfl, rfl⟩,
      fun _ _ _ => ⟨rfl, rfl⟩,
      fun _ _ _ => ⟨rfl, rfl⟩,
      fun _ _ _ => ⟨rfl, rfl⟩,
      fun _ _ _ => ⟨rfl, rfl⟩,
      fun _ _ _ => ⟨rfl, rfl⟩,
      fun _ _ _ => ⟨rfl, rfl⟩,
      fun _ _ _ => ⟨rfl, rfl⟩,
      fun _ _ _ => ⟨rfl, rfl⟩,
      fun _ _ _ => ⟨rfl, rfl⟩, trivial⟩
  · refine ⟨?_, ?_, ?_, ?_, ?_, ?_, ?_, ?_, ?_, ?_, ?_, ?_, ?_, trivial⟩
    · exact sd_pure (.inl rfl) (fun _ _ => by kernel_rfl) rfl (fun _ => rfl) rfl
    · exact sd_pure (.inl rfl) (fun _ _ => by kernel_rfl) rfl (fun _ => rfl) rfl
    · exact sd_pure (.inl rfl) (fun _ _ => by kernel_rfl) rfl (fun _ => rfl) rfl
    · refine sduty_runs (.inl rfl) fun yy a w4 hv K hK => ?_
      have e5 : a.tmps[5]? = some (.pointer (some ⟨g, 1, none⟩)) := hv.get 5 rfl rfl
      have c3 : w4.cell? ⟨g, 1, none⟩ = some (.slice A (l.length : Nat) c) := (hb.below (hv.mem.old _ (Nat.le_refl _) (fun _ h => h.elim)) hb.lt).cell 1
      go_simp
      exact hK pay0 _ (stp_none _)
    · refine sduty_runs (.inl rfl) fun yy a w4 hv K hK => ?_
      have e6 : a.tmps[6]? = some (.slice A (l.length : Nat) c) := hv.get 6 rfl rfl
      go_simp
      exact hK pay0 _ (stp_none _)
    · refine sduty_runs (.inl rfl) fun yy a w4 hv K hK => ?_
      have e7 : a.tmps[7]? = some (.int .i64 (l.length : Nat)) := hv.get 7 rfl rfl
      go_simp
      rw [IntKind.wrap_u8]
      exact hK pay0 _ (stp_none _)
    · exact sd_pure (.inl rfl) (fun _ _ => by kernel_rfl) rfl (fun _ => rfl) rfl
    · refine sduty_runs (.inl rfl) fun yy a w4 hv K hK => ?_
      have e9 : a.tmps[9]? = some (.pointer (some ⟨g, 0, none⟩)) := hv.get 9 rfl rfl
      go_simp
      refine (rrsize_any g w4 A A2 l c m c2 T x0 (hb.below (hv.mem.old _ (Nat.le_refl _) (fun _ h => h.elim)) hb.lt) ((hr.below (hv.mem.old _ (Nat.le_refl _) (fun _ h => h.elim))).more hv.mem.size) hn hm).mono ?_
      rintro e w5 ⟨rfl, hB⟩
      rw [← HN.out]
      exact hK pay0 _ (stp_of_below hB)
    · refine sduty_runs (.inl rfl) fun yy a w4 hv K hK => ?_
      have e10 : a.tmps[10]? = some (.int .i64 (N : Nat)) := hv.get 10 rfl rfl
      go_simp
      rw [show IntKind.i64.wrap ((N : Int) / 4) = (N : Int) / 4 from IntWalk.i64_in _ (by omega)]
      exact hK pay0 _ (stp_none _)
    · refine sduty_runs (.inl rfl) fun yy a w4 hv K hK => ?_
      have e11 : a.tmps[11]? = some (.int .i64 ((N : Int) / 4)) := hv.get 11 rfl rfl
      go_simp
      rw [show IntKind.i64.wrap ((N : Int) / 4 - 1) = (N : Int) / 4 - 1 from IntWalk.i64_in _ (by omega)]
      exact hK pay0 _ (stp_none _)
    · refine sduty_runs (.inl rfl) fun yy a w4 hv K hK => ?_
      have e12 : a.tmps[12]? = some (.int .i64 ((N : Int) / 4 - 1)) := hv.get 12 rfl rfl
      go_simp
      rw [IntKind.wrap_u16]
      exact hK pay0 _ (stp_none _)
    · exact sd_pure (.inl rfl) (fun _ _ => by kernel_rfl) rfl (fun _ => rfl) rfl
    · exact sd_storeN 101 (new := fun yy => #[.bool false, .int .u8 (((l.length : Nat) : Int) % 256), .int .u8 201, .int .u16 (((N : Int) / 4 - 1) % 65536)]) (.inl rfl) (fun _ => by simp [Value.oneCell']) rfl (fun _ => rfl) (fun _ => rfl) (fun _ => rfl) (fun _ => rfl) (fun _ => by kernel_rfl) (fun _ => rfl) (fun _ => rfl) (fun _ => rfl)
  · intro yy a4 w4_ hE4 hS4
    have hE5 := hE4.keep (l' := [(2, .pointer (some ⟨g101, 0, none⟩))]) ⟨hE4.get 2 rfl, trivial⟩
    have hS5 := hS4.keep (L' := [(101, some (ckB (g101) 239 #[.bool false, .int .u8 (((l.length : Nat) : Int) % 256), .int .u8 201, .int .u16 (((N : Int) / 4 - 1) % 65536)]))]) ⟨rfl, trivial⟩
    clear hE4 hS4
    clear yy
    refine hK3 _ _ ?_
    clear hK3
    refine wp_ret ?_
    refine bodyPost_ret (results_cell_row Tryz.results119 _ _ _ 239 _ (0, 0) _ (by simp [hE5.get 2 rfl]) (hS5.blk 101 rfl) Tryz.underlying239 rfl rfl) hE5.defers ⟨rfl, hS5.below⟩

set_option maxHeartbeats 2000000 in
set_option maxRecDepth 100000 in
theorem sdhdr_any (g : Nat) (w : World) (T : TypeId) (A : Option Addr) (l : List Chunk) (c : Nat) (hb : Blk w g T #[.slice A (l.length : Nat) c]) (hr : Reads w w.heap.size 2 A l.length (l.flatMap Chunk.cells)) (hri : ∀ x ∈ l, x.items.Lies w w.heap.size 2 Item.cells) (hn : l.length ≤ 2147483647) (hm : ∀ x ∈ l, x.items.l.length ≤ 2147483647) (hsum : chunksLen l ≤ 549755813888) :
    Calls Tryz.prog 125 #[.pointer (some ⟨g, 0, none⟩)] w fun e w' => e = .returned (.agg (hdrA ((l.length : Int) % 256) 202 (4 + chunksLen l))) ∧ Below w.heap.size w w' := by
  obtain ⟨N, hN⟩ : ∃ N, N = 4 + chunksLen l := ⟨_, rfl⟩
  have hN4 : N ≤ 2199023255552 := by omega
  rw [← hN]
  have HN := Lib.hid hN
  clear hN
  refine calls_of_wp Tryz.func125 rfl ?_
  rw [Tryz.ntmps125]
  have hE0 : Env 15 [(0, .pointer (some ⟨g, 0, none⟩))] ⟨#[.pointer (some ⟨g, 0, none⟩)] ++ Array.replicate (15 - (#[.pointer (some ⟨g, 0, none⟩)] : Array Value).size) undef, []⟩ := Env.enter _ (by simp) ⟨by simp, trivial⟩
  generalize (⟨#[.pointer (some ⟨g, 0, none⟩)] ++ Array.replicate (15 - (#[.pointer (some ⟨g, 0, none⟩)] : Array Value).size) undef, []⟩ : Act) = a0 at hE0 ⊢
  have hS0 : Stp (fun _ => False) w w (lookM []) := Stp.refl w
  refine wp_seq_k fun K1 hK1 => ?_
  refine wp_region_lit ?_
  refine seq_new hE0 hS0 2 101 (fun g => .pointer (some ⟨g, 0, none⟩)) 239 #[.bool false, .int .u8 0, .int .u8 0, .int .u16 0] (fun w => by kernel_rfl) rfl rfl rfl rfl rfl fun a2 u1 g101 hE2 hS2 => ?_
  clear hE0 a0
  clear hS0
  refine wpList_nil ?_
  refine hK1 _ _ ?_
  clear hK1
  refine wp_seq_k fun K3 hK3 => ?_
  refine wp_sep (l0 := [(0, .pointer (some ⟨g, 0, none⟩)), (2, .pointer (some ⟨g101, 0, none⟩))]) (L0 := [(101, some (ckB (g101) 239 #[.bool false, .int .u8 0, .int .u8 0, .int .u16 0]))]) (hE2.keep (l' := [(0, .pointer (some ⟨g, 0, none⟩)), (2, .pointer (some ⟨g101, 0, none⟩))]) ⟨hE2.get 0 rfl, hE2.get 2 rfl, trivial⟩) (hS2.keep (L' := [(101, some (ckB (g101) 239 #[.bool false, .int .u8 0, .int .u8 0, .int .u16 0]))]) ⟨rfl, trivial⟩)
    [fun _ => .pointer (some ⟨g, 0, none⟩),
      fun _ => .pointer (some ⟨g, 0, none⟩),
      fun _ => .pointer (some ⟨g, 0, none⟩),
      fun _ => .slice A (l.length : Nat) c,
      fun _ => .int .i64 (l.length : Nat),
      fun _ => .int .u8 (((l.length : Nat) : Int) % 256),
      fun _ => .pointer (some ⟨g, 0, none⟩),
      fun _ => .int .i64 (N : Nat),
      fun _ => .int .i64 ((N : Int) / 4),
      fun _ => .int .i64 ((N : Int) / 4 - 1),
      fun _ => .int .u16 (((N : Int) / 4 - 1) % 65536),
      fun _ => .agg #[.bool false, .int .u8 (((l.length : Nat) : Int) % 256), .int .u8 202, .int .u16 (((N : Int) / 4 - 1) % 65536)],
      fun _ => undef]
    [[], [], [], [], [], [], [], [], [], [], [], [], [(101, fun _ => some (ckB (g101) 239 #[.bool false, .int .u8 (((l.length : Nat) : Int) % 256), .int .u8 202, .int .u16 (((N : Int) / 4 - 1) % 65536)]))]]
    [[], [], [], [], [], [], [], [], [], [], [], [], []]
    (by kernel_rfl) (by kernel_rfl) (by kernel_rfl) rfl ?_ ?_ ?_
  · exact ⟨fun _ _ _ => ⟨rfl, rfl⟩,
      fun _ _ _ => ⟨rfl, rfl⟩,
      fun _ _ _ => ⟨rfl, rfl⟩,
      fun _ _ _ => ⟨rfl, rfl⟩,
      fun _ _ _ => ⟨rfl, rfl⟩,
      fun _ _ _ => ⟨rfl, rfl⟩,
      fun _ _ _ => ⟨rfl, rfl⟩,
      fun _ _ _ => ⟨rfl, rfl⟩,
      fun _ _ _ => ⟨rfl, rfl⟩,
      fun _ _ _ => ⟨rfl, rfl⟩,
      fun _ _ _ => ⟨rfl, rfl⟩,
      fun _ _ _ => ⟨rfl, rfl⟩,
      fun _ _ _ => ⟨rfl, rfl⟩, trivial⟩
  · refine ⟨?_, ?_, ?_, ?_, ?_, ?_, ?_, ?_, ?_, ?_, ?_, ?_, ?_, trivial⟩
    · exact sd_pure (.inl rfl) (fun _ _ => by kernel_rfl) rfl (fun _ => rfl) rfl
    · exact sd_pure (.inl rfl) (fun _ _ => by kernel_rfl) rfl (fun _ => rfl) rfl
    · exact sd_pure (.inl rfl) (fun _ _ => by kernel_rfl) rfl (fun _ => rfl) rfl
    · refine sduty_runs (.inl rfl) fun yy a w4 hv K hK => ?_
      have e5 : a.tmps[5]? = some (.pointer (some ⟨g, 0, none⟩)) := hv.get 5 rfl rfl
      have c3 : w4.cell? ⟨g, 0, none⟩ = some (.slice A (l.length : Nat) c) := (hb.below (hv.mem.old _ (Nat.le_refl _) (fun _ h => h.elim)) hb.lt).cell 0
      go_simp
      exact hK pay0 _ (stp_none _)
    · refine sduty_runs (.inl rfl) fun yy a w4 hv K hK => ?_
      have e6 : a.tmps[6]? = some (.slice A (l.length : Nat) c) := hv.get 6 rfl rfl
      go_simp
      exact hK pay0 _ (stp_none _)
    · refine sduty_runs (.inl rfl) fun yy a w4 hv K hK => ?_
      have e7 : a.tmps[7]? = some (.int .i64 (l.length : Nat)) := hv.get 7 rfl rfl
      go_simp
      rw [IntKind.wrap_u8]
      exact hK pay0 _ (stp_none _)
    · exact sd_pure (.inl rfl) (fun _ _ => by kernel_rfl) rfl (fun _ => rfl) rfl
    · refine sduty_runs (.inl rfl) fun yy a w4 hv K hK => ?_
      have e9 : a.tmps[9]? = some (.pointer (some ⟨g, 0, none⟩)) := hv.get 9 rfl rfl
      go_simp
      refine (sdsize_any g w4 A l c T (hb.below (hv.mem.old _ (Nat.le_refl _) (fun _ h => h.elim)) hb.lt) ((hr.below (hv.mem.old _ (Nat.le_refl _) (fun _ h => h.elim))).more hv.mem.size) (fun x hx => ((hri x hx).below (hv.mem.old _ (Nat.le_refl _) (fun _ h => h.elim))).more hv.mem.size) hn hm hsum).mono ?_
      rintro e w5 ⟨rfl, hB⟩
      rw [← HN.out]
      exact hK pay0 _ (stp_of_below hB)
    · refine sduty_runs (.inl rfl) fun yy a w4 hv K hK => ?_
      have e10 : a.tmps[10]? = some (.int .i64 (N : Nat)) := hv.get 10 rfl rfl
      go_simp
      rw [show IntKind.i64.wrap ((N : Int) / 4) = (N : Int) / 4 from IntWalk.i64_in _ (by omega)]
      exact hK pay0 _ (stp_none _)
    · refine sduty_runs (.inl rfl) fun yy a w4 hv K hK => ?_
      have e11 : a.tmps[11]? = some (.int .i64 ((N : Int) / 4)) := hv.get 11 rfl rfl
      go_simp
      rw [show IntKind.i64.wrap ((N : Int) / 4 - 1) = (N : Int) / 4 - 1 from IntWalk.i64_in _ (by omega)]
      exact hK pay0 _ (stp_none _)
    · refine sduty_runs (.inl rfl) fun yy a w4 hv K hK => ?_
      have e12 : a.tmps[12]? = some (.int .i64 ((N : Int) / 4 - 1)) := hv.get 12 rfl rfl
      go_simp
      rw [IntKind.wrap_u16]
      exact hK pay0 _ (stp_none _)
    · exact sd_pure (.inl rfl) (fun _ _ => by kernel_rfl) rfl (fun _ => rfl) rfl
    · exact sd_storeN 101 (new := fun yy => #[.bool false, .int .u8 (((l.length : Nat) : Int) % 256), .int .u8 202, .int .u16 (((N : Int) / 4 - 1) % 65536)]) (.inl rfl) (fun _ => by simp [Value.oneCell']) rfl (fun _ => rfl) (fun _ => rfl) (fun _ => rfl) (fun _ => rfl) (fun _ => by kernel_rfl) (fun _ => rfl) (fun _ => rfl) (fun _ => rfl)
  · intro yy a4 w4_ hE4 hS4
    have hE5 := hE4.keep (l' := [(2, .pointer (some ⟨g101, 0, none⟩))]) ⟨hE4.get 2 rfl, trivial⟩
    have hS5 := hS4.keep (L' := [(101, some (ckB (g101) 239 #[.bool false, .int .u8 (((l.length : Nat) : Int) % 256), .int .u8 202, .int .u16 (((N : Int) / 4 - 1) % 65536)]))]) ⟨rfl, trivial⟩
    clear hE4 hS4
    clear yy
    refine hK3 _ _ ?_
    clear hK3
    refine wp_ret ?_
    refine bodyPost_ret (results_cell_row Tryz.results125 _ _ _ 239 _ (0, 0) _ (by simp [hE5.get 2 rfl]) (hS5.blk 101 rfl) Tryz.underlying239 rfl rfl) hE5.defers ⟨rfl, hS5.below⟩

set_option maxHeartbeats 2000000 in
set_option maxRecDepth 100000 in
theorem byehdr_any (g : Nat) (w : World) (T : TypeId) (A : Option Addr) (n : Nat) (c : Nat) (s : ByteArray) (hb : Blk w g T #[.slice A (n : Nat) c, .string s]) (hn : n ≤ 2147483647) (hs : s.size ≤ 2147483647) :
    Calls Tryz.prog 135 #[.pointer (some ⟨g, 0, none⟩)] w fun e w' => e = .returned (.agg (hdrA ((n : Int) % 256) 203 (byeLen n s.size + pad4 (byeLen n s.size)))) ∧ Below w.heap.size w w' := by
  obtain ⟨N, hN⟩ : ∃ N, N = byeLen n s.size + pad4 (byeLen n s.size) := ⟨_, rfl⟩
  have hN4 : N ≤ 2199023255552 := by have := pad4_le (byeLen n s.size); have : byeLen n s.size ≤ 1099511627776 := (by unfold byeLen; split <;> omega); omega
  rw [← hN]
  have HN := Lib.hid hN
  clear hN
  refine calls_of_wp Tryz.func135 rfl ?_
  rw [Tryz.ntmps135]
  have hE0 : Env 15 [(0, .pointer (some ⟨g, 0, none⟩))] ⟨#[.pointer (some ⟨g, 0, none⟩)] ++ Array.replicate (15 - (#[.pointer (some ⟨g, 0, none⟩)] : Array Value).size) undef, []⟩ := Env.enter _ (by simp) ⟨by simp, trivial⟩
  generalize (⟨#[.pointer (some ⟨g, 0, none⟩)] ++ Array.replicate (15 - (#[.pointer (some ⟨g, 0, none⟩)] : Array Value).size) undef, []⟩ : Act) = a0 at hE0 ⊢
  have hS0 : Stp (fun _ => False) w w (lookM []) := Stp.refl w
  refine wp_seq_k fun K1 hK1 => ?_
  refine wp_region_lit ?_
  refine seq_new hE0 hS0 2 101 (fun g => .pointer (some ⟨g, 0, none⟩)) 239 #[.bool false, .int .u8 0, .int .u8 0, .int .u16 0] (fun w => by kernel_rfl) rfl rfl rfl rfl rfl fun a2 u1 g101 hE2 hS2 => ?_
  clear hE0 a0
  clear hS0
  refine wpList_nil ?_
  refine hK1 _ _ ?_
  clear hK1
  refine wp_seq_k fun K3 hK3 => ?_
  refine wp_sep (l0 := [(0, .pointer (some ⟨g, 0, none⟩)), (2, .pointer (some ⟨g101, 0, none⟩))]) (L0 := [(101, some (ckB (g101) 239 #[.bool false, .int .u8 0, .int .u8 0, .int .u16 0]))]) (hE2.keep (l' := [(0, .pointer (some ⟨g, 0, none⟩)), (2, .pointer (some ⟨g101, 0, none⟩))]) ⟨hE2.get 0 rfl, hE2.get 2 rfl, trivial⟩) (hS2.keep (L' := [(101, some (ckB (g101) 239 #[.bool false, .int .u8 0, .int .u8 0, .int .u16 0]))]) ⟨rfl, trivial⟩)
    [fun _ => .pointer (some ⟨g, 0, none⟩),
      fun _ => .pointer (some ⟨g, 0, none⟩),
      fun _ => .pointer (some ⟨g, 0, none⟩),
      fun _ => .slice A (n : Nat) c,
      fun _ => .int .i64 (n : Nat),
      fun _ => .int .u8 (((n : Nat) : Int) % 256),
      fun _ => .pointer (some ⟨g, 0, none⟩),
      fun _ => .int .i64 (N : Nat),
      fun _ => .int .i64 ((N : Int) / 4),
      fun _ => .int .i64 ((N : Int) / 4 - 1),
      fun _ => .int .u16 (((N : Int) / 4 - 1) % 65536),
      fun _ => .agg #[.bool false, .int .u8 (((n : Nat) : Int) % 256), .int .u8 203, .int .u16 (((N : Int) / 4 - 1) % 65536)],
      fun _ => undef]
    [[], [], [], [], [], [], [], [], [], [], [], [], [(101, fun _ => some (ckB (g101) 239 #[.bool false, .int .u8 (((n : Nat) : Int) % 256), .int .u8 203, .int .u16 (((N : Int) / 4 - 1) % 65536)]))]]
    [[], [], [], [], [], [], [], [], [], [], [], [], []]
    (by kernel_rfl) (by kernel_rfl) (by kernel_rfl) rfl ?_ ?_ ?_
  · exact ⟨fun _ _ _ => ⟨rfl, rfl⟩,
      fun _ _ _ => ⟨rfl, rfl⟩,
      fun _ _ _ => ⟨rfl, rfl⟩,
      fun _ _ _ => ⟨rfl, rfl⟩,
      fun _ _ _ => ⟨rfl, rfl⟩,
      fun _ _ _ => ⟨rfl, rfl⟩,
      fun _ _ _ => ⟨rfl, rfl⟩,
      fun _ _ _ => ⟨rfl, rfl⟩,
      fun _ _ _ => ⟨rfl, rfl⟩,
      fun _ _ _ => ⟨rfl, rfl⟩,
      fun _ _ _ => ⟨rfl, rfl⟩,
      fun _ _ _ => ⟨rfl, rfl⟩,
      fun _ _ _ => ⟨rfl, rfl⟩, trivial⟩
  · refine ⟨?_, ?_, ?_, ?_, ?_, ?_, ?_, ?_, ?_, ?_, ?_, ?_, ?_, trivial⟩
    · exact sd_pure (.inl rfl) (fun _ _ => by kernel_rfl) rfl (fun _ => rfl) rfl
    · exact sd_pure (.inl rfl) (fun _ _ => by kernel_rfl) rfl (fun _ => rfl) rfl
    · exact sd_pure (.inl rfl) (fun _ _ => by kernel_rfl) rfl (fun _ => rfl) rfl
    · refine sduty_runs (.inl rfl) fun yy a w4 hv K hK => ?_
      have e5 : a.tmps[5]? = some (.pointer (some ⟨g, 0, none⟩)) := hv.get 5 rfl rfl
      have c3 : w4.cell? ⟨g, 0, none⟩ = some (.slice A (n : Nat) c) := (hb.below (hv.mem.old _ (Nat.le_refl _) (fun _ h => h.elim)) hb.lt).cell 0
      go_simp
      exact hK pay0 _ (stp_none _)
    · refine sduty_runs (.inl rfl) fun yy a w4 hv K hK => ?_
      have e6 : a.tmps[6]? = some (.slice A (n : Nat) c) := hv.get 6 rfl rfl
      go_simp
      exact hK pay0 _ (stp_none _)
    · refine sduty_runs (.inl rfl) fun yy a w4 hv K hK => ?_
      have e7 : a.tmps[7]? = some (.int .i64 (n : Nat)) := hv.get 7 rfl rfl
      go_simp
      rw [IntKind.wrap_u8]
      exact hK pay0 _ (stp_none _)
    · exact sd_pure (.inl rfl) (fun _ _ => by kernel_rfl) rfl (fun _ => rfl) rfl
    · refine sduty_runs (.inl rfl) fun yy a w4 hv K hK => ?_
      have e9 : a.tmps[9]? = some (.pointer (some ⟨g, 0, none⟩)) := hv.get 9 rfl rfl
      go_simp
      refine (same_below (byesize_any g w4 A n c T s (hb.below (hv.mem.old _ (Nat.le_refl _) (fun _ h => h.elim)) hb.lt) hn hs)).mono ?_
      rintro e w5 ⟨rfl, hB⟩
      rw [← HN.out]
      exact hK pay0 _ (stp_of_below hB)
    · refine sduty_runs (.inl rfl) fun yy a w4 hv K hK => ?_
      have e10 : a.tmps[10]? = some (.int .i64 (N : Nat)) := hv.get 10 rfl rfl
      go_simp
      rw [show IntKind.i64.wrap ((N : Int) / 4) = (N : Int) / 4 from IntWalk.i64_in _ (by omega)]
      exact hK pay0 _ (stp_none _)
    · refine sduty_runs (.inl rfl) fun yy a w4 hv K hK => ?_
      have e11 : a.tmps[11]? = some (.int .i64 ((N : Int) / 4)) := hv.get 11 rfl rfl
      go_simp
      rw [show IntKind.i64.wrap ((N : Int) / 4 - 1) = (N : Int) / 4 - 1 from IntWalk.i64_in _ (by omega)]
      exact hK pay0 _ (stp_none _)
    · refine sduty_runs (.inl rfl) fun yy a w4 hv K hK => ?_
      have e12 : a.tmps[12]? = some (.int .i64 ((N : Int) / 4 - 1)) := hv.get 12 rfl rfl
      go_simp
      rw [IntKind.wrap_u16]
      exact hK pay0 _ (stp_none _)
    · exact sd_pure (.inl rfl) (fun _ _ => by kernel_rfl) rfl (fun _ => rfl) rfl
    · exact sd_storeN 101 (new := fun yy => #[.bool false, .int .u8 (((n : Nat) : Int) % 256), .int .u8 203, .int .u16 (((N : Int) / 4 - 1) % 65536)]) (.inl rfl) (fun _ => by simp [Value.oneCell']) rfl (fun _ => rfl) (fun _ => rfl) (fun _ => rfl) (fun _ => rfl) (fun _ => by kernel_rfl) (fun _ => rfl) (fun _ => rfl) (fun _ => rfl)
  · intro yy a4 w4_ hE4 hS4
    have hE5 := hE4.keep (l' := [(2, .pointer (some ⟨g101, 0, none⟩))]) ⟨hE4.get 2 rfl, trivial⟩
    have hS5 := hS4.keep (L' := [(101, some (ckB (g101) 239 #[.bool false, .int .u8 (((n : Nat) : Int) % 256), .int .u8 203, .int .u16 (((N : Int) / 4 - 1) % 65536)]))]) ⟨rfl, trivial⟩
    clear hE4 hS4
    clear yy
    refine hK3 _ _ ?_
    clear hK3
    refine wp_ret ?_
    refine bodyPost_ret (results_cell_row Tryz.results135 _ _ _ 239 _ (0, 0) _ (by simp [hE5.get 2 rfl]) (hS5.blk 101 rfl) Tryz.underlying239 rfl rfl) hE5.defers ⟨rfl, hS5.below⟩

end Go.Proofs.YtmmfpgoodfgkbaaGreat
