/-
  THE WALK of the thin package's header of a packet, guard and all. Condition: the contract of the closure.
-/
import Derived.Test.YtmmfpgoodfgkbaaGreatDoorHeaderClo
namespace Go.Proofs.YtmmfpgoodfgkbaaGreatDoor
open Go Go.RowKit
set_option linter.unusedVariables false

set_option maxHeartbeats 2000000 in
set_option maxRecDepth 100000 in
theorem headerOf_true (q : Pkt) (c t : Int) (n : Nat) (w : World)
    (hc : ∀ (w1 : World) (g0 g1 : Nat), Blk w1 g0 56 q.cells → Blk w1 g1 44 hdrZ → g1 ≠ g0 → w.heap.size ≤ g0 → w.heap.size ≤ g1 → Below w.heap.size w w1 → Calls Tryz.prog 21 #[.pointer (some ⟨g0, 0, none⟩), .pointer (some ⟨g1, 0, none⟩)] w1 fun e w' => e = .returned (.bool true) ∧ Stp (fun x => x = g1 ∨ x = g0) w1 w' (lookM [(102, some (ckB g1 44 (hdrA c t n))), (101, some (ckB g0 56 q.cells))])) :
    Calls Tryz.prog 8 #[.agg q.cells] w fun e w' => e = .returned (.tuple #[.agg (hdrA c t n), .bool true]) ∧ Below w.heap.size w w' := by
  refine calls_of_wp Tryz.func8 rfl ?_
  rw [Tryz.ntmps8]
  have hE0 : Env 10 [(0, .agg q.cells)] ⟨#[.agg q.cells] ++ Array.replicate (10 - (#[.agg q.cells] : Array Value).size) undef, []⟩ := Env.enter _ (by simp) ⟨by simp, trivial⟩
  generalize (⟨#[.agg q.cells] ++ Array.replicate (10 - (#[.agg q.cells] : Array Value).size) undef, []⟩ : Act) = a0 at hE0 ⊢
  have hS0 : Stp (fun _ => False) w w (lookM []) := Stp.refl w
  have hmf : ∀ (fn : Fn) (first cap : Array Value) (w : World), (Instr.makeFunc fn first cap).run Tryz.prog w = .ok (.func fn first cap) w := fun _ _ _ _ => rfl
  refine wp_seq_k fun K1 hK1 => ?_
  refine wp_region_lit ?_
  refine seq_new hE0 hS0 1 101 (fun g => .pointer (some ⟨g, 0, none⟩)) 56 (q.cells) (fun w => by kernel_rfl) rfl rfl rfl rfl rfl fun a2 u1 g101 hE2 hS2 => ?_
  clear hE0 a0
  clear hS0
  refine seq_new hE2 hS2 2 102 (fun g => .pointer (some ⟨g, 0, none⟩)) 44 #[.bool false, .int .u8 0, .int .u8 0, .int .u16 0] (fun w => by kernel_rfl) rfl rfl rfl rfl rfl fun a3 u2 g102 hE3 hS3 => ?_
  clear hE2 a2
  clear hS2
  clear u1
  refine seq_pure hE3 3 (.bool false) (fun w => by kernel_rfl) rfl rfl rfl rfl rfl fun a4 hE4 => ?_
  clear hE3 a3
  refine wpList_nil ?_
  refine hK1 _ _ ?_
  clear hK1
  refine wp_seq_k fun K5 hK5 => ?_
  have hq := hS3.blk 101 rfl
  have hh := hS3.blk 102 rfl
  have hq0 := hS3.ge 101 rfl
  have hh0 := hS3.ge 102 rfl
  have hne := hS3.ne_bb 102 101 rfl rfl (by decide)
  refine wp_region_lit ?_
  refine wpList_val hE4 4 rfl rfl fun K hK => ?_
  have e1 := hE4.get 1 rfl
  have e2 := hE4.get 2 rfl
  go_simp
  refine hK _ _ fun a6 hE6 => ?_
  clear hK K e1 e2
  clear hE4 a4
  refine wpList_val hE6 5 rfl rfl fun K hK => ?_
  have e4 := hE6.get 4 rfl
  go_simp
  refine (try_any 21 _ u2 (fun b w' => b = true ∧ Stp (fun x => x = g102 ∨ x = g101) (u2.alloc (.cells #[.bool false] 4)) w' (lookM [(102, some (ckB g102 44 (hdrA c t n))), (101, some (ckB g101 56 q.cells))])) (fun _ => by kernel_rfl) ?_).mono ?_
  · refine (hc _ g101 g102 (hq.alloc _) (hh.alloc _) hne hq0 hh0 (hS3.below.alloc hS3.size _)).mono ?_
    rintro e wa ⟨rfl, hst⟩
    refine ⟨_, rfl, ⟨rfl, hst⟩, ?_⟩
    have hnb := blk_new u2 4 #[.bool false] rfl
    exact (hst.kept _ hnb.lt (fun e => by have := hh.lt; have := hq.lt; rcases e with e | e <;> omega)).trans hnb
  rintro e w5 ⟨b, wa, rfl, ⟨rfl, hst⟩, hg3, hz3⟩
  replace hst := stp_try hst hg3 (fun g e => by have := hh.lt; have := hq.lt; rcases e with e | e <;> omega)
  refine hK _ _ fun a7 hE7 => ?_
  clear hK K e4
  clear hE6 a6
  have hS8 := hS3.then_ (NL := [(102, some (ckB g102 44 (hdrA c t n))), (101, some (ckB g101 56 q.cells))]) (hst.mono (fun g e => e.elim (fun e => ⟨102, List.mem_cons_self, _, rfl, e⟩) (fun e => ⟨101, List.mem_cons_of_mem _ List.mem_cons_self, _, rfl, e⟩)))
  clear hS3 hst hg3 hz3 hq hh hq0 hh0 hne
  refine seq_pure hE7 3 (.bool true) (fun w => by kernel_rfl) rfl rfl rfl rfl rfl fun a9 hE9 => ?_
  clear hE7 a7
  refine wpList_nil ?_
  refine hK5 _ _ ?_
  clear hK5
  refine wp_seq_k fun K10 hK10 => ?_
  refine wp_seq_k fun K11 hK11 => ?_
  refine wp_region_lit ?_
  refine seq_pure hE9 6 (.bool true) (fun w => by kernel_rfl) rfl rfl rfl rfl rfl fun a12 hE12 => ?_
  clear hE9 a9
  refine wpList_val hE12 7 rfl rfl fun K hK => ?_
  have e6 := hE12.get 6 rfl
  go_simp
  refine hK _ _ fun a13 hE13 => ?_
  clear hK K e6
  clear hE12 a12
  refine wpList_nil ?_
  refine hK11 _ _ ?_
  clear hK11
  refine wp_if_f hE13 7 rfl ?_
  refine wp_skip ?_
  refine hK10 _ _ ?_
  clear hK10
  refine wp_seq_k fun K14 hK14 => ?_
  refine wp_region_lit ?_
  refine seq_loadN hE13 hS8 9 102 Tryz.underlying44 (by kernel_rfl) rfl rfl rfl rfl rfl rfl rfl fun a15 hE15 => ?_
  clear hE13 a13
  refine seq_storeN hE15 hS8 102 (new := #[.bool false, .int .u8 c, .int .u8 t, .int .u16 (((n : Int) / 4 - 1) % 65536)]) (by simp [Value.oneCell']) rfl rfl rfl rfl rfl (by kernel_rfl) rfl rfl rfl fun u3 hS16 => ?_
  clear hS8
  clear w5
  refine seq_pure hE15 3 (.bool true) (fun w => by kernel_rfl) rfl rfl rfl rfl rfl fun a17 hE17 => ?_
  clear hE15 a15
  refine wpList_nil ?_
  refine hK14 _ _ ?_
  clear hK14
  refine wp_ret ?_
  try simp only [Exit.then]
  refine bodyPost_ret (results_cell_tmp1 Tryz.results8 _ _ _ 44 _ _ (hE17.get 2 rfl) (hS16.blk 102 rfl) Tryz.underlying44 rfl (by kernel_rfl) (hE17.get 3 rfl)) hE17.defers ⟨rfl, hS16.below⟩

set_option maxHeartbeats 2000000 in
set_option maxRecDepth 100000 in
theorem headerOf_false (q : Pkt) (w : World)
    (hc : ∀ (w1 : World) (g0 g1 : Nat), Blk w1 g0 56 q.cells → Blk w1 g1 44 hdrZ → g1 ≠ g0 → w.heap.size ≤ g0 → w.heap.size ≤ g1 → Below w.heap.size w w1 → Calls Tryz.prog 21 #[.pointer (some ⟨g0, 0, none⟩), .pointer (some ⟨g1, 0, none⟩)] w1 fun e w' => e = .returned (.bool false) ∧ Stp (fun x => x = g1 ∨ x = g0) w1 w' (lookM [(102, some (ckB g1 44 hdrZ)), (101, some (ckB g0 56 q.cells))])) :
    Calls Tryz.prog 8 #[.agg q.cells] w fun e w' => e = .returned (.tuple #[.agg hdrZ, .bool false]) ∧ Below w.heap.size w w' := by
  refine calls_of_wp Tryz.func8 rfl ?_
  rw [Tryz.ntmps8]
  have hE0 : Env 10 [(0, .agg q.cells)] ⟨#[.agg q.cells] ++ Array.replicate (10 - (#[.agg q.cells] : Array Value).size) undef, []⟩ := Env.enter _ (by simp) ⟨by simp, trivial⟩
  generalize (⟨#[.agg q.cells] ++ Array.replicate (10 - (#[.agg q.cells] : Array Value).size) undef, []⟩ : Act) = a0 at hE0 ⊢
  have hS0 : Stp (fun _ => False) w w (lookM []) := Stp.refl w
  have hmf : ∀ (fn : Fn) (first cap : Array Value) (w : World), (Instr.makeFunc fn first cap).run Tryz.prog w = .ok (.func fn first cap) w := fun _ _ _ _ => rfl
  refine wp_seq_k fun K1 hK1 => ?_
  refine wp_region_lit ?_
  refine seq_new hE0 hS0 1 101 (fun g => .pointer (some ⟨g, 0, none⟩)) 56 (q.cells) (fun w => by kernel_rfl) rfl rfl rfl rfl rfl fun a2 u1 g101 hE2 hS2 => ?_
  clear hE0 a0
  clear hS0
  refine seq_new hE2 hS2 2 102 (fun g => .pointer (some ⟨g, 0, none⟩)) 44 #[.bool false, .int .u8 0, .int .u8 0, .int .u16 0] (fun w => by kernel_rfl) rfl rfl rfl rfl rfl fun a3 u2 g102 hE3 hS3 => ?_
  clear hE2 a2
  clear hS2
  clear u1
  refine seq_pure hE3 3 (.bool false) (fun w => by kernel_rfl) rfl rfl rfl rfl rfl fun a4 hE4 => ?_
  clear hE3 a3
  refine wpList_nil ?_
  refine hK1 _ _ ?_
  clear hK1
  refine wp_seq_k fun K5 hK5 => ?_
  have hq := hS3.blk 101 rfl
  have hh := hS3.blk 102 rfl
  have hq0 := hS3.ge 101 rfl
  have hh0 := hS3.ge 102 rfl
  have hne := hS3.ne_bb 102 101 rfl rfl (by decide)
  refine wp_region_lit ?_
  refine wpList_val hE4 4 rfl rfl fun K hK => ?_
  have e1 := hE4.get 1 rfl
  have e2 := hE4.get 2 rfl
  go_simp
  refine hK _ _ fun a6 hE6 => ?_
  clear hK K e1 e2
  clear hE4 a4
  refine wpList_val hE6 5 rfl rfl fun K hK => ?_
  have e4 := hE6.get 4 rfl
  go_simp
  refine (try_any 21 _ u2 (fun b w' => b = false ∧ Stp (fun x => x = g102 ∨ x = g101) (u2.alloc (.cells #[.bool false] 4)) w' (lookM [(102, some (ckB g102 44 hdrZ)), (101, some (ckB g101 56 q.cells))])) (fun _ => by kernel_rfl) ?_).mono ?_
  · refine (hc _ g101 g102 (hq.alloc _) (hh.alloc _) hne hq0 hh0 (hS3.below.alloc hS3.size _)).mono ?_
    rintro e wa ⟨rfl, hst⟩
    refine ⟨_, rfl, ⟨rfl, hst⟩, ?_⟩
    have hnb := blk_new u2 4 #[.bool false] rfl
    exact (hst.kept _ hnb.lt (fun e => by have := hh.lt; have := hq.lt; rcases e with e | e <;> omega)).trans hnb
  rintro e w5 ⟨b, wa, rfl, ⟨rfl, hst⟩, hg3, hz3⟩
  replace hst := stp_try hst hg3 (fun g e => by have := hh.lt; have := hq.lt; rcases e with e | e <;> omega)
  refine hK _ _ fun a7 hE7 => ?_
  clear hK K e4
  clear hE6 a6
  have hS8 := hS3.then_ (NL := [(102, some (ckB g102 44 hdrZ)), (101, some (ckB g101 56 q.cells))]) (hst.mono (fun g e => e.elim (fun e => ⟨102, List.mem_cons_self, _, rfl, e⟩) (fun e => ⟨101, List.mem_cons_of_mem _ List.mem_cons_self, _, rfl, e⟩)))
  clear hS3 hst hg3 hz3 hq hh hq0 hh0 hne
  refine seq_pure hE7 3 (.bool false) (fun w => by kernel_rfl) rfl rfl rfl rfl rfl fun a9 hE9 => ?_
  clear hE7 a7
  refine wpList_nil ?_
  refine hK5 _ _ ?_
  clear hK5
  refine wp_seq_k fun K10 hK10 => ?_
  refine wp_seq_k fun K11 hK11 => ?_
  refine wp_region_lit ?_
  refine seq_pure hE9 6 (.bool false) (fun w => by kernel_rfl) rfl rfl rfl rfl rfl fun a12 hE12 => ?_
  clear hE9 a9
  refine wpList_val hE12 7 rfl rfl fun K hK => ?_
  have e6 := hE12.get 6 rfl
  go_simp
  refine hK _ _ fun a13 hE13 => ?_
  clear hK K e6
  clear hE12 a12
  refine wpList_nil ?_
  refine hK11 _ _ ?_
  clear hK11
  refine wp_if_t hE13 7 rfl ?_
  refine wp_seq_k fun K14 hK14 => ?_
  refine wp_region_lit ?_
  refine seq_pure hE13 8 (.agg #[.bool false, .int .u8 0, .int .u8 0, .int .u16 0]) (fun w => by kernel_rfl) rfl rfl rfl rfl rfl fun a15 hE15 => ?_
  clear hE13 a13
  refine seq_storeN hE15 hS8 102 (new := #[.bool false, .int .u8 0, .int .u8 0, .int .u16 0]) (by simp [Value.oneCell']) rfl rfl rfl rfl rfl (by kernel_rfl) rfl rfl rfl fun u3 hS16 => ?_
  clear hS8
  clear w5
  refine seq_pure hE15 3 (.bool false) (fun w => by kernel_rfl) rfl rfl rfl rfl rfl fun a17 hE17 => ?_
  clear hE15 a15
  refine wpList_nil ?_
  refine hK14 _ _ ?_
  clear hK14
  refine wp_ret ?_
  try simp only [Exit.then]
  refine bodyPost_ret (results_cell_tmp1 Tryz.results8 _ _ _ 44 _ _ (hE17.get 2 rfl) (hS16.blk 102 rfl) Tryz.underlying44 rfl (by kernel_rfl) (hE17.get 3 rfl)) hE17.defers ⟨rfl, hS16.below⟩

end Go.Proofs.YtmmfpgoodfgkbaaGreatDoor
