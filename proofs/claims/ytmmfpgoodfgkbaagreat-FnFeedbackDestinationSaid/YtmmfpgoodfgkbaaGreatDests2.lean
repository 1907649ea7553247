/-
  THE WALK of the thin package's list of the sources that a packet refers to, for the kinds with one media source. Condition: the contract of the making of the package's packet.
-/
import Derived.Test.YtmmfpgoodfgkbaaGreatDests
namespace Go.Proofs.YtmmfpgoodfgkbaaGreat
open Go Go.RowKit
set_option linter.unusedVariables false

def DstQ (W : World) (Bo : Nat) (m : Int) (b : Bool) (w' : World) : Prop :=
  b = true ∧ ∃ g c, Blk w' Bo 27 #[.slice (some ⟨g, 0, none⟩) 1 c] ∧ w'.ownsRow W.heap.size 22 1 (.slice (some ⟨g, 0, none⟩) 1 c) 1 [.int .u32 m] ∧ W.grownBy w' (some Bo)

set_option maxHeartbeats 2000000 in
set_option maxRecDepth 100000 in
theorem dests_6 (q : Pkt) (m : Int) (w : World)
    (hb : ∀ w', Below w.heap.size w w' → Calls Tryz.prog 29 #[.agg q.cells] w' fun e w'' => ∃ g, e = .returned (.iface 167 (.pointer (some ⟨g, 0, none⟩))) ∧ w''.cell? ⟨g, 1, none⟩ = some (.int .u32 m) ∧ Below w'.heap.size w' w'') :
    Calls Tryz.prog 9 #[.agg q.cells] w fun e w' => ∃ g c, e = .returned (.slice (some ⟨g, 0, none⟩) 1 c) ∧ w'.ownsRow w.heap.size 22 1 (.slice (some ⟨g, 0, none⟩) 1 c) 1 [.int .u32 m] ∧ Below w.heap.size w w' := by
  have hmf : ∀ (fn : Fn) (first cap : Array Value) (w : World), (Instr.makeFunc fn first cap).run Tryz.prog w = .ok (.func fn first cap) w := fun _ _ _ _ => rfl
  refine calls_of_wp Tryz.func9 rfl ?_
  rw [Tryz.ntmps9]
  have hE0 : Env 7 [(0, .agg q.cells)] ⟨#[.agg q.cells] ++ Array.replicate (7 - (#[.agg q.cells] : Array Value).size) undef, []⟩ := Env.enter _ (by simp) ⟨by simp, trivial⟩
  generalize (⟨#[.agg q.cells] ++ Array.replicate (7 - (#[.agg q.cells] : Array Value).size) undef, []⟩ : Act) = a0 at hE0 ⊢
  refine wp_seq_k fun K1 hK1 => ?_
  refine wp_region_lit ?_
  refine wpList_val hE0 1 rfl rfl fun K hK => ?_
  have e0 := hE0.get 0 rfl
  go_simp
  refine hK _ _ fun a2 hE2 => ?_
  clear hK K e0
  clear hE0 a0
  refine wpList_val hE2 2 rfl rfl fun K hK => ?_
  go_simp
  refine hK _ _ fun a3 hE3 => ?_
  clear hK K
  clear hE2 a2
  refine wpList_nil ?_
  have hq := (blk_new w 53 q.cells rfl).alloc (.cells #[.slice none 0 0] 27)
  have ho := blk_new (w.alloc (.cells q.cells 53)) 27 #[.slice none 0 0] (B := w.heap.size + 1) (by simp)
  have hB := ((Below.refl w.heap.size w).alloc (Nat.le_refl _) (.cells q.cells 53)).alloc (by simp) (.cells #[.slice none 0 0] 27)
  have hz : ((w.alloc (.cells q.cells 53)).alloc (.cells #[.slice none 0 0] 27)).heap.size = w.heap.size + 2 := by simp
  have hgoal : ∀ w1, Blk w1 w.heap.size 53 q.cells → Blk w1 (w.heap.size + 1) 27 #[.slice none 0 0] → Below w.heap.size w w1 → w1.heap.size = w.heap.size + 2 → K1 a3 w1 := ?_
  · exact hgoal _ hq ho hB hz
  clear hq ho hB hz
  intro w1 hq ho hB hz
  have Hz := Lib.hid hz
  clear hz
  refine hK1 _ _ ?_
  clear hK1
  refine wp_seq_k fun K4 hK4 => ?_
  refine wp_seq_k fun K5 hK5 => ?_
  refine wp_region_lit ?_
  refine wpList_val hE3 3 rfl rfl fun K hK => ?_
  have e1 := hE3.get 1 rfl
  have e2 := hE3.get 2 rfl
  go_simp
  refine hK _ _ fun a6 hE6 => ?_
  clear hK K e1 e2
  clear hE3 a3
  refine wpList_val hE6 4 rfl rfl fun K hK => ?_
  have e3 := hE6.get 3 rfl
  go_simp
  refine (try_any 27 _ w1 (DstQ (w1.alloc (.cells #[.bool false] 4)) (w.heap.size + 1) m) (fun _ => by kernel_rfl) ((destClo_6 w.heap.size (w.heap.size + 1) q m _ (hq.alloc _) (ho.alloc _) (fun w' hw' => hb w' ((hB.alloc hB.size _).trans (hw'.mono (by have := Hz.out; simp; omega))))).mono ?_)).mono ?_
  · rintro e wa ⟨rfl, g, c, h1, h2, h3⟩
    exact ⟨true, rfl, ⟨rfl, g, c, h1, h2, h3⟩, (blk_new _ _ _ rfl).grown h3 (by have := Hz.out; simp; omega)⟩
  rintro e w2 ⟨b, wa, rfl, ⟨rfl, g, c, ho2, hown2, hg2⟩, hg3, hz3⟩
  have ho3 := ho2.grown hg3 (by have := Hz.out; simp; omega)
  have hown3 := hown2.kept hg3 (.inr (fun e => by have := (hown2.lt _ e).1; simp at this; omega))
  have hB3 : Below w.heap.size w w2 := ((hB.alloc hB.size _).grown hg2 (by have := Hz.out; simp; omega) (fun j hj => by injection hj; omega)).grown hg3 (by have := hg2.size; simp at this; have := Hz.out; omega) (fun j hj => by injection hj; have := Hz.out; omega)
  clear hg2 hg3 ho2 hown2 hz3
  refine hK _ _ fun a7 hE7 => ?_
  clear hK K e3
  clear hE6 a6
  refine wpList_val hE7 5 rfl rfl fun K hK => ?_
  have e4 := hE7.get 4 rfl
  go_simp
  refine hK _ _ fun a8 hE8 => ?_
  clear hK K e4
  clear hE7 a7
  refine wpList_nil ?_
  refine hK5 _ _ ?_
  clear hK5
  refine wp_if_f hE8 5 rfl ?_
  refine wp_skip ?_
  refine hK4 _ _ ?_
  clear hK4
  refine wp_seq_k fun K9 hK9 => ?_
  refine wp_region_lit ?_
  refine wpList_val hE8 6 rfl rfl fun K hK => ?_
  have e2 := hE8.get 2 rfl
  have co : w2.cell? ⟨w.heap.size + 1, 0, none⟩ = some (.slice (some ⟨g, 0, none⟩) 1 c) := ho3.cell 0
  have fo : w2.frozen? ⟨w.heap.size + 1, 0, none⟩ = false := ho3.frozen 0
  have hzo : w.heap.size + 1 < w2.heap.size := ho3.lt
  go_simp
  refine hK _ _ fun a10 hE10 => ?_
  clear hK K e2
  clear hE8 a8
  refine wpList_none rfl fun K hK => ?_
  have e2 := hE10.get 2 rfl
  have e6 := hE10.get 6 rfl
  go_simp
  refine hK undef _ ?_
  clear hK K e2 e6
  refine wpList_nil ?_
  refine hK9 _ _ ?_
  clear hK9
  refine wp_ret ?_
  have ho4 := ho3.set_ 0 (.slice (some ⟨g, 0, none⟩) 1 c)
  have k1 : (w2.setCell ⟨w.heap.size + 1, 0, none⟩ (.slice (some ⟨g, 0, none⟩) 1 c)).cell? ⟨w.heap.size + 1, 0, none⟩ = some (.slice (some ⟨g, 0, none⟩) 1 c) := ho4.cell 0
  refine bodyPost_ret (v := .slice (some ⟨g, 0, none⟩) 1 c) (by simp [results, Tryz.results9, go_sem, hE10.get 2 rfl, k1]) hE10.defers ⟨g, c, rfl, own_base (own_setCell hown3 (fun e => by have := (hown3.lt _ e).1; have := Hz.out; simp at *; omega) _) (by have := Hz.out; simp; omega), hB3.setCell (p := ⟨w.heap.size + 1, 0, none⟩) (show w.heap.size ≤ w.heap.size + 1 by omega) _⟩

set_option maxHeartbeats 2000000 in
set_option maxRecDepth 100000 in
theorem dests_7 (q : Pkt) (m : Int) (w : World)
    (hb : ∀ w', Below w.heap.size w w' → Calls Tryz.prog 29 #[.agg q.cells] w' fun e w'' => ∃ g, e = .returned (.iface 174 (.pointer (some ⟨g, 0, none⟩))) ∧ w''.cell? ⟨g, 1, none⟩ = some (.int .u32 m) ∧ Below w'.heap.size w' w'') :
    Calls Tryz.prog 9 #[.agg q.cells] w fun e w' => ∃ g c, e = .returned (.slice (some ⟨g, 0, none⟩) 1 c) ∧ w'.ownsRow w.heap.size 22 1 (.slice (some ⟨g, 0, none⟩) 1 c) 1 [.int .u32 m] ∧ Below w.heap.size w w' := by
  have hmf : ∀ (fn : Fn) (first cap : Array Value) (w : World), (Instr.makeFunc fn first cap).run Tryz.prog w = .ok (.func fn first cap) w := fun _ _ _ _ => rfl
  refine calls_of_wp Tryz.func9 rfl ?_
  rw [Tryz.ntmps9]
  have hE0 : Env 7 [(0, .agg q.cells)] ⟨#[.agg q.cells] ++ Array.replicate (7 - (#[.agg q.cells] : Array Value).size) undef, []⟩ := Env.enter _ (by simp) ⟨by simp, trivial⟩
  generalize (⟨#[.agg q.cells] ++ Array.replicate (7 - (#[.agg q.cells] : Array Value).size) undef, []⟩ : Act) = a0 at hE0 ⊢
  refine wp_seq_k fun K1 hK1 => ?_
  refine wp_region_lit ?_
  refine wpList_val hE0 1 rfl rfl fun K hK => ?_
  have e0 := hE0.get 0 rfl
  go_simp
  refine hK _ _ fun a2 hE2 => ?_
  clear hK K e0
  clear hE0 a0
  refine wpList_val hE2 2 rfl rfl fun K hK => ?_
  go_simp
  refine hK _ _ fun a3 hE3 => ?_
  clear hK K
  clear hE2 a2
  refine wpList_nil ?_
  have hq := (blk_new w 53 q.cells rfl).alloc (.cells #[.slice none 0 0] 27)
  have ho := blk_new (w.alloc (.cells q.cells 53)) 27 #[.slice none 0 0] (B := w.heap.size + 1) (by simp)
  have hB := ((Below.refl w.heap.size w).alloc (Nat.le_refl _) (.cells q.cells 53)).alloc (by simp) (.cells #[.slice none 0 0] 27)
  have hz : ((w.alloc (.cells q.cells 53)).alloc (.cells #[.slice none 0 0] 27)).heap.size = w.heap.size + 2 := by simp
  have hgoal : ∀ w1, Blk w1 w.heap.size 53 q.cells → Blk w1 (w.heap.size + 1) 27 #[.slice none 0 0] → Below w.heap.size w w1 → w1.heap.size = w.heap.size + 2 → K1 a3 w1 := ?_
  · exact hgoal _ hq ho hB hz
  clear hq ho hB hz
  intro w1 hq ho hB hz
  have Hz := Lib.hid hz
  clear hz
  refine hK1 _ _ ?_
  clear hK1
  refine wp_seq_k fun K4 hK4 => ?_
  refine wp_seq_k fun K5 hK5 => ?_
  refine wp_region_lit ?_
  refine wpList_val hE3 3 rfl rfl fun K hK => ?_
  have e1 := hE3.get 1 rfl
  have e2 := hE3.get 2 rfl
  go_simp
  refine hK _ _ fun a6 hE6 => ?_
  clear hK K e1 e2
  clear hE3 a3
  refine wpList_val hE6 4 rfl rfl fun K hK => ?_
  have e3 := hE6.get 3 rfl
  go_simp
  refine (try_any 27 _ w1 (DstQ (w1.alloc (.cells #[.bool false] 4)) (w.heap.size + 1) m) (fun _ => by kernel_rfl) ((destClo_7 w.heap.size (w.heap.size + 1) q m _ (hq.alloc _) (ho.alloc _) (fun w' hw' => hb w' ((hB.alloc hB.size _).trans (hw'.mono (by have := Hz.out; simp; omega))))).mono ?_)).mono ?_
  · rintro e wa ⟨rfl, g, c, h1, h2, h3⟩
    exact ⟨true, rfl, ⟨rfl, g, c, h1, h2, h3⟩, (blk_new _ _ _ rfl).grown h3 (by have := Hz.out; simp; omega)⟩
  rintro e w2 ⟨b, wa, rfl, ⟨rfl, g, c, ho2, hown2, hg2⟩, hg3, hz3⟩
  have ho3 := ho2.grown hg3 (by have := Hz.out; simp; omega)
  have hown3 := hown2.kept hg3 (.inr (fun e => by have := (hown2.lt _ e).1; simp at this; omega))
  have hB3 : Below w.heap.size w w2 := ((hB.alloc hB.size _).grown hg2 (by have := Hz.out; simp; omega) (fun j hj => by injection hj; omega)).grown hg3 (by have := hg2.size; simp at this; have := Hz.out; omega) (fun j hj => by injection hj; have := Hz.out; omega)
  clear hg2 hg3 ho2 hown2 hz3
  refine hK _ _ fun a7 hE7 => ?_
  clear hK K e3
  clear hE6 a6
  refine wpList_val hE7 5 rfl rfl fun K hK => ?_
  have e4 := hE7.get 4 rfl
  go_simp
  refine hK _ _ fun a8 hE8 => ?_
  clear hK K e4
  clear hE7 a7
  refine wpList_nil ?_
  refine hK5 _ _ ?_
  clear hK5
  refine wp_if_f hE8 5 rfl ?_
  refine wp_skip ?_
  refine hK4 _ _ ?_
  clear hK4
  refine wp_seq_k fun K9 hK9 => ?_
  refine wp_region_lit ?_
  refine wpList_val hE8 6 rfl rfl fun K hK => ?_
  have e2 := hE8.get 2 rfl
  have co : w2.cell? ⟨w.heap.size + 1, 0, none⟩ = some (.slice (some ⟨g, 0, none⟩) 1 c) := ho3.cell 0
  have fo : w2.frozen? ⟨w.heap.size + 1, 0, none⟩ = false := ho3.frozen 0
  have hzo : w.heap.size + 1 < w2.heap.size := ho3.lt
  go_simp
  refine hK _ _ fun a10 hE10 => ?_
  clear hK K e2
  clear hE8 a8
  refine wpList_none rfl fun K hK => ?_
  have e2 := hE10.get 2 rfl
  have e6 := hE10.get 6 rfl
  go_simp
  refine hK undef _ ?_
  clear hK K e2 e6
  refine wpList_nil ?_
  refine hK9 _ _ ?_
  clear hK9
  refine wp_ret ?_
  have ho4 := ho3.set_ 0 (.slice (some ⟨g, 0, none⟩) 1 c)
  have k1 : (w2.setCell ⟨w.heap.size + 1, 0, none⟩ (.slice (some ⟨g, 0, none⟩) 1 c)).cell? ⟨w.heap.size + 1, 0, none⟩ = some (.slice (some ⟨g, 0, none⟩) 1 c) := ho4.cell 0
  refine bodyPost_ret (v := .slice (some ⟨g, 0, none⟩) 1 c) (by simp [results, Tryz.results9, go_sem, hE10.get 2 rfl, k1]) hE10.defers ⟨g, c, rfl, own_base (own_setCell hown3 (fun e => by have := (hown3.lt _ e).1; have := Hz.out; simp at *; omega) _) (by have := Hz.out; simp; omega), hB3.setCell (p := ⟨w.heap.size + 1, 0, none⟩) (show w.heap.size ≤ w.heap.size + 1 by omega) _⟩

set_option maxHeartbeats 2000000 in
set_option maxRecDepth 100000 in
theorem dests_9 (q : Pkt) (m : Int) (w : World)
    (hb : ∀ w', Below w.heap.size w w' → Calls Tryz.prog 29 #[.agg q.cells] w' fun e w'' => ∃ g, e = .returned (.iface 182 (.pointer (some ⟨g, 0, none⟩))) ∧ w''.cell? ⟨g, 1, none⟩ = some (.int .u32 m) ∧ Below w'.heap.size w' w'') :
    Calls Tryz.prog 9 #[.agg q.cells] w fun e w' => ∃ g c, e = .returned (.slice (some ⟨g, 0, none⟩) 1 c) ∧ w'.ownsRow w.heap.size 22 1 (.slice (some ⟨g, 0, none⟩) 1 c) 1 [.int .u32 m] ∧ Below w.heap.size w w' := by
  have hmf : ∀ (fn : Fn) (first cap : Array Value) (w : World), (Instr.makeFunc fn first cap).run Tryz.prog w = .ok (.func fn first cap) w := fun _ _ _ _ => rfl
  refine calls_of_wp Tryz.func9 rfl ?_
  rw [Tryz.ntmps9]
  have hE0 : Env 7 [(0, .agg q.cells)] ⟨#[.agg q.cells] ++ Array.replicate (7 - (#[.agg q.cells] : Array Value).size) undef, []⟩ := Env.enter _ (by simp) ⟨by simp, trivial⟩
  generalize (⟨#[.agg q.cells] ++ Array.replicate (7 - (#[.agg q.cells] : Array Value).size) undef, []⟩ : Act) = a0 at hE0 ⊢
  refine wp_seq_k fun K1 hK1 => ?_
  refine wp_region_lit ?_
  refine wpList_val hE0 1 rfl rfl fun K hK => ?_
  have e0 := hE0.get 0 rfl
  go_simp
  refine hK _ _ fun a2 hE2 => ?_
  clear hK K e0
  clear hE0 a0
  refine wpList_val hE2 2 rfl rfl fun K hK => ?_
  go_simp
  refine hK _ _ fun a3 hE3 => ?_
  clear hK K
  clear hE2 a2
  refine wpList_nil ?_
  have hq := (blk_new w 53 q.cells rfl).alloc (.cells #[.slice none 0 0] 27)
  have ho := blk_new (w.alloc (.cells q.cells 53)) 27 #[.slice none 0 0] (B := w.heap.size + 1) (by simp)
  have hB := ((Below.refl w.heap.size w).alloc (Nat.le_refl _) (.cells q.cells 53)).alloc (by simp) (.cells #[.slice none 0 0] 27)
  have hz : ((w.alloc (.cells q.cells 53)).alloc (.cells #[.slice none 0 0] 27)).heap.size = w.heap.size + 2 := by simp
  have hgoal : ∀ w1, Blk w1 w.heap.size 53 q.cells → Blk w1 (w.heap.size + 1) 27 #[.slice none 0 0] → Below w.heap.size w w1 → w1.heap.size = w.heap.size + 2 → K1 a3 w1 := ?_
  · exact hgoal _ hq ho hB hz
  clear hq ho hB hz
  intro w1 hq ho hB hz
  have Hz := Lib.hid hz
  clear hz
  refine hK1 _ _ ?_
  clear hK1
  refine wp_seq_k fun K4 hK4 => ?_
  refine wp_seq_k fun K5 hK5 => ?_
  refine wp_region_lit ?_
  refine wpList_val hE3 3 rfl rfl fun K hK => ?_
  have e1 := hE3.get 1 rfl
  have e2 := hE3.get 2 rfl
  go_simp
  refine hK _ _ fun a6 hE6 => ?_
  clear hK K e1 e2
  clear hE3 a3
  refine wpList_val hE6 4 rfl rfl fun K hK => ?_
  have e3 := hE6.get 3 rfl
  go_simp
  refine (try_any 27 _ w1 (DstQ (w1.alloc (.cells #[.bool false] 4)) (w.heap.size + 1) m) (fun _ => by kernel_rfl) ((destClo_9 w.heap.size (w.heap.size + 1) q m _ (hq.alloc _) (ho.alloc _) (fun w' hw' => hb w' ((hB.alloc hB.size _).trans (hw'.mono (by have := Hz.out; simp; omega))))).mono ?_)).mono ?_
  · rintro e wa ⟨rfl, g, c, h1, h2, h3⟩
    exact ⟨true, rfl, ⟨rfl, g, c, h1, h2, h3⟩, (blk_new _ _ _ rfl).grown h3 (by have := Hz.out; simp; omega)⟩
  rintro e w2 ⟨b, wa, rfl, ⟨rfl, g, c, ho2, hown2, hg2⟩, hg3, hz3⟩
  have ho3 := ho2.grown hg3 (by have := Hz.out; simp; omega)
  have hown3 := hown2.kept hg3 (.inr (fun e => by have := (hown2.lt _ e).1; simp at this; omega))
  have hB3 : Below w.heap.size w w2 := ((hB.alloc hB.size _).grown hg2 (by have := Hz.out; simp; omega) (fun j hj => by injection hj; omega)).grown hg3 (by have := hg2.size; simp at this; have := Hz.out; omega) (fun j hj => by injection hj; have := Hz.out; omega)
  clear hg2 hg3 ho2 hown2 hz3
  refine hK _ _ fun a7 hE7 => ?_
  clear hK K e3
  clear hE6 a6
  refine wpList_val hE7 5 rfl rfl fun K hK => ?_
  have e4 := hE7.get 4 rfl
  go_simp
  refine hK _ _ fun a8 hE8 => ?_
  clear hK K e4
  clear hE7 a7
  refine wpList_nil ?_
  refine hK5 _ _ ?_
  clear hK5
  refine wp_if_f hE8 5 rfl ?_
  refine wp_skip ?_
  refine hK4 _ _ ?_
  clear hK4
  refine wp_seq_k fun K9 hK9 => ?_
  refine wp_region_lit ?_
  refine wpList_val hE8 6 rfl rfl fun K hK => ?_
  have e2 := hE8.get 2 rfl
  have co : w2.cell? ⟨w.heap.size + 1, 0, none⟩ = some (.slice (some ⟨g, 0, none⟩) 1 c) := ho3.cell 0
  have fo : w2.frozen? ⟨w.heap.size + 1, 0, none⟩ = false := ho3.frozen 0
  have hzo : w.heap.size + 1 < w2.heap.size := ho3.lt
  go_simp
  refine hK _ _ fun a10 hE10 => ?_
  clear hK K e2
  clear hE8 a8
  refine wpList_none rfl fun K hK => ?_
  have e2 := hE10.get 2 rfl
  have e6 := hE10.get 6 rfl
  go_simp
  refine hK undef _ ?_
  clear hK K e2 e6
  refine wpList_nil ?_
  refine hK9 _ _ ?_
  clear hK9
  refine wp_ret ?_
  have ho4 := ho3.set_ 0 (.slice (some ⟨g, 0, none⟩) 1 c)
  have k1 : (w2.setCell ⟨w.heap.size + 1, 0, none⟩ (.slice (some ⟨g, 0, none⟩) 1 c)).cell? ⟨w.heap.size + 1, 0, none⟩ = some (.slice (some ⟨g, 0, none⟩) 1 c) := ho4.cell 0
  refine bodyPost_ret (v := .slice (some ⟨g, 0, none⟩) 1 c) (by simp [results, Tryz.results9, go_sem, hE10.get 2 rfl, k1]) hE10.defers ⟨g, c, rfl, own_base (own_setCell hown3 (fun e => by have := (hown3.lt _ e).1; have := Hz.out; simp at *; omega) _) (by have := Hz.out; simp; omega), hB3.setCell (p := ⟨w.heap.size + 1, 0, none⟩) (show w.heap.size ≤ w.heap.size + 1 by omega) _⟩

set_option maxHeartbeats 2000000 in
set_option maxRecDepth 100000 in
theorem dests_10 (q : Pkt) (m : Int) (w : World)
    (hb : ∀ w', Below w.heap.size w w' → Calls Tryz.prog 29 #[.agg q.cells] w' fun e w'' => ∃ g, e = .returned (.iface 184 (.pointer (some ⟨g, 0, none⟩))) ∧ w''.cell? ⟨g, 1, none⟩ = some (.int .u32 m) ∧ Below w'.heap.size w' w'') :
    Calls Tryz.prog 9 #[.agg q.cells] w fun e w' => ∃ g c, e = .returned (.slice (some ⟨g, 0, none⟩) 1 c) ∧ w'.ownsRow w.heap.size 22 1 (.slice (some ⟨g, 0, none⟩) 1 c) 1 [.int .u32 m] ∧ Below w.heap.size w w' := by
  have hmf : ∀ (fn : Fn) (first cap : Array Value) (w : World), (Instr.makeFunc fn first cap).run Tryz.prog w = .ok (.func fn first cap) w := fun _ _ _ _ => rfl
  refine calls_of_wp Tryz.func9 rfl ?_
  rw [Tryz.ntmps9]
  have hE0 : Env 7 [(0, .agg q.cells)] ⟨#[.agg q.cells] ++ Array.replicate (7 - (#[.agg q.cells] : Array Value).size) undef, []⟩ := Env.enter _ (by simp) ⟨by simp, trivial⟩
  generalize (⟨#[.agg q.cells] ++ Array.replicate (7 - (#[.agg q.cells] : Array Value).size) undef, []⟩ : Act) = a0 at hE0 ⊢
  refine wp_seq_k fun K1 hK1 => ?_
  refine wp_region_lit ?_
  refine wpList_val hE0 1 rfl rfl fun K hK => ?_
  have e0 := hE0.get 0 rfl
  go_simp
  refine hK _ _ fun a2 hE2 => ?_
  clear hK K e0
  clear hE0 a0
  refine wpList_val hE2 2 rfl rfl fun K hK => ?_
  go_simp
  refine hK _ _ fun a3 hE3 => ?_
  clear hK K
  clear hE2 a2
  refine wpList_nil ?_
  have hq := (blk_new w 53 q.cells rfl).alloc (.cells #[.slice none 0 0] 27)
  have ho := blk_new (w.alloc (.cells q.cells 53)) 27 #[.slice none 0 0] (B := w.heap.size + 1) (by simp)
  have hB := ((Below.refl w.heap.size w).alloc (Nat.le_refl _) (.cells q.cells 53)).alloc (by simp) (.cells #[.slice none 0 0] 27)
  have hz : ((w.alloc (.cells q.cells 53)).alloc (.cells #[.slice none 0 0] 27)).heap.size = w.heap.size + 2 := by simp
  have hgoal : ∀ w1, Blk w1 w.heap.size 53 q.cells → Blk w1 (w.heap.size + 1) 27 #[.slice none 0 0] → Below w.heap.size w w1 → w1.heap.size = w.heap.size + 2 → K1 a3 w1 := ?_
  · exact hgoal _ hq ho hB hz
  clear hq ho hB hz
  intro w1 hq ho hB hz
  have Hz := Lib.hid hz
  clear hz
  refine hK1 _ _ ?_
  clear hK1
  refine wp_seq_k fun K4 hK4 => ?_
  refine wp_seq_k fun K5 hK5 => ?_
  refine wp_region_lit ?_
  refine wpList_val hE3 3 rfl rfl fun K hK => ?_
  have e1 := hE3.get 1 rfl
  have e2 := hE3.get 2 rfl
  go_simp
  refine hK _ _ fun a6 hE6 => ?_
  clear hK K e1 e2
  clear hE3 a3
  refine wpList_val hE6 4 rfl rfl fun K hK => ?_
  have e3 := hE6.get 3 rfl
  go_simp
  refine (try_any 27 _ w1 (DstQ (w1.alloc (.cells #[.bool false] 4)) (w.heap.size + 1) m) (fun _ => by kernel_rfl) ((destClo_10 w.heap.size (w.heap.size + 1) q m _ (hq.alloc _) (ho.alloc _) (fun w' hw' => hb w' ((hB.alloc hB.size _).trans (hw'.mono (by have := Hz.out; simp; omega))))).mono ?_)).mono ?_
  · rintro e wa ⟨rfl, g, c, h1, h2, h3⟩
    exact ⟨true, rfl, ⟨rfl, g, c, h1, h2, h3⟩, (blk_new _ _ _ rfl).grown h3 (by have := Hz.out; simp; omega)⟩
  rintro e w2 ⟨b, wa, rfl, ⟨rfl, g, c, ho2, hown2, hg2⟩, hg3, hz3⟩
  have ho3 := ho2.grown hg3 (by have := Hz.out; simp; omega)
  have hown3 := hown2.kept hg3 (.inr (fun e => by have := (hown2.lt _ e).1; simp at this; omega))
  have hB3 : Below w.heap.size w w2 := ((hB.alloc hB.size _).grown hg2 (by have := Hz.out; simp; omega) (fun j hj => by injection hj; omega)).grown hg3 (by have := hg2.size; simp at this; have := Hz.out; omega) (fun j hj => by injection hj; have := Hz.out; omega)
  clear hg2 hg3 ho2 hown2 hz3
  refine hK _ _ fun a7 hE7 => ?_
  clear hK K e3
  clear hE6 a6
  refine wpList_val hE7 5 rfl rfl fun K hK => ?_
  have e4 := hE7.get 4 rfl
  go_simp
  refine hK _ _ fun a8 hE8 => ?_
  clear hK K e4
  clear hE7 a7
  refine wpList_nil ?_
  refine hK5 _ _ ?_
  clear hK5
  refine wp_if_f hE8 5 rfl ?_
  refine wp_skip ?_
  refine hK4 _ _ ?_
  clear hK4
  refine wp_seq_k fun K9 hK9 => ?_
  refine wp_region_lit ?_
  refine wpList_val hE8 6 rfl rfl fun K hK => ?_
  have e2 := hE8.get 2 rfl
  have co : w2.cell? ⟨w.heap.size + 1, 0, none⟩ = some (.slice (some ⟨g, 0, none⟩) 1 c) := ho3.cell 0
  have fo : w2.frozen? ⟨w.heap.size + 1, 0, none⟩ = false := ho3.frozen 0
  have hzo : w.heap.size + 1 < w2.heap.size := ho3.lt
  go_simp
  refine hK _ _ fun a10 hE10 => ?_
  clear hK K e2
  clear hE8 a8
  refine wpList_none rfl fun K hK => ?_
  have e2 := hE10.get 2 rfl
  have e6 := hE10.get 6 rfl
  go_simp
  refine hK undef _ ?_
  clear hK K e2 e6
  refine wpList_nil ?_
  refine hK9 _ _ ?_
  clear hK9
  refine wp_ret ?_
  have ho4 := ho3.set_ 0 (.slice (some ⟨g, 0, none⟩) 1 c)
  have k1 : (w2.setCell ⟨w.heap.size + 1, 0, none⟩ (.slice (some ⟨g, 0, none⟩) 1 c)).cell? ⟨w.heap.size + 1, 0, none⟩ = some (.slice (some ⟨g, 0, none⟩) 1 c) := ho4.cell 0
  refine bodyPost_ret (v := .slice (some ⟨g, 0, none⟩) 1 c) (by simp [results, Tryz.results9, go_sem, hE10.get 2 rfl, k1]) hE10.defers ⟨g, c, rfl, own_base (own_setCell hown3 (fun e => by have := (hown3.lt _ e).1; have := Hz.out; simp at *; omega) _) (by have := Hz.out; simp; omega), hB3.setCell (p := ⟨w.heap.size + 1, 0, none⟩) (show w.heap.size ≤ w.heap.size + 1 by omega) _⟩

end Go.Proofs.YtmmfpgoodfgkbaaGreat
