/-
  THE WALK of the thin package's look at a packet's sources, for the kinds with one media source. Condition: the contract of the making of the package's packet.
-/
import Derived.Test.YtmmfpgoodfgkbaaGreatDest
import Derived.Test.YtmmfpgoodfgkbaaGreatBuiltL
import Derived.Test.YtmmfpgoodfgkbaaGreatBuilt7
import Derived.Test.YtmmfpgoodfgkbaaGreatTry
namespace Go.Proofs.YtmmfpgoodfgkbaaGreat
open Go Go.RowKit
set_option linter.unusedVariables false

set_option maxHeartbeats 2000000 in
set_option maxRecDepth 100000 in
theorem destClo_6 (Bp Bo : Nat) (q : Pkt) (m : Int) (w : World) (hq : Blk w Bp 53 q.cells) (ho : Blk w Bo 27 #[.slice none 0 0])
    (hb : ∀ w', Below w.heap.size w w' → Calls Tryz.prog 29 #[.agg q.cells] w' fun e w'' => ∃ g, e = .returned (.iface 167 (.pointer (some ⟨g, 0, none⟩))) ∧ w''.cell? ⟨g, 1, none⟩ = some (.int .u32 m) ∧ Below w'.heap.size w' w'') :
    Calls Tryz.prog 27 #[.pointer (some ⟨Bp, 0, none⟩), .pointer (some ⟨Bo, 0, none⟩)] w fun e w' => e = .returned (.bool true) ∧ ∃ g c, Blk w' Bo 27 #[.slice (some ⟨g, 0, none⟩) 1 c] ∧ w'.ownsRow w.heap.size 22 1 (.slice (some ⟨g, 0, none⟩) 1 c) 1 [.int .u32 m] ∧ w.grownBy w' (some Bo) := by
  refine calls_of_wp Tryz.func27 rfl ?_
  rw [Tryz.ntmps27]
  have hE0 : Env 7 [(0, .pointer (some ⟨Bp, 0, none⟩)), (1, .pointer (some ⟨Bo, 0, none⟩))] ⟨#[.pointer (some ⟨Bp, 0, none⟩), .pointer (some ⟨Bo, 0, none⟩)] ++ Array.replicate (7 - (#[.pointer (some ⟨Bp, 0, none⟩), .pointer (some ⟨Bo, 0, none⟩)] : Array Value).size) undef, []⟩ := Env.enter _ (by simp) ⟨by simp, by simp, trivial⟩
  generalize (⟨#[.pointer (some ⟨Bp, 0, none⟩), .pointer (some ⟨Bo, 0, none⟩)] ++ Array.replicate (7 - (#[.pointer (some ⟨Bp, 0, none⟩), .pointer (some ⟨Bo, 0, none⟩)] : Array Value).size) undef, []⟩ : Act) = a0 at hE0 ⊢
  have hmeth : ∀ (a : Addr) (w : World), (method 409 167 (.pointer (some a)) "DestinationSSRC").run Tryz.prog w = .ok (140, .pointer (some a)) w := fun _ _ => by kernel_rfl
  refine wp_seq_k fun K1 hK1 => ?_
  refine wp_region_lit ?_
  refine wpList_val hE0 2 rfl rfl fun K hK => ?_
  go_simp
  refine hK _ _ fun a2 hE2 => ?_
  clear hK K
  clear hE0 a0
  refine wpList_nil ?_
  refine hK1 _ _ ?_
  clear hK1
  refine wp_seq_k fun K3 hK3 => ?_
  refine wp_region_lit ?_
  refine wpList_val hE2 3 rfl rfl fun K hK => ?_
  have e0 := hE2.get 0 rfl
  refine wp_load_blk 53 (.tmp 0) rfl Bp (hE2.ev 0 rfl) 53 q.cells _ hq Tryz.underlying53 rfl (by kernel_rfl) ?_
  refine hK _ _ fun a4 hE4 => ?_
  clear hK K e0
  clear hE2 a2
  refine wpList_val hE4 4 rfl rfl fun K hK => ?_
  have e3 := hE4.get 3 rfl
  go_simp
  refine (hb w (Below.refl _ _)).mono ?_
  rintro e w2 ⟨g1, rfl, hm1, hB2⟩
  refine hK _ _ fun a5 hE5 => ?_
  clear hK K e3
  clear hE4 a4
  refine wpList_val hE5 5 rfl rfl fun K hK => ?_
  have e4 := hE5.get 4 rfl
  go_simp
  refine (destTransportLayerNack_any g1 m w2 hm1).mono ?_
  rintro e w3 ⟨v3, rfl, hown3, hB3⟩
  obtain ⟨A3, c3, rfl⟩ := own_form hown3
  refine hK _ _ fun a6 hE6 => ?_
  clear hK K e4
  clear hE5 a5
  refine wpList_val hE6 6 rfl rfl fun K hK => ?_
  have e5 := hE6.get 5 rfl
  go_simp
  refine (clone32 w3.heap.size A3 1 c3 [.int .u32 m] w3 (Reads.of_own hown3) (by intro u hu; simp at hu; subst hu; rfl) (Nat.le_refl _) (by omega)).mono ?_
  rintro e w4 ⟨v4, rfl, hown4, hB4⟩
  obtain ⟨g4, c4, rfl, _, _⟩ := hown4.form (by omega)
  refine hK _ _ fun a7 hE7 => ?_
  clear hK K e5
  clear hE6 a6
  have hB24 := hB2.trans ((hB3.mono hB2.size).trans (hB4.mono (Nat.le_trans hB2.size hB3.size)))
  have ho4 := ho.below hB24 ho.lt
  have co : w4.cell? ⟨Bo, 0, none⟩ = some (.slice none 0 0) := ho4.cell 0
  have fo : w4.frozen? ⟨Bo, 0, none⟩ = false := ho4.frozen 0
  have hzo : Bo < w4.heap.size := ho4.lt
  have hol := ho.lt
  have hz34 : w.heap.size ≤ w3.heap.size := Nat.le_trans hB2.size hB3.size
  refine wpList_none rfl fun K hK => ?_
  have e1 := hE7.get 1 rfl
  have e6 := hE7.get 6 rfl
  go_simp
  refine hK undef _ ?_
  clear hK K e1 e6
  refine wpList_nil ?_
  refine hK3 _ _ ?_
  clear hK3
  refine wp_seq_k fun K9 hK9 => ?_
  refine wp_region_lit ?_
  refine wpList_val hE7 2 rfl rfl fun K hK => ?_
  go_simp
  refine hK _ _ fun a10 hE10 => ?_
  clear hK K
  clear hE7 a7
  refine wpList_nil ?_
  refine hK9 _ _ ?_
  clear hK9
  refine wp_ret ?_
  refine bodyPost_ret (v := .bool true) (by simp [results, Tryz.results27, go_sem, hE10.get 2 rfl]) hE10.defers ⟨rfl, g4, c4, ho4.set_ 0 _, own_base (own_setCell hown4 (fun e => by have := (hown4.lt _ e).1; simp at this; omega) _) hz34, grownBy_trans (grownBy_of_below hB24 _) (grownBy_setCell _ _ _) (.inl rfl)⟩

set_option maxHeartbeats 2000000 in
set_option maxRecDepth 100000 in
theorem destClo_7 (Bp Bo : Nat) (q : Pkt) (m : Int) (w : World) (hq : Blk w Bp 53 q.cells) (ho : Blk w Bo 27 #[.slice none 0 0])
    (hb : ∀ w', Below w.heap.size w w' → Calls Tryz.prog 29 #[.agg q.cells] w' fun e w'' => ∃ g, e = .returned (.iface 174 (.pointer (some ⟨g, 0, none⟩))) ∧ w''.cell? ⟨g, 1, none⟩ = some (.int .u32 m) ∧ Below w'.heap.size w' w'') :
    Calls Tryz.prog 27 #[.pointer (some ⟨Bp, 0, none⟩), .pointer (some ⟨Bo, 0, none⟩)] w fun e w' => e = .returned (.bool true) ∧ ∃ g c, Blk w' Bo 27 #[.slice (some ⟨g, 0, none⟩) 1 c] ∧ w'.ownsRow w.heap.size 22 1 (.slice (some ⟨g, 0, none⟩) 1 c) 1 [.int .u32 m] ∧ w.grownBy w' (some Bo) := by
  refine calls_of_wp Tryz.func27 rfl ?_
  rw [Tryz.ntmps27]
  have hE0 : Env 7 [(0, .pointer (some ⟨Bp, 0, none⟩)), (1, .pointer (some ⟨Bo, 0, none⟩))] ⟨#[.pointer (some ⟨Bp, 0, none⟩), .pointer (some ⟨Bo, 0, none⟩)] ++ Array.replicate (7 - (#[.pointer (some ⟨Bp, 0, none⟩), .pointer (some ⟨Bo, 0, none⟩)] : Array Value).size) undef, []⟩ := Env.enter _ (by simp) ⟨by simp, by simp, trivial⟩
  generalize (⟨#[.pointer (some ⟨Bp, 0, none⟩), .pointer (some ⟨Bo, 0, none⟩)] ++ Array.replicate (7 - (#[.pointer (some ⟨Bp, 0, none⟩), .pointer (some ⟨Bo, 0, none⟩)] : Array Value).size) undef, []⟩ : Act) = a0 at hE0 ⊢
  have hmeth : ∀ (a : Addr) (w : World), (method 409 174 (.pointer (some a)) "DestinationSSRC").run Tryz.prog w = .ok (145, .pointer (some a)) w := fun _ _ => by kernel_rfl
  refine wp_seq_k fun K1 hK1 => ?_
  refine wp_region_lit ?_
  refine wpList_val hE0 2 rfl rfl fun K hK => ?_
  go_simp
  refine hK _ _ fun a2 hE2 => ?_
  clear hK K
  clear hE0 a0
  refine wpList_nil ?_
  refine hK1 _ _ ?_
  clear hK1
  refine wp_seq_k fun K3 hK3 => ?_
  refine wp_region_lit ?_
  refine wpList_val hE2 3 rfl rfl fun K hK => ?_
  have e0 := hE2.get 0 rfl
  refine wp_load_blk 53 (.tmp 0) rfl Bp (hE2.ev 0 rfl) 53 q.cells _ hq Tryz.underlying53 rfl (by kernel_rfl) ?_
  refine hK _ _ fun a4 hE4 => ?_
  clear hK K e0
  clear hE2 a2
  refine wpList_val hE4 4 rfl rfl fun K hK => ?_
  have e3 := hE4.get 3 rfl
  go_simp
  refine (hb w (Below.refl _ _)).mono ?_
  rintro e w2 ⟨g1, rfl, hm1, hB2⟩
  refine hK _ _ fun a5 hE5 => ?_
  clear hK K e3
  clear hE4 a4
  refine wpList_val hE5 5 rfl rfl fun K hK => ?_
  have e4 := hE5.get 4 rfl
  go_simp
  refine (destRapidResynchronizationRequest_any g1 m w2 hm1).mono ?_
  rintro e w3 ⟨v3, rfl, hown3, hB3⟩
  obtain ⟨A3, c3, rfl⟩ := own_form hown3
  refine hK _ _ fun a6 hE6 => ?_
  clear hK K e4
  clear hE5 a5
  refine wpList_val hE6 6 rfl rfl fun K hK => ?_
  have e5 := hE6.get 5 rfl
  go_simp
  refine (clone32 w3.heap.size A3 1 c3 [.int .u32 m] w3 (Reads.of_own hown3) (by intro u hu; simp at hu; subst hu; rfl) (Nat.le_refl _) (by omega)).mono ?_
  rintro e w4 ⟨v4, rfl, hown4, hB4⟩
  obtain ⟨g4, c4, rfl, _, _⟩ := hown4.form (by omega)
  refine hK _ _ fun a7 hE7 => ?_
  clear hK K e5
  clear hE6 a6
  have hB24 := hB2.trans ((hB3.mono hB2.size).trans (hB4.mono (Nat.le_trans hB2.size hB3.size)))
  have ho4 := ho.below hB24 ho.lt
  have co : w4.cell? ⟨Bo, 0, none⟩ = some (.slice none 0 0) := ho4.cell 0
  have fo : w4.frozen? ⟨Bo, 0, none⟩ = false := ho4.frozen 0
  have hzo : Bo < w4.heap.size := ho4.lt
  have hol := ho.lt
  have hz34 : w.heap.size ≤ w3.heap.size := Nat.le_trans hB2.size hB3.size
  refine wpList_none rfl fun K hK => ?_
  have e1 := hE7.get 1 rfl
  have e6 := hE7.get 6 rfl
  go_simp
  refine hK undef _ ?_
  clear hK K e1 e6
  refine wpList_nil ?_
  refine hK3 _ _ ?_
  clear hK3
  refine wp_seq_k fun K9 hK9 => ?_
  refine wp_region_lit ?_
  refine wpList_val hE7 2 rfl rfl fun K hK => ?_
  go_simp
  refine hK _ _ fun a10 hE10 => ?_
  clear hK K
  clear hE7 a7
  refine wpList_nil ?_
  refine hK9 _ _ ?_
  clear hK9
  refine wp_ret ?_
  refine bodyPost_ret (v := .bool true) (by simp [results, Tryz.results27, go_sem, hE10.get 2 rfl]) hE10.defers ⟨rfl, g4, c4, ho4.set_ 0 _, own_base (own_setCell hown4 (fun e => by have := (hown4.lt _ e).1; simp at this; omega) _) hz34, grownBy_trans (grownBy_of_below hB24 _) (grownBy_setCell _ _ _) (.inl rfl)⟩

set_option maxHeartbeats 2000000 in
set_option maxRecDepth 100000 in
theorem destClo_9 (Bp Bo : Nat) (q : Pkt) (m : Int) (w : World) (hq : Blk w Bp 53 q.cells) (ho : Blk w Bo 27 #[.slice none 0 0])
    (hb : ∀ w', Below w.heap.size w w' → Calls Tryz.prog 29 #[.agg q.cells] w' fun e w'' => ∃ g, e = .returned (.iface 182 (.pointer (some ⟨g, 0, none⟩))) ∧ w''.cell? ⟨g, 1, none⟩ = some (.int .u32 m) ∧ Below w'.heap.size w' w'') :
    Calls Tryz.prog 27 #[.pointer (some ⟨Bp, 0, none⟩), .pointer (some ⟨Bo, 0, none⟩)] w fun e w' => e = .returned (.bool true) ∧ ∃ g c, Blk w' Bo 27 #[.slice (some ⟨g, 0, none⟩) 1 c] ∧ w'.ownsRow w.heap.size 22 1 (.slice (some ⟨g, 0, none⟩) 1 c) 1 [.int .u32 m] ∧ w.grownBy w' (some Bo) := by
  refine calls_of_wp Tryz.func27 rfl ?_
  rw [Tryz.ntmps27]
  have hE0 : Env 7 [(0, .pointer (some ⟨Bp, 0, none⟩)), (1, .pointer (some ⟨Bo, 0, none⟩))] ⟨#[.pointer (some ⟨Bp, 0, none⟩), .pointer (some ⟨Bo, 0, none⟩)] ++ Array.replicate (7 - (#[.pointer (some ⟨Bp, 0, none⟩), .pointer (some ⟨Bo, 0, none⟩)] : Array Value).size) undef, []⟩ := Env.enter _ (by simp) ⟨by simp, by simp, trivial⟩
  generalize (⟨#[.pointer (some ⟨Bp, 0, none⟩), .pointer (some ⟨Bo, 0, none⟩)] ++ Array.replicate (7 - (#[.pointer (some ⟨Bp, 0, none⟩), .pointer (some ⟨Bo, 0, none⟩)] : Array Value).size) undef, []⟩ : Act) = a0 at hE0 ⊢
  have hmeth : ∀ (a : Addr) (w : World), (method 409 182 (.pointer (some a)) "DestinationSSRC").run Tryz.prog w = .ok (162, .pointer (some a)) w := fun _ _ => by kernel_rfl
  refine wp_seq_k fun K1 hK1 => ?_
  refine wp_region_lit ?_
  refine wpList_val hE0 2 rfl rfl fun K hK => ?_
  go_simp
  refine hK _ _ fun a2 hE2 => ?_
  clear hK K
  clear hE0 a0
  refine wpList_nil ?_
  refine hK1 _ _ ?_
  clear hK1
  refine wp_seq_k fun K3 hK3 => ?_
  refine wp_region_lit ?_
  refine wpList_val hE2 3 rfl rfl fun K hK => ?_
  have e0 := hE2.get 0 rfl
  refine wp_load_blk 53 (.tmp 0) rfl Bp (hE2.ev 0 rfl) 53 q.cells _ hq Tryz.underlying53 rfl (by kernel_rfl) ?_
  refine hK _ _ fun a4 hE4 => ?_
  clear hK K e0
  clear hE2 a2
  refine wpList_val hE4 4 rfl rfl fun K hK => ?_
  have e3 := hE4.get 3 rfl
  go_simp
  refine (hb w (Below.refl _ _)).mono ?_
  rintro e w2 ⟨g1, rfl, hm1, hB2⟩
  refine hK _ _ fun a5 hE5 => ?_
  clear hK K e3
  clear hE4 a4
  refine wpList_val hE5 5 rfl rfl fun K hK => ?_
  have e4 := hE5.get 4 rfl
  go_simp
  refine (destPictureLossIndication_any g1 m w2 hm1).mono ?_
  rintro e w3 ⟨v3, rfl, hown3, hB3⟩
  obtain ⟨A3, c3, rfl⟩ := own_form hown3
  refine hK _ _ fun a6 hE6 => ?_
  clear hK K e4
  clear hE5 a5
  refine wpList_val hE6 6 rfl rfl fun K hK => ?_
  have e5 := hE6.get 5 rfl
  go_simp
  refine (clone32 w3.heap.size A3 1 c3 [.int .u32 m] w3 (Reads.of_own hown3) (by intro u hu; simp at hu; subst hu; rfl) (Nat.le_refl _) (by omega)).mono ?_
  rintro e w4 ⟨v4, rfl, hown4, hB4⟩
  obtain ⟨g4, c4, rfl, _, _⟩ := hown4.form (by omega)
  refine hK _ _ fun a7 hE7 => ?_
  clear hK K e5
  clear hE6 a6
  have hB24 := hB2.trans ((hB3.mono hB2.size).trans (hB4.mono (Nat.le_trans hB2.size hB3.size)))
  have ho4 := ho.below hB24 ho.lt
  have co : w4.cell? ⟨Bo, 0, none⟩ = some (.slice none 0 0) := ho4.cell 0
  have fo : w4.frozen? ⟨Bo, 0, none⟩ = false := ho4.frozen 0
  have hzo : Bo < w4.heap.size := ho4.lt
  have hol := ho.lt
  have hz34 : w.heap.size ≤ w3.heap.size := Nat.le_trans hB2.size hB3.size
  refine wpList_none rfl fun K hK => ?_
  have e1 := hE7.get 1 rfl
  have e6 := hE7.get 6 rfl
  go_simp
  refine hK undef _ ?_
  clear hK K e1 e6
  refine wpList_nil ?_
  refine hK3 _ _ ?_
  clear hK3
  refine wp_seq_k fun K9 hK9 => ?_
  refine wp_region_lit ?_
  refine wpList_val hE7 2 rfl rfl fun K hK => ?_
  go_simp
  refine hK _ _ fun a10 hE10 => ?_
  clear hK K
  clear hE7 a7
  refine wpList_nil ?_
  refine hK9 _ _ ?_
  clear hK9
  refine wp_ret ?_
  refine bodyPost_ret (v := .bool true) (by simp [results, Tryz.results27, go_sem, hE10.get 2 rfl]) hE10.defers ⟨rfl, g4, c4, ho4.set_ 0 _, own_base (own_setCell hown4 (fun e => by have := (hown4.lt _ e).1; simp at this; omega) _) hz34, grownBy_trans (grownBy_of_below hB24 _) (grownBy_setCell _ _ _) (.inl rfl)⟩

set_option maxHeartbeats 2000000 in
set_option maxRecDepth 100000 in
theorem destClo_10 (Bp Bo : Nat) (q : Pkt) (m : Int) (w : World) (hq : Blk w Bp 53 q.cells) (ho : Blk w Bo 27 #[.slice none 0 0])
    (hb : ∀ w', Below w.heap.size w w' → Calls Tryz.prog 29 #[.agg q.cells] w' fun e w'' => ∃ g, e = .returned (.iface 184 (.pointer (some ⟨g, 0, none⟩))) ∧ w''.cell? ⟨g, 1, none⟩ = some (.int .u32 m) ∧ Below w'.heap.size w' w'') :
    Calls Tryz.prog 27 #[.pointer (some ⟨Bp, 0, none⟩), .pointer (some ⟨Bo, 0, none⟩)] w fun e w' => e = .returned (.bool true) ∧ ∃ g c, Blk w' Bo 27 #[.slice (some ⟨g, 0, none⟩) 1 c] ∧ w'.ownsRow w.heap.size 22 1 (.slice (some ⟨g, 0, none⟩) 1 c) 1 [.int .u32 m] ∧ w.grownBy w' (some Bo) := by
  refine calls_of_wp Tryz.func27 rfl ?_
  rw [Tryz.ntmps27]
  have hE0 : Env 7 [(0, .pointer (some ⟨Bp, 0, none⟩)), (1, .pointer (some ⟨Bo, 0, none⟩))] ⟨#[.pointer (some ⟨Bp, 0, none⟩), .pointer (some ⟨Bo, 0, none⟩)] ++ Array.replicate (7 - (#[.pointer (some ⟨Bp, 0, none⟩), .pointer (some ⟨Bo, 0, none⟩)] : Array Value).size) undef, []⟩ := Env.enter _ (by simp) ⟨by simp, by simp, trivial⟩
  generalize (⟨#[.pointer (some ⟨Bp, 0, none⟩), .pointer (some ⟨Bo, 0, none⟩)] ++ Array.replicate (7 - (#[.pointer (some ⟨Bp, 0, none⟩), .pointer (some ⟨Bo, 0, none⟩)] : Array Value).size) undef, []⟩ : Act) = a0 at hE0 ⊢
  have hmeth : ∀ (a : Addr) (w : World), (method 409 184 (.pointer (some a)) "DestinationSSRC").run Tryz.prog w = .ok (166, .pointer (some a)) w := fun _ _ => by kernel_rfl
  refine wp_seq_k fun K1 hK1 => ?_
  refine wp_region_lit ?_
  refine wpList_val hE0 2 rfl rfl fun K hK => ?_
  go_simp
  refine hK _ _ fun a2 hE2 => ?_
  clear hK K
  clear hE0 a0
  refine wpList_nil ?_
  refine hK1 _ _ ?_
  clear hK1
  refine wp_seq_k fun K3 hK3 => ?_
  refine wp_region_lit ?_
  refine wpList_val hE2 3 rfl rfl fun K hK => ?_
  have e0 := hE2.get 0 rfl
  refine wp_load_blk 53 (.tmp 0) rfl Bp (hE2.ev 0 rfl) 53 q.cells _ hq Tryz.underlying53 rfl (by kernel_rfl) ?_
  refine hK _ _ fun a4 hE4 => ?_
  clear hK K e0
  clear hE2 a2
  refine wpList_val hE4 4 rfl rfl fun K hK => ?_
  have e3 := hE4.get 3 rfl
  go_simp
  refine (hb w (Below.refl _ _)).mono ?_
  rintro e w2 ⟨g1, rfl, hm1, hB2⟩
  refine hK _ _ fun a5 hE5 => ?_
  clear hK K e3
  clear hE4 a4
  refine wpList_val hE5 5 rfl rfl fun K hK => ?_
  have e4 := hE5.get 4 rfl
  go_simp
  refine (destSliceLossIndication_any g1 m w2 hm1).mono ?_
  rintro e w3 ⟨v3, rfl, hown3, hB3⟩
  obtain ⟨A3, c3, rfl⟩ := own_form hown3
  refine hK _ _ fun a6 hE6 => ?_
  clear hK K e4
  clear hE5 a5
  refine wpList_val hE6 6 rfl rfl fun K hK => ?_
  have e5 := hE6.get 5 rfl
  go_simp
  refine (clone32 w3.heap.size A3 1 c3 [.int .u32 m] w3 (Reads.of_own hown3) (by intro u hu; simp at hu; subst hu; rfl) (Nat.le_refl _) (by omega)).mono ?_
  rintro e w4 ⟨v4, rfl, hown4, hB4⟩
  obtain ⟨g4, c4, rfl, _, _⟩ := hown4.form (by omega)
  refine hK _ _ fun a7 hE7 => ?_
  clear hK K e5
  clear hE6 a6
  have hB24 := hB2.trans ((hB3.mono hB2.size).trans (hB4.mono (Nat.le_trans hB2.size hB3.size)))
  have ho4 := ho.below hB24 ho.lt
  have co : w4.cell? ⟨Bo, 0, none⟩ = some (.slice none 0 0) := ho4.cell 0
  have fo : w4.frozen? ⟨Bo, 0, none⟩ = false := ho4.frozen 0
  have hzo : Bo < w4.heap.size := ho4.lt
  have hol := ho.lt
  have hz34 : w.heap.size ≤ w3.heap.size := Nat.le_trans hB2.size hB3.size
  refine wpList_none rfl fun K hK => ?_
  have e1 := hE7.get 1 rfl
  have e6 := hE7.get 6 rfl
  go_simp
  refine hK undef _ ?_
  clear hK K e1 e6
  refine wpList_nil ?_
  refine hK3 _ _ ?_
  clear hK3
  refine wp_seq_k fun K9 hK9 => ?_
  refine wp_region_lit ?_
  refine wpList_val hE7 2 rfl rfl fun K hK => ?_
  go_simp
  refine hK _ _ fun a10 hE10 => ?_
  clear hK K
  clear hE7 a7
  refine wpList_nil ?_
  refine hK9 _ _ ?_
  clear hK9
  refine wp_ret ?_
  refine bodyPost_ret (v := .bool true) (by simp [results, Tryz.results27, go_sem, hE10.get 2 rfl]) hE10.defers ⟨rfl, g4, c4, ho4.set_ 0 _, own_base (own_setCell hown4 (fun e => by have := (hown4.lt _ e).1; simp at this; omega) _) hz34, grownBy_trans (grownBy_of_below hB24 _) (grownBy_setCell _ _ _) (.inl rfl)⟩

end Go.Proofs.YtmmfpgoodfgkbaaGreat
