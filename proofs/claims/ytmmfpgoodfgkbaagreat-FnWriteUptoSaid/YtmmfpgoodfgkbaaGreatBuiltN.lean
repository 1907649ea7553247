/-
  THE WALKS of the thin package's making of a packet of the package: descriptions and congestion control feedback. Condition: the kind; what the packet's slices read as; fewer than 2^31 elements.
-/
import Derived.Test.YtmmfpgoodfgkbaaGreatMSep
import Derived.Test.YtmmfpgoodfgkbaaGreatMPkt
import Derived.Test.YtmmfpgoodfgkbaaGreatNested
import Derived.Test.YtmmfpgoodfgkbaaGreatInRows
namespace Go.Proofs.YtmmfpgoodfgkbaaGreat
open Go Go.RowKit
set_option linter.unusedVariables false

/-- Blocks' lists, read in blocks from B up to C. -/
def ckBlks (B C : Nat) (A : Option Addr) (n : Nat) (l : List Blo) : Ck :=
  ⟨fun g => B ≤ g ∧ g < C, fun w => ∃ l2 : List Blo, l2.map Blo.bare = l.map Blo.bare ∧ l2.length = n ∧ InRows w B C 3 A n (l2.flatMap Blo.cells) ∧ ∀ x ∈ l2, InRows w B C 3 x.mets.A x.mets.l.length (x.mets.l.flatMap Met.cells),
    fun w w' hk ⟨l2, h1, h2, h3, h4⟩ => ⟨l2, h1, h2, h3.st hk, fun x hx => (h4 x hx).st hk⟩⟩
def capN (v : Value) : Nat := match v with
  | .int _ n => n.toNat
  | _ => 0

set_option maxHeartbeats 2000000 in
set_option maxRecDepth 100000 in
theorem builtN_3 (p : Pkt) (w : World) (hk : p.kind = 3) (hr : p.chunks.Lies w w.heap.size 2 Chunk.cells) (hn : p.chunks.l.length ≤ 2147483647) (hi : ∀ x ∈ p.chunks.l, x.items.Lies w w.heap.size 2 Item.cells) (hni : ∀ x ∈ p.chunks.l, x.items.l.length ≤ 2147483647) :
    Calls Tryz.prog 29 #[.agg p.cells] w fun e w' => ∃ (g : Nat) (A : Option Addr) (c : Nat) (l2 : List Chunk), l2.map Chunk.bare = p.chunks.l.map Chunk.bare ∧ e = .returned (.iface 159 (.pointer (some ⟨g, 0, none⟩))) ∧ w.heap.size ≤ g ∧ Below w.heap.size w w' ∧ Blk w' g 224 #[.slice A (l2.length : Nat) c] ∧ InRows w' w.heap.size w'.heap.size 2 A l2.length (l2.flatMap Chunk.cells) ∧ ∀ x ∈ l2, InRows w' w.heap.size w'.heap.size 2 x.items.A x.items.l.length (x.items.l.flatMap Item.cells) := by
  have Hk := Lib.hid hk
  clear hk
  refine calls_of_wp Tryz.func29 rfl ?_
  rw [Tryz.ntmps29]
  have hE0 : Env 229 [(0, .agg p.cells)] ⟨#[.agg p.cells] ++ Array.replicate (229 - (#[.agg p.cells] : Array Value).size) undef, []⟩ := Env.enter _ (by simp) ⟨by simp, trivial⟩
  generalize (⟨#[.agg p.cells] ++ Array.replicate (229 - (#[.agg p.cells] : Array Value).size) undef, []⟩ : Act) = a0 at hE0 ⊢
  have hS0 : Stp (fun _ => False) w w (lookM []) := Stp.refl w
  refine wp_seq_k fun K1 hK1 => ?_
  refine wp_region_lit ?_
  refine seq_new hE0 hS0 1 101 (fun g => .pointer (some ⟨g, 0, none⟩)) 53 (p.cells) (fun w => by kernel_rfl) rfl rfl rfl rfl rfl fun a2 u1 g101 hE2 hS2 => ?_
  clear hE0 a0
  clear hS0
  refine seq_pure hE2 2 (.nilIface) (fun w => by kernel_rfl) rfl rfl rfl rfl rfl fun a3 hE3 => ?_
  clear hE2 a2
  refine wpList_nil ?_
  refine hK1 _ _ ?_
  clear hK1
  refine wp_seq_k fun K4 hK4 => ?_
  refine wp_seq_k fun K5 hK5 => ?_
  refine wp_region_lit ?_
  refine seq_pure hE3 13 (.pointer (some ⟨g101, 0, none⟩)) (fun w => by kernel_rfl) rfl rfl rfl rfl rfl fun a6 hE6 => ?_
  clear hE3 a3
  refine wpList_val hE6 14 rfl rfl fun K hK => ?_
  have e13 := hE6.get 13 rfl
  have cc : u1.cell? ⟨g101, 0, none⟩ = some (.int .i64 3) := ((hS2.blk 101 rfl).cell 0).trans (by rw [← Hk.out]; rfl)
  have cz : g101 < u1.heap.size := (hS2.blk 101 rfl).lt
  go_simp
  refine hK _ _ fun a7 hE7 => ?_
  clear hK K e13
  clear hE6 a6
  clear cc cz
  refine wpList_nil ?_
  refine hK5 _ _ ?_
  clear hK5
  refine wp_block ?_
  refine wp_seq_k fun K8 hK8 => ?_
  refine wp_region_lit ?_
  refine wpList_val hE7 16 rfl rfl fun K hK => ?_
  have e14 := hE7.get 14 rfl
  go_simp
  refine hK _ _ fun a9 hE9 => ?_
  clear hK K e14
  clear hE7 a7
  refine wpList_val hE9 15 rfl rfl fun K hK => ?_
  have e16 := hE9.get 16 rfl
  go_simp
  refine hK _ _ fun a10 hE10 => ?_
  clear hK K e16
  clear hE9 a9
  refine wpList_nil ?_
  refine hK8 _ _ ?_
  clear hK8
  refine wp_if_f hE10 15 rfl ?_
  refine wp_seq_k fun K11 hK11 => ?_
  refine wp_region_lit ?_
  refine wpList_val hE10 37 rfl rfl fun K hK => ?_
  have e14 := hE10.get 14 rfl
  go_simp
  refine hK _ _ fun a12 hE12 => ?_
  clear hK K e14
  clear hE10 a10
  refine wpList_val hE12 36 rfl rfl fun K hK => ?_
  have e37 := hE12.get 37 rfl
  go_simp
  refine hK _ _ fun a13 hE13 => ?_
  clear hK K e37
  clear hE12 a12
  refine wpList_nil ?_
  refine hK11 _ _ ?_
  clear hK11
  refine wp_if_f hE13 36 rfl ?_
  refine wp_seq_k fun K14 hK14 => ?_
  refine wp_region_lit ?_
  refine wpList_val hE13 50 rfl rfl fun K hK => ?_
  have e14 := hE13.get 14 rfl
  go_simp
  refine hK _ _ fun a15 hE15 => ?_
  clear hK K e14
  clear hE13 a13
  refine wpList_val hE15 49 rfl rfl fun K hK => ?_
  have e50 := hE15.get 50 rfl
  go_simp
  refine hK _ _ fun a16 hE16 => ?_
  clear hK K e50
  clear hE15 a15
  refine wpList_nil ?_
  refine hK14 _ _ ?_
  clear hK14
  refine wp_if_t hE16 49 rfl ?_
  refine wp_seq_k fun K17 hK17 => ?_
  have hB0 := hS2.below
  have hz0 := hS2.size
  refine wp_region_lit ?_
  refine seq_pure hE16 51 (.pointer (some ⟨g101, 9, none⟩)) (fun w => by kernel_rfl) rfl rfl rfl rfl rfl fun a18 hE18 => ?_
  clear hE16 a16
  refine seq_load hE18 hS2 52 101 9 (v := .slice p.chunks.A (p.chunks.l.length : Nat) p.chunks.c) (fun w => by kernel_rfl) rfl rfl rfl rfl rfl rfl rfl fun a19 hE19 => ?_
  clear hE18 a18
  refine wpList_val hE19 53 rfl rfl fun K hK => ?_
  have e52 := hE19.get 52 rfl
  go_simp
  refine (description_any p.chunks.A p.chunks.c p.chunks.l u1 ((hr.below hB0).more hz0) hn (fun x hx => ((hi x hx).below hB0).more hz0) hni).mono ?_
  rintro e w5 ⟨g9, A9, c9, l9, hbare, rfl, hS9⟩
  refine hK _ _ fun a20 hE20 => ?_
  clear hK K e52
  clear hE19 a19
  refine seq_pure hE20 54 (.iface 159 (.pointer (some ⟨g9, 0, none⟩))) (fun w => by kernel_rfl) rfl rfl rfl rfl rfl fun a21 hE21 => ?_
  clear hE20 a20
  refine seq_pure hE21 2 (.iface 159 (.pointer (some ⟨g9, 0, none⟩))) (fun w => by kernel_rfl) rfl rfl rfl rfl rfl fun a22 hE22 => ?_
  clear hE21 a21
  refine wpList_nil ?_
  refine hK17 _ _ ?_
  clear hK17
  refine wp_ret ?_
  try simp only [Exit.inBlock, Exit.then]
  have hg9 := hS9.ge 1 rfl
  have hrow := InRows.of_own (hS9.row 2 rfl)
  have hits := hS9.ok 3 _ rfl
  refine bodyPost_ret (v := .iface 159 (.pointer (some ⟨g9, 0, none⟩))) (by simp [results, Tryz.results29, go_sem, hE22.get 2 rfl]) hE22.defers ⟨g9, A9, c9, l9, hbare, rfl, Nat.le_trans hz0 hg9, hB0.trans (hS9.below.mono hz0), hS9.blk 1 rfl, hrow.wide fun g hg => ⟨Nat.le_trans hz0 hg.1, hg.2⟩, fun x hx => (InRows.of_own (hits x hx)).wide fun g hg => ⟨Nat.le_trans hz0 hg.1, hg.2⟩⟩

set_option maxHeartbeats 2000000 in
set_option maxRecDepth 100000 in
theorem builtN_8 (p : Pkt) (w : World) (hk : p.kind = 8) (hr : p.blocks.Lies w w.heap.size 3 Blo.cells) (hn : p.blocks.l.length ≤ 2147483647) (hi : ∀ x ∈ p.blocks.l, x.mets.Lies w w.heap.size 3 Met.cells) (hni : ∀ x ∈ p.blocks.l, x.mets.l.length ≤ 2147483647) :
    Calls Tryz.prog 29 #[.agg p.cells] w fun e w' => ∃ (g : Nat) (A : Option Addr) (c : Nat) (l2 : List Blo), l2.map Blo.bare = p.blocks.l.map Blo.bare ∧ e = .returned (.iface 177 (.pointer (some ⟨g, 0, none⟩))) ∧ w.heap.size ≤ g ∧ Below w.heap.size w w' ∧ Blk w' g 181 #[.int .u32 p.sender, .slice A (l2.length : Nat) c, .int .u32 p.time] ∧ InRows w' w.heap.size w'.heap.size 3 A l2.length (l2.flatMap Blo.cells) ∧ ∀ x ∈ l2, InRows w' w.heap.size w'.heap.size 3 x.mets.A x.mets.l.length (x.mets.l.flatMap Met.cells) := by
  have Hk := Lib.hid hk
  clear hk
  refine calls_of_wp Tryz.func29 rfl ?_
  rw [Tryz.ntmps29]
  have hE0 : Env 229 [(0, .agg p.cells)] ⟨#[.agg p.cells] ++ Array.replicate (229 - (#[.agg p.cells] : Array Value).size) undef, []⟩ := Env.enter _ (by simp) ⟨by simp, trivial⟩
  generalize (⟨#[.agg p.cells] ++ Array.replicate (229 - (#[.agg p.cells] : Array Value).size) undef, []⟩ : Act) = a0 at hE0 ⊢
  have hS0 : Stp (fun _ => False) w w (lookM []) := Stp.refl w
  refine wp_seq_k fun K1 hK1 => ?_
  refine wp_region_lit ?_
  refine seq_new hE0 hS0 1 101 (fun g => .pointer (some ⟨g, 0, none⟩)) 53 (p.cells) (fun w => by kernel_rfl) rfl rfl rfl rfl rfl fun a2 u1 g101 hE2 hS2 => ?_
  clear hE0 a0
  clear hS0
  refine seq_pure hE2 2 (.nilIface) (fun w => by kernel_rfl) rfl rfl rfl rfl rfl fun a3 hE3 => ?_
  clear hE2 a2
  refine wpList_nil ?_
  refine hK1 _ _ ?_
  clear hK1
  refine wp_seq_k fun K4 hK4 => ?_
  refine wp_seq_k fun K5 hK5 => ?_
  refine wp_region_lit ?_
  refine seq_pure hE3 13 (.pointer (some ⟨g101, 0, none⟩)) (fun w => by kernel_rfl) rfl rfl rfl rfl rfl fun a6 hE6 => ?_
  clear hE3 a3
  refine wpList_val hE6 14 rfl rfl fun K hK => ?_
  have e13 := hE6.get 13 rfl
  have cc : u1.cell? ⟨g101, 0, none⟩ = some (.int .i64 8) := ((hS2.blk 101 rfl).cell 0).trans (by rw [← Hk.out]; rfl)
  have cz : g101 < u1.heap.size := (hS2.blk 101 rfl).lt
  go_simp
  refine hK _ _ fun a7 hE7 => ?_
  clear hK K e13
  clear hE6 a6
  clear cc cz
  refine wpList_nil ?_
  refine hK5 _ _ ?_
  clear hK5
  refine wp_block ?_
  refine wp_seq_k fun K8 hK8 => ?_
  refine wp_region_lit ?_
  refine wpList_val hE7 16 rfl rfl fun K hK => ?_
  have e14 := hE7.get 14 rfl
  go_simp
  refine hK _ _ fun a9 hE9 => ?_
  clear hK K e14
  clear hE7 a7
  refine wpList_val hE9 15 rfl rfl fun K hK => ?_
  have e16 := hE9.get 16 rfl
  go_simp
  refine hK _ _ fun a10 hE10 => ?_
  clear hK K e16
  clear hE9 a9
  refine wpList_nil ?_
  refine hK8 _ _ ?_
  clear hK8
  refine wp_if_f hE10 15 rfl ?_
  refine wp_seq_k fun K11 hK11 => ?_
  refine wp_region_lit ?_
  refine wpList_val hE10 37 rfl rfl fun K hK => ?_
  have e14 := hE10.get 14 rfl
  go_simp
  refine hK _ _ fun a12 hE12 => ?_
  clear hK K e14
  clear hE10 a10
  refine wpList_val hE12 36 rfl rfl fun K hK => ?_
  have e37 := hE12.get 37 rfl
  go_simp
  refine hK _ _ fun a13 hE13 => ?_
  clear hK K e37
  clear hE12 a12
  refine wpList_nil ?_
  refine hK11 _ _ ?_
  clear hK11
  refine wp_if_f hE13 36 rfl ?_
  refine wp_seq_k fun K14 hK14 => ?_
  refine wp_region_lit ?_
  refine wpList_val hE13 50 rfl rfl fun K hK => ?_
  have e14 := hE13.get 14 rfl
  go_simp
  refine hK _ _ fun a15 hE15 => ?_
  clear hK K e14
  clear hE13 a13
  refine wpList_val hE15 49 rfl rfl fun K hK => ?_
  have e50 := hE15.get 50 rfl
  go_simp
  refine hK _ _ fun a16 hE16 => ?_
  clear hK K e50
  clear hE15 a15
  refine wpList_nil ?_
  refine hK14 _ _ ?_
  clear hK14
  refine wp_if_f hE16 49 rfl ?_
  refine wp_seq_k fun K17 hK17 => ?_
  refine wp_region_lit ?_
  refine wpList_val hE16 56 rfl rfl fun K hK => ?_
  have e14 := hE16.get 14 rfl
  go_simp
  refine hK _ _ fun a18 hE18 => ?_
  clear hK K e14
  clear hE16 a16
  refine wpList_val hE18 55 rfl rfl fun K hK => ?_
  have e56 := hE18.get 56 rfl
  go_simp
  refine hK _ _ fun a19 hE19 => ?_
  clear hK K e56
  clear hE18 a18
  refine wpList_nil ?_
  refine hK17 _ _ ?_
  clear hK17
  refine wp_if_f hE19 55 rfl ?_
  refine wp_seq_k fun K20 hK20 => ?_
  refine wp_region_lit ?_
  refine wpList_val hE19 66 rfl rfl fun K hK => ?_
  have e14 := hE19.get 14 rfl
  go_simp
  refine hK _ _ fun a21 hE21 => ?_
  clear hK K e14
  clear hE19 a19
  refine wpList_val hE21 65 rfl rfl fun K hK => ?_
  have e66 := hE21.get 66 rfl
  go_simp
  refine hK _ _ fun a22 hE22 => ?_
  clear hK K e66
  clear hE21 a21
  refine wpList_nil ?_
  refine hK20 _ _ ?_
  clear hK20
  refine wp_if_f hE22 65 rfl ?_
  refine wp_seq_k fun K23 hK23 => ?_
  refine wp_region_lit ?_
  refine wpList_val hE22 80 rfl rfl fun K hK => ?_
  have e14 := hE22.get 14 rfl
  go_simp
  refine hK _ _ fun a24 hE24 => ?_
  clear hK K e14
  clear hE22 a22
  refine wpList_val hE24 79 rfl rfl fun K hK => ?_
  have e80 := hE24.get 80 rfl
  go_simp
  refine hK _ _ fun a25 hE25 => ?_
  clear hK K e80
  clear hE24 a24
  refine wpList_nil ?_
  refine hK23 _ _ ?_
  clear hK23
  refine wp_if_f hE25 79 rfl ?_
  refine wp_seq_k fun K26 hK26 => ?_
  refine wp_region_lit ?_
  refine wpList_val hE25 112 rfl rfl fun K hK => ?_
  have e14 := hE25.get 14 rfl
  go_simp
  refine hK _ _ fun a27 hE27 => ?_
  clear hK K e14
  clear hE25 a25
  refine wpList_val hE27 111 rfl rfl fun K hK => ?_
  have e112 := hE27.get 112 rfl
  go_simp
  refine hK _ _ fun a28 hE28 => ?_
  clear hK K e112
  clear hE27 a27
  refine wpList_nil ?_
  refine hK26 _ _ ?_
  clear hK26
  refine wp_if_f hE28 111 rfl ?_
  refine wp_seq_k fun K29 hK29 => ?_
  refine wp_region_lit ?_
  refine wpList_val hE28 121 rfl rfl fun K hK => ?_
  have e14 := hE28.get 14 rfl
  go_simp
  refine hK _ _ fun a30 hE30 => ?_
  clear hK K e14
  clear hE28 a28
  refine wpList_val hE30 120 rfl rfl fun K hK => ?_
  have e121 := hE30.get 121 rfl
  go_simp
  refine hK _ _ fun a31 hE31 => ?_
  clear hK K e121
  clear hE30 a30
  refine wpList_nil ?_
  refine hK29 _ _ ?_
  clear hK29
  refine wp_if_t hE31 120 rfl ?_
  refine wp_seq_k fun K32 hK32 => ?_
  refine wp_sep (l0 := [(0, .agg p.cells), (1, .pointer (some ⟨g101, 0, none⟩)), (2, .nilIface), (13, .pointer (some ⟨g101, 0, none⟩)), (14, .int .i64 8)]) (L0 := [(101, some (ckB (g101) 53 (p.cells)))]) (hE31.keep (l' := [(0, .agg p.cells), (1, .pointer (some ⟨g101, 0, none⟩)), (2, .nilIface), (13, .pointer (some ⟨g101, 0, none⟩)), (14, .int .i64 8)]) ⟨hE31.get 0 rfl, hE31.get 1 rfl, hE31.get 2 rfl, hE31.get 13 rfl, hE31.get 14 rfl, trivial⟩) (hS2.keep (L' := [(101, some (ckB (g101) 53 (p.cells)))]) ⟨rfl, trivial⟩)
    [fun _ => .pointer (some ⟨g101, 1, none⟩),
      fun _ => .int .u32 p.sender,
      fun _ => .pointer (some ⟨g101, 18, none⟩),
      fun _ => .slice p.blocks.A (p.blocks.l.length : Nat) p.blocks.c,
      fun yy => .slice (yy 4).a p.blocks.l.length (capN (yy 4).v),
      fun _ => .pointer (some ⟨g101, 19, none⟩),
      fun _ => .int .u32 p.time,
      fun yy => .agg #[.int .u32 p.sender, .slice (yy 4).a p.blocks.l.length (capN (yy 4).v), .int .u32 p.time],
      fun yy => .pointer (some ⟨(yy 8).g, 0, none⟩),
      fun yy => .iface 177 (.pointer (some ⟨(yy 8).g, 0, none⟩)),
      fun yy => .iface 177 (.pointer (some ⟨(yy 8).g, 0, none⟩))]
    [[], [], [], [], [(1, fun yy => some (ckBlks (yy 4).g (yy 4).c (yy 4).a p.blocks.l.length p.blocks.l))], [], [], [], [(3, fun yy => some (ckB ((yy 8).g) 181 #[.int .u32 p.sender, .slice (yy 4).a p.blocks.l.length (capN (yy 4).v), .int .u32 p.time]))], [], []]
    [[], [101], [], [101], [], [], [101], [], [], [], []]
    (by kernel_rfl) (by kernel_rfl) (by kernel_rfl) rfl ?_ ?_ ?_
  · exact ⟨fun _ _ _ => ⟨rfl, rfl⟩,
      fun _ _ _ => ⟨rfl, rfl⟩,
      fun _ _ _ => ⟨rfl, rfl⟩,
      fun _ _ _ => ⟨rfl, rfl⟩,
      fun yy yy' h => by have h4 := h 4 (.inl rfl); exact ⟨(by show (.slice (yy 4).a p.blocks.l.length (capN (yy 4).v) : Value) = .slice (yy' 4).a p.blocks.l.length (capN (yy' 4).v); rw [h4]), (by show ([(1, some (ckBlks (yy 4).g (yy 4).c (yy 4).a p.blocks.l.length p.blocks.l))] : List (Nat × Option Ck)) = [(1, some (ckBlks (yy' 4).g (yy' 4).c (yy' 4).a p.blocks.l.length p.blocks.l))]; rw [h4])⟩,
      fun _ _ _ => ⟨rfl, rfl⟩,
      fun _ _ _ => ⟨rfl, rfl⟩,
      fun yy yy' h => by have h4 := h 4 (.inr ((hasN_mem _ _).1 (by kernel_rfl))); exact ⟨(by show (.agg #[.int .u32 p.sender, .slice (yy 4).a p.blocks.l.length (capN (yy 4).v), .int .u32 p.time] : Value) = .agg #[.int .u32 p.sender, .slice (yy' 4).a p.blocks.l.length (capN (yy' 4).v), .int .u32 p.time]; rw [h4]), rfl⟩,
      fun yy yy' h => by have h4 := h 4 (.inr ((hasN_mem _ _).1 (by kernel_rfl))); have h8 := h 8 (.inl rfl); exact ⟨(by show (.pointer (some ⟨(yy 8).g, 0, none⟩) : Value) = .pointer (some ⟨(yy' 8).g, 0, none⟩); rw [h8]), (by show ([(3, some (ckB ((yy 8).g) 181 #[.int .u32 p.sender, .slice (yy 4).a p.blocks.l.length (capN (yy 4).v), .int .u32 p.time]))] : List (Nat × Option Ck)) = [(3, some (ckB ((yy' 8).g) 181 #[.int .u32 p.sender, .slice (yy' 4).a p.blocks.l.length (capN (yy' 4).v), .int .u32 p.time]))]; rw [h4, h8])⟩,
      fun yy yy' h => by have h8 := h 8 (.inr ((hasN_mem _ _).1 (by kernel_rfl))); exact ⟨(by show (.iface 177 (.pointer (some ⟨(yy 8).g, 0, none⟩)) : Value) = .iface 177 (.pointer (some ⟨(yy' 8).g, 0, none⟩)); rw [h8]), rfl⟩,
      fun yy yy' h => by have h8 := h 8 (.inr ((hasN_mem _ _).1 (by kernel_rfl))); exact ⟨(by show (.iface 177 (.pointer (some ⟨(yy 8).g, 0, none⟩)) : Value) = .iface 177 (.pointer (some ⟨(yy' 8).g, 0, none⟩)); rw [h8]), rfl⟩, trivial⟩
  · refine ⟨?_, ?_, ?_, ?_, ?_, ?_, ?_, ?_, ?_, ?_, ?_, trivial⟩
    · exact sd_pure (.inl rfl) (fun _ _ => by kernel_rfl) rfl (fun _ => rfl) rfl
    · exact sd_load 101 1 (.inl rfl) (fun _ => by kernel_rfl) rfl (fun _ => rfl) (fun _ => rfl) (fun _ => rfl) rfl
    · exact sd_pure (.inl rfl) (fun _ _ => by kernel_rfl) rfl (fun _ => rfl) rfl
    · exact sd_load 101 18 (.inl rfl) (fun _ => by kernel_rfl) rfl (fun _ => rfl) (fun _ => rfl) (fun _ => rfl) rfl
    · refine sduty_runs (.inl rfl) fun yy a w4 hv K hK => ?_
      have e125 : a.tmps[125]? = some (.slice p.blocks.A (p.blocks.l.length : Nat) p.blocks.c) := hv.get 125 rfl rfl
      go_simp
      refine (blocks_any p.blocks.A p.blocks.c p.blocks.l w4 ((hr.below (hv.mem.old _ (Nat.le_refl _) (fun _ h => h.elim))).more hv.mem.size) hn (fun x hx => ((hi x hx).below (hv.mem.old _ (Nat.le_refl _) (fun _ h => h.elim))).more hv.mem.size) hni).mono ?_
      rintro e w5 ⟨A9, c9, l9, hbare, rfl, hS9⟩
      have hlen : l9.length = p.blocks.l.length := by simpa using congrArg List.length hbare
      have hrow := InRows.of_own (hS9.row 2 rfl)
      have hits := hS9.ok 3 _ rfl
      rw [hlen] at hrow ⊢
      exact hK ⟨w4.heap.size, w5.heap.size, .int .i64 (c9 : Nat), A9⟩ _ (stp_one 1 _ (.inl (hS9.grownBy none fun _ h => h.elim)) ⟨l9, hbare, hlen, hrow, fun x hx => InRows.of_own (hits x hx)⟩ fun g hg => ⟨hg.2, .inl hg.1⟩)
    · exact sd_pure (.inl rfl) (fun _ _ => by kernel_rfl) rfl (fun _ => rfl) rfl
    · exact sd_load 101 19 (.inl rfl) (fun _ => by kernel_rfl) rfl (fun _ => rfl) (fun _ => rfl) (fun _ => rfl) rfl
    · exact sd_pure (.inl rfl) (fun _ _ => by kernel_rfl) rfl (fun _ => rfl) rfl
    · exact sd_new 3 (v := fun _ g => .pointer (some ⟨g, 0, none⟩)) (T := 181) (cs := fun yy => #[.int .u32 p.sender, .slice (yy 4).a p.blocks.l.length (capN (yy 4).v), .int .u32 p.time]) (.inl rfl) (fun _ _ => by kernel_rfl) rfl (fun _ => rfl) (fun _ _ => rfl) (fun _ _ => rfl)
    · exact sd_pure (.inl rfl) (fun _ _ => by kernel_rfl) rfl (fun _ => rfl) rfl
    · exact sd_pure (.inl rfl) (fun _ _ => by kernel_rfl) rfl (fun _ => rfl) rfl
  · intro yy a33 w33_ hE33 hS33
    have hE34 := hE33.keep (l' := [(2, .iface 177 (.pointer (some ⟨(yy 8).g, 0, none⟩)))]) ⟨hE33.get 2 rfl, trivial⟩
    have hS34 := hS33.keep (L' := [(1, some (ckBlks (yy 4).g (yy 4).c (yy 4).a p.blocks.l.length p.blocks.l)), (3, some (ckB ((yy 8).g) 181 #[.int .u32 p.sender, .slice (yy 4).a p.blocks.l.length (capN (yy 4).v), .int .u32 p.time]))]) ⟨rfl, rfl, trivial⟩
    clear hE33 hS33
    generalize (yy 4).a = a34_4 at hE34 hS34
    generalize (yy 4).c = c34_4 at hE34 hS34
    generalize (yy 4).g = g34_4 at hE34 hS34
    generalize (yy 4).v = v34_4 at hE34 hS34
    generalize (yy 8).g = g34_8 at hE34 hS34
    clear yy
    refine hK32 _ _ ?_
    clear hK32
    refine wp_ret ?_
    try simp only [Exit.inBlock, Exit.then]
    obtain ⟨l9, hbare, hlen, hrow, hits⟩ := hS34.ok 1 _ rfl
    have hC := fun g hg => And.intro ((hS34.lt 1 _ rfl g hg).2.resolve_right id) (hS34.lt 1 _ rfl g hg).1
    have hb := hS34.blk 3 rfl
    rw [← hlen] at hb hrow
    refine bodyPost_ret (v := .iface 177 (.pointer (some ⟨g34_8, 0, none⟩))) (by simp [results, Tryz.results29, go_sem, hE34.get 2 rfl]) hE34.defers ⟨_, _, _, l9, hbare, rfl, hS34.ge 3 rfl, hS34.below, hb, hrow.wide hC, fun x hx => (hits x hx).wide hC⟩

theorem built_3 (p : Pkt) (w : World) (hk : p.kind = 3) (hr : p.chunks.Lies w w.heap.size 2 Chunk.cells) (hn : p.chunks.l.length ≤ 2147483647) (hi : ∀ x ∈ p.chunks.l, x.items.Lies w w.heap.size 2 Item.cells) (hni : ∀ x ∈ p.chunks.l, x.items.l.length ≤ 2147483647) :
    Calls Tryz.prog 29 #[.agg p.cells] w fun e w' => ∃ (g : Nat) (A : Option Addr) (c : Nat) (l2 : List Chunk), l2.map Chunk.bare = p.chunks.l.map Chunk.bare ∧ e = .returned (.iface 159 (.pointer (some ⟨g, 0, none⟩))) ∧ w.heap.size ≤ g ∧ Below w.heap.size w w' ∧ Blk w' g 224 #[.slice A (l2.length : Nat) c] ∧ Reads w' w'.heap.size 2 A l2.length (l2.flatMap Chunk.cells) ∧ ∀ x ∈ l2, x.items.Lies w' w'.heap.size 2 Item.cells :=
  (builtN_3 p w hk hr hn hi hni).mono fun e w' ⟨g, A, c, l2, h1, h2, h3, h4, h5, h6, h7⟩ => ⟨g, A, c, l2, h1, h2, h3, h4, h5, h6.reads, fun x hx => (h7 x hx).reads⟩
theorem built_8 (p : Pkt) (w : World) (hk : p.kind = 8) (hr : p.blocks.Lies w w.heap.size 3 Blo.cells) (hn : p.blocks.l.length ≤ 2147483647) (hi : ∀ x ∈ p.blocks.l, x.mets.Lies w w.heap.size 3 Met.cells) (hni : ∀ x ∈ p.blocks.l, x.mets.l.length ≤ 2147483647) :
    Calls Tryz.prog 29 #[.agg p.cells] w fun e w' => ∃ (g : Nat) (A : Option Addr) (c : Nat) (l2 : List Blo), l2.map Blo.bare = p.blocks.l.map Blo.bare ∧ e = .returned (.iface 177 (.pointer (some ⟨g, 0, none⟩))) ∧ w.heap.size ≤ g ∧ Below w.heap.size w w' ∧ Blk w' g 181 #[.int .u32 p.sender, .slice A (l2.length : Nat) c, .int .u32 p.time] ∧ Reads w' w'.heap.size 3 A l2.length (l2.flatMap Blo.cells) ∧ ∀ x ∈ l2, x.mets.Lies w' w'.heap.size 3 Met.cells :=
  (builtN_8 p w hk hr hn hi hni).mono fun e w' ⟨g, A, c, l2, h1, h2, h3, h4, h5, h6, h7⟩ => ⟨g, A, c, l2, h1, h2, h3, h4, h5, h6.reads, fun x hx => (h7 x hx).reads⟩
end Go.Proofs.YtmmfpgoodfgkbaaGreat
