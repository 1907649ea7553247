/-
  THE WALKS of the thin package's turns of lists of lists: descriptions with their items, blocks with their metrics; the same numbers and texts, in new memory. Condition: fewer than 2^31 elements in each list.
-/
import Derived.Test.YtmmfpgoodfgkbaaGreatMSep
import Derived.Test.YtmmfpgoodfgkbaaGreatMPkt
import Derived.Test.YtmmfpgoodfgkbaaGreatMEnv
namespace Go.Proofs.YtmmfpgoodfgkbaaGreat
open Go Go.RowKit
set_option linter.unusedVariables false

theorem chunk_cells_len (l : List Chunk) : ∀ x ∈ l, (Chunk.cells x).length = 2 := fun _ _ => rfl
theorem item_cells_len (l : List Item) : ∀ x ∈ l, (Item.cells x).length = 2 := fun _ _ => rfl
theorem blo_cells_len (l : List Blo) : ∀ x ∈ l, (Blo.cells x).length = 3 := fun _ _ => rfl
theorem met_cells_len (l : List Met) : ∀ x ∈ l, (Met.cells x).length = 3 := fun _ _ => rfl
theorem elemI : Elem Tryz.prog 225 230 (.agg #[.int .u8 0, .string ByteArray.empty]) 2 24 := ⟨Tryz.underlying225, by kernel_rfl, rfl, by omega, by omega⟩
theorem elemC : Elem Tryz.prog 222 227 (.agg #[.int .u32 0, .slice none 0 0]) 2 32 := ⟨Tryz.underlying222, by kernel_rfl, rfl, by omega, by omega⟩
theorem elemM : Elem Tryz.prog 231 236 (.agg #[.bool false, .int .u8 0, .int .u16 0]) 3 4 := ⟨Tryz.underlying231, by kernel_rfl, rfl, by omega, by omega⟩
theorem elemBk : Elem Tryz.prog 178 233 (.agg #[.int .u32 0, .int .u16 0, .slice none 0 0]) 3 32 := ⟨Tryz.underlying178, by kernel_rfl, rfl, by omega, by omega⟩

set_option maxHeartbeats 4000000 in
set_option maxRecDepth 100000 in
theorem description_any (A : Option Addr) (c : Nat) (l : List Chunk) (w : World) (hr : Reads w w.heap.size 2 A l.length (l.flatMap Chunk.cells)) (hn : l.length ≤ 2147483647) (hri : ∀ x ∈ l, x.items.Lies w w.heap.size 2 Item.cells) (hni : ∀ x ∈ l, x.items.l.length ≤ 2147483647) :
    Calls Tryz.prog 56 #[.slice A (l.length : Nat) c] w fun e w' => ∃ g A2 c2 l2, l2.map Chunk.bare = l.map Chunk.bare ∧ e = .returned (.pointer (some ⟨g, 0, none⟩)) ∧ Stp (fun _ => False) w w' (lookM [(1, some (ckB g 224 #[.slice A2 (l2.length : Nat) c2])), (2, some (ckR w.heap.size 227 2 (.slice A2 (l2.length : Nat) c2) l2.length (l2.flatMap Chunk.cells))), (3, some (ckRs w.heap.size 230 2 (fun x : Chunk => x.items.val) (fun x => x.items.l.flatMap Item.cells) (fun x => x.items.l.length) l2))]) := by
  refine calls_of_wp Tryz.func56 rfl ?_
  rw [Tryz.ntmps56]
  have hE0 : Env 50 [(0, .slice A (l.length : Nat) c)] ⟨#[.slice A (l.length : Nat) c] ++ Array.replicate (50 - (#[.slice A (l.length : Nat) c] : Array Value).size) undef, []⟩ := Env.enter _ (by simp) ⟨by simp, trivial⟩
  generalize (⟨#[.slice A (l.length : Nat) c] ++ Array.replicate (50 - (#[.slice A (l.length : Nat) c] : Array Value).size) undef, []⟩ : Act) = a0 at hE0 ⊢
  have hS0 : Stp (fun _ => False) w w (lookM []) := Stp.refl w
  refine wp_seq_k fun K1 hK1 => ?_
  refine wp_region_lit ?_
  refine wpList_val hE0 2 rfl rfl fun K hK => ?_
  go_simp
  refine hK _ _ fun a2 hE2 => ?_
  clear hK K
  clear hE0 a0
  refine wpList_nil ?_
  refine hK1 _ _ ?_
  clear hK1
  refine wp_seq_k fun K3 hK3 => ?_
  refine wp_region_lit ?_
  refine seq_pure hE2 9 (.agg #[.slice none 0 0]) (fun w => by kernel_rfl) rfl rfl rfl rfl rfl fun a4 hE4 => ?_
  clear hE2 a2
  refine seq_new hE4 hS0 10 1 (fun g => .pointer (some ⟨g, 0, none⟩)) 224 #[.slice none 0 0] (fun w => by kernel_rfl) rfl rfl rfl rfl rfl fun a5 u1 g1 hE5 hS5 => ?_
  clear hE4 a4
  clear hS0
  refine seq_pure hE5 3 (.pointer (some ⟨g1, 0, none⟩)) (fun w => by kernel_rfl) rfl rfl rfl rfl rfl fun a6 hE6 => ?_
  clear hE5 a5
  refine wpList_nil ?_
  have hS7 := ckRs_nil (ckR_nil hS5 2 w.heap.size 227 2) 3 w.heap.size 230 2 (fun x : Chunk => x.items.val) (fun x => x.items.l.flatMap Item.cells) (fun x => x.items.l.length)
  clear hS5
  refine hK3 _ _ ?_
  clear hK3
  refine wp_seq_k fun K8 hK8 => ?_
  refine wp_seq_k fun K9 hK9 => ?_
  refine wp_region_lit ?_
  refine seq_pure hE6 11 (.slice A (l.length : Nat) c) (fun w => by kernel_rfl) rfl rfl rfl rfl rfl fun a10 hE10 => ?_
  clear hE6 a6
  refine wpList_val hE10 12 rfl rfl fun K hK => ?_
  have e11 := hE10.get 11 rfl
  go_simp
  refine hK _ _ fun a11 hE11 => ?_
  clear hK K e11
  clear hE10 a10
  refine seq_pure hE11 13 (.int .i64 0) (fun w => by kernel_rfl) rfl rfl rfl rfl rfl fun a12 hE12 => ?_
  clear hE11 a11
  refine wpList_nil ?_
  refine hK9 _ _ ?_
  clear hK9
  refine wp_block ?_
  refine wp_loop_up l.length (fun k a w' => ∃ A2 c2 l2, l2.map Chunk.bare = (l.take k).map Chunk.bare ∧ Env 50 [(3, .pointer (some ⟨g1, 0, none⟩)), (11, .slice A (l.length : Nat) c), (12, .int .i64 (l.length : Nat)), (13, .int .i64 (k : Nat))] a ∧ Stp (fun _ => False) w w' (lookM [(1, some (ckB g1 224 #[.slice A2 (l2.length : Nat) c2])), (2, some (ckR w.heap.size 227 2 (.slice A2 (l2.length : Nat) c2) l2.length (l2.flatMap Chunk.cells))), (3, some (ckRs w.heap.size 230 2 (fun x : Chunk => x.items.val) (fun x => x.items.l.flatMap Item.cells) (fun x => x.items.l.length) l2))])) ⟨none, 0, [], rfl, hE12.keep ⟨hE12.get 3 rfl, hE12.get 11 rfl, hE12.get 12 rfl, hE12.get 13 rfl, trivial⟩, hS7.keep ⟨rfl, rfl, rfl, trivial⟩⟩ ?_
  clear hE12 hS7 a12
  clear u1
  intro k a2 w2 hkl ⟨A2, c2, l2, hm2, hE2, hS2⟩ K hK
  have hk2 : l2.length = k := by have := congrArg List.length hm2; simp at this; omega
  have hb2 : l2.length ≤ 2147483647 := by omega
  have Hm2 := Lib.hid hm2
  clear hm2
  have Hk2 := Lib.hid hk2
  clear hk2
  by_cases hlt : k < l.length
  case pos =>
    obtain ⟨b1, off, rfl, hbB⟩ := hr.addr (by omega) (by omega)
    have hrw := hr.below hS2.below
    obtain ⟨r, hrk⟩ : ∃ r, r = l[k] := ⟨_, rfl⟩
    have e0 := hrw.at2 (chunk_cells_len l) k 0 hlt (by omega) (v := .int .u32 r.src) (by rw [hrk]; rfl)
    have e1 := hrw.at2 (chunk_cells_len l) k 1 hlt (by omega) (v := .slice r.items.A (r.items.l.length : Nat) r.items.c) (by rw [hrk]; rfl)
    simp only [Nat.add_zero] at e0
    have hit : Reads w w.heap.size 2 r.items.A r.items.l.length (r.items.l.flatMap Item.cells) := hri r (by rw [hrk]; exact List.getElem_mem _)
    have hin := hni r (by rw [hrk]; exact List.getElem_mem _)
    have Hrk := Lib.hid hrk
    clear hrk hrw hri hni
    obtain ⟨y, ⟨A1, c1, li⟩⟩ := r
    simp only at e0 e1 hit hin
    have hi1 : (k : Int) < (l.length : Int) := by omega
    have hi0 : (0 : Int) ≤ (k : Int) := by omega
    have hw1 : IntKind.i64.wrap ((k : Int) + 1) = (k : Int) + 1 := IntWalk.i64_in _ (by omega)
    have hzb : b1 < w2.heap.size := by have := hS2.size; omega
    refine wp_seq_k fun K13 hK13 => ?_
    refine wp_region_lit ?_
    refine wpList_val hE2 14 rfl rfl fun K hK => ?_
    have e12 := hE2.get 12 rfl
    have e13 := hE2.get 13 rfl
    go_simp
    refine hK _ _ fun a14 hE14 => ?_
    clear hK K e12 e13
    clear hE2 a2
    refine wpList_nil ?_
    refine hK13 _ _ ?_
    clear hK13
    refine wp_seq_k fun K15 hK15 => ?_
    refine wp_if_t hE14 14 rfl ?_
    refine wp_skip ?_
    refine hK15 _ _ ?_
    clear hK15
    refine wp_seq_k fun K16 hK16 => ?_
    refine wp_block ?_
    refine wp_seq_k fun K17 hK17 => ?_
    refine wp_region_lit ?_
    refine wpList_val hE14 15 rfl rfl fun K hK => ?_
    have e11 := hE14.get 11 rfl
    have e13 := hE14.get 13 rfl
    go_simp
    refine hK _ _ fun a18 hE18 => ?_
    clear hK K e11 e13
    clear hE14 a14
    refine wpList_val hE18 16 rfl rfl fun K hK => ?_
    have e15 := hE18.get 15 rfl
    go_simp
    refine hK _ _ fun a19 hE19 => ?_
    clear hK K e15
    clear hE18 a18
    refine wpList_val hE19 5 rfl rfl fun K hK => ?_
    go_simp
    refine hK _ _ fun a20 hE20 => ?_
    clear hK K
    clear hE19 a19
    refine wpList_none rfl fun K hK => ?_
    have e5 := hE20.get 5 rfl
    have e16 := hE20.get 16 rfl
    go_simp
    refine hK undef _ ?_
    clear hK K e5 e16
    refine wpList_nil ?_
    have hS22 := hS2.alloc 5 92 #[.int .u32 y, .slice A1 (li.length : Nat) c1]
    clear hS2
    generalize w2.alloc (.cells #[.int .u32 y, .slice A1 (li.length : Nat) c1] 92) = u2 at *
    generalize w2.heap.size = g5 at *
    clear e0 e1 hzb hr
    refine hK17 _ _ ?_
    clear hK17
    refine wp_seq_k fun K23 hK23 => ?_
    refine wp_region_lit ?_
    refine seq_pure hE20 17 (.pointer (some ⟨g5, 0, none⟩)) (fun w => by kernel_rfl) rfl rfl rfl rfl rfl fun a24 hE24 => ?_
    clear hE20 a20
    refine seq_load hE24 hS22 18 5 0 (v := .int .u32 y) (fun w => by kernel_rfl) rfl rfl rfl rfl rfl rfl rfl fun a25 hE25 => ?_
    clear hE24 a24
    refine seq_pure hE25 19 (.agg #[.int .u32 y, .slice none 0 0]) (fun w => by kernel_rfl) rfl rfl rfl rfl rfl fun a26 hE26 => ?_
    clear hE25 a25
    refine seq_new hE26 hS22 6 6 (fun g => .pointer (some ⟨g, 0, none⟩)) 227 #[.int .u32 0, .slice none 0 0] (fun w => by kernel_rfl) rfl rfl rfl rfl rfl fun a27 u3 g6 hE27 hS27 => ?_
    clear hE26 a26
    clear hS22
    clear u2
    refine wpList_none rfl fun K hK => ?_
    have e6 := hE27.get 6 rfl
    have e19 := hE27.get 19 rfl
    refine wp_store_blk 227 _ _ rfl g6 _ _ _ (hE27.ev 6 rfl) (hE27.ev 19 rfl) (hS27.blk 6 rfl) rfl (by kernel_rfl) (by simp [Value.oneCell']) fun u9 hb9 hg9 hz9 => ?_
    refine hK undef _ ?_
    clear hK K e6 e19
    have hS9 := hS27.step_ 6 _ (ckB g6 227 #[.int .u32 y, .slice none 0 0]) rfl hg9 (fun g hg => by injection hg with hg; exact hg.symm) hb9 (fun g hg => by have : g = g6 := hg; subst this; exact ⟨hb9.lt, .inr rfl⟩)
    clear hS27 hb9 hg9 hz9
    refine wpList_nil ?_
    clear u3
    refine hK23 _ _ ?_
    clear hK23
    refine wp_seq_k fun K29 hK29 => ?_
    refine wp_seq_k fun K30 hK30 => ?_
    refine wp_region_lit ?_
    refine seq_pure hE27 20 (.pointer (some ⟨g5, 1, none⟩)) (fun w => by kernel_rfl) rfl rfl rfl rfl rfl fun a31 hE31 => ?_
    clear hE27 a27
    refine seq_load hE31 hS9 21 5 1 (v := .slice A1 (li.length : Nat) c1) (fun w => by kernel_rfl) rfl rfl rfl rfl rfl rfl rfl fun a32 hE32 => ?_
    clear hE31 a31
    refine wpList_val hE32 22 rfl rfl fun K hK => ?_
    have e21 := hE32.get 21 rfl
    go_simp
    refine hK _ _ fun a33 hE33 => ?_
    clear hK K e21
    clear hE32 a32
    refine seq_pure hE33 23 (.int .i64 0) (fun w => by kernel_rfl) rfl rfl rfl rfl rfl fun a34 hE34 => ?_
    clear hE33 a33
    refine wpList_nil ?_
    have hS35 := ckR_nil hS9 7 w.heap.size 230 2
    clear hS9
    refine hK30 _ _ ?_
    clear hK30
    refine wp_block ?_
    refine wp_loop_up li.length (fun j a w' => ∃ A3 c3, Env 50 [(3, .pointer (some ⟨g1, 0, none⟩)), (11, .slice (some ⟨b1, off, none⟩) (l.length : Nat) c), (12, .int .i64 (l.length : Nat)), (13, .int .i64 (k : Nat)), (6, .pointer (some ⟨g6, 0, none⟩)), (21, .slice A1 (li.length : Nat) c1), (22, .int .i64 (li.length : Nat)), (23, .int .i64 (j : Nat))] a ∧ Stp (fun _ => False) w w' (lookM [(1, some (ckB (g1) 224 #[.slice A2 (l2.length : Nat) c2])), (2, some (ckR (w.heap.size) 227 2 (.slice A2 (l2.length : Nat) c2) (l2.length) (l2.flatMap Chunk.cells))), (3, some (ckRs w.heap.size 230 2 (fun x : Chunk => x.items.val) (fun x => x.items.l.flatMap Item.cells) (fun x => x.items.l.length) l2)), (6, some (ckB g6 227 #[.int .u32 y, .slice A3 (j : Nat) c3])), (7, some (ckR w.heap.size 230 2 (.slice A3 (j : Nat) c3) j ((li.take j).flatMap Item.cells)))])) ⟨none, 0, hE34.keep ⟨hE34.get 3 rfl, hE34.get 11 rfl, hE34.get 12 rfl, hE34.get 13 rfl, hE34.get 6 rfl, hE34.get 21 rfl, hE34.get 22 rfl, hE34.get 23 rfl, trivial⟩, hS35.keep ⟨rfl, rfl, rfl, rfl, rfl, trivial⟩⟩ ?_
    clear hE34 hS35 a34 u9
    intro j a3 w3 hjl ⟨A3, c3, hE3, hS3⟩ Kj hKj
    by_cases hltj : j < li.length
    case pos =>
      obtain ⟨b2, off2, rfl, hbB2⟩ := hit.addr (by omega) (by omega)
      have hrw := hit.below hS3.below
      obtain ⟨r, hrj⟩ : ∃ r, r = li[j] := ⟨_, rfl⟩
      have e0 := hrw.at2 (item_cells_len li) j 0 hltj (by omega) (v := .int .u8 r.ty) (by rw [hrj]; rfl)
      have e1 := hrw.at2 (item_cells_len li) j 1 hltj (by omega) (v := .string r.text) (by rw [hrj]; rfl)
      simp only [Nat.add_zero] at e0
      have Hrj := Lib.hid hrj
      clear hrj hrw
      obtain ⟨b, s⟩ := r
      simp only at e0 e1
      have hj1 : (j : Int) < (li.length : Int) := by omega
      have hj0 : (0 : Int) ≤ (j : Int) := by omega
      have hwj : IntKind.i64.wrap ((j : Int) + 1) = (j : Int) + 1 := IntWalk.i64_in _ (by omega)
      have hzb : b2 < w3.heap.size := by have := hS3.size; omega
      refine wp_seq_k fun K36 hK36 => ?_
      refine wp_region_lit ?_
      refine wpList_val hE3 24 rfl rfl fun K hK => ?_
      have e22 := hE3.get 22 rfl
      have e23 := hE3.get 23 rfl
      go_simp
      refine hK _ _ fun a37 hE37 => ?_
      clear hK K e22 e23
      clear hE3 a3
      refine wpList_nil ?_
      refine hK36 _ _ ?_
      clear hK36
      refine wp_seq_k fun K38 hK38 => ?_
      refine wp_if_t hE37 24 rfl ?_
      refine wp_skip ?_
      refine hK38 _ _ ?_
      clear hK38
      refine wp_seq_k fun K39 hK39 => ?_
      refine wp_block ?_
      refine wp_seq_k fun K40 hK40 => ?_
      refine wp_region_lit ?_
      refine wpList_val hE37 25 rfl rfl fun K hK => ?_
      have e21 := hE37.get 21 rfl
      have e23 := hE37.get 23 rfl
      go_simp
      refine hK _ _ fun a41 hE41 => ?_
      clear hK K e21 e23
      clear hE37 a37
      refine wpList_val hE41 26 rfl rfl fun K hK => ?_
      have e25 := hE41.get 25 rfl
      go_simp
      refine hK _ _ fun a42 hE42 => ?_
      clear hK K e25
      clear hE41 a41
      refine wpList_val hE42 8 rfl rfl fun K hK => ?_
      go_simp
      refine hK _ _ fun a43 hE43 => ?_
      clear hK K
      clear hE42 a42
      refine wpList_none rfl fun K hK => ?_
      have e8 := hE43.get 8 rfl
      have e26 := hE43.get 26 rfl
      go_simp
      refine hK undef _ ?_
      clear hK K e8 e26
      refine wpList_nil ?_
      have hS45 := hS3.alloc 8 95 #[.int .u8 b, .string s]
      clear hS3
      generalize w3.alloc (.cells #[.int .u8 b, .string s] 95) = u4 at *
      generalize w3.heap.size = g8 at *
      clear e0 e1 hzb
      refine hK40 _ _ ?_
      clear hK40
      refine wp_region_lit ?_
      refine seq_pure hE43 27 (.pointer (some ⟨g6, 1, none⟩)) (fun w => by kernel_rfl) rfl rfl rfl rfl rfl fun a46 hE46 => ?_
      clear hE43 a43
      refine seq_load hE46 hS45 28 6 1 (v := .slice A3 (j : Nat) c3) (fun w => by kernel_rfl) rfl rfl rfl rfl rfl rfl rfl fun a47 hE47 => ?_
      clear hE46 a46
      refine seq_pure hE47 29 (.pointer (some ⟨g8, 0, none⟩)) (fun w => by kernel_rfl) rfl rfl rfl rfl rfl fun a48 hE48 => ?_
      clear hE47 a47
      refine seq_load hE48 hS45 30 8 0 (v := .int .u8 b) (fun w => by kernel_rfl) rfl rfl rfl rfl rfl rfl rfl fun a49 hE49 => ?_
      clear hE48 a48
      refine seq_pure hE49 31 (.pointer (some ⟨g8, 1, none⟩)) (fun w => by kernel_rfl) rfl rfl rfl rfl rfl fun a50 hE50 => ?_
      clear hE49 a49
      refine seq_load hE50 hS45 32 8 1 (v := .string s) (fun w => by kernel_rfl) rfl rfl rfl rfl rfl rfl rfl fun a51 hE51 => ?_
      clear hE50 a50
      refine seq_pure hE51 33 (.agg #[.int .u8 b, .string s]) (fun w => by kernel_rfl) rfl rfl rfl rfl rfl fun a52 hE52 => ?_
      clear hE51 a51
      refine seq_new hE52 hS45 34 9 (fun g => .slice (some ⟨g, 0, none⟩) 1 1) 230 #[.int .u8 b, .string s] (fun w => by kernel_rfl) rfl rfl rfl rfl rfl fun a53 u5 g9 hE53 hS53 => ?_
      clear hE52 a52
      clear hS45
      clear u4
      refine wpList_val hE53 35 rfl rfl fun K hK => ?_
      refine wp_app_src _ _ _ rfl elemI (w.heap.size) _ (j) ((li.take j).flatMap Item.cells) _ (some ⟨g9, 0, none⟩) 1 1 (#[.int .u8 b, .string s]).toList (hS53.row 7 rfl) (hE53.ev 28 rfl) (hE53.ev 34 rfl) (blk_reads (hS53.blk 9 rfl) 2 1 rfl) (by simp [Value.oneCell']) (by omega) (by have := hS53.size; omega) (by omega) fun g54 c54 u6 ho54 hg54 hor54 => ?_
      have hS54 := hS53.app 7 rfl ho54 hg54 (own_or hor54)
      refine hK _ _ fun a54 hE54 => ?_
      clear hK K ho54 hg54 hor54 hS53
      clear hE53 a53
      clear u5
      refine seq_pure hE54 36 (.pointer (some ⟨g6, 1, none⟩)) (fun w => by kernel_rfl) rfl rfl rfl rfl rfl fun a55 hE55 => ?_
      clear hE54 a54
      refine seq_store hE55 hS54 6 1 (fun w => by kernel_rfl) rfl rfl rfl rfl rfl rfl rfl rfl rfl fun u7 hS56 => ?_
      clear hS54
      clear u6
      refine wpList_nil ?_
      refine hK39 _ _ ?_
      clear hK39
      refine wp_region_lit ?_
      refine wpList_val hE55 37 rfl rfl fun K hK => ?_
      have e23 := hE55.get 23 rfl
      go_simp
      refine hK _ _ fun a57 hE57 => ?_
      clear hK K e23
      clear hE55 a55
      refine wpList_val hE57 23 rfl rfl fun K hK => ?_
      have e37 := hE57.get 37 rfl
      go_simp
      refine hK _ _ fun a58 hE58 => ?_
      clear hK K e37
      clear hE57 a57
      refine wpList_nil ?_
      have et : (li.take (j + 1)).flatMap Item.cells = (li.take j).flatMap Item.cells ++ (⟨b, s⟩ : Item).cells := by rw [flat_take_succ _ _ _ hltj, Hrj.out]
      refine hKj _ _ hltj ⟨(some ⟨g54, 0, none⟩), c54, hE58.keep ⟨hE58.get 3 rfl, hE58.get 11 rfl, hE58.get 12 rfl, hE58.get 13 rfl, hE58.get 6 rfl, hE58.get 21 rfl, hE58.get 22 rfl, (hE58.get 23 rfl).trans (congrArg some (by go_num)), trivial⟩, ?_⟩
      rw [et]
      exact hS56.keep ⟨rfl, rfl, rfl, rfl, rfl, trivial⟩
    case neg =>
      obtain rfl : j = li.length := by omega
      have hj1 : ¬ (li.length : Int) < (li.length : Int) := by omega
      rw [List.take_length] at hS3
      refine wp_seq_k fun K59 hK59 => ?_
      refine wp_region_lit ?_
      refine wpList_val hE3 24 rfl rfl fun K hK => ?_
      have e22 := hE3.get 22 rfl
      have e23 := hE3.get 23 rfl
      go_simp
      refine hK _ _ fun a60 hE60 => ?_
      clear hK K e22 e23
      clear hE3 a3
      refine wpList_nil ?_
      refine hK59 _ _ ?_
      clear hK59
      refine wp_seq_k fun K61 hK61 => ?_
      refine wp_if_f hE60 24 rfl ?_
      refine wp_exit ?_
      refine hK29 _ _ ?_
      clear hK29
      have hS62 := hS3.merge 3 7 (⟨y, ⟨A3, c3, li⟩⟩ : Chunk) rfl rfl (by decide)
      clear hS3
      refine wp_sep (l0 := [(3, .pointer (some ⟨g1, 0, none⟩)), (11, .slice (some ⟨b1, off, none⟩) (l.length : Nat) c), (12, .int .i64 (l.length : Nat)), (13, .int .i64 (k : Nat)), (6, .pointer (some ⟨g6, 0, none⟩)), (21, .slice A1 (li.length : Nat) c1), (22, .int .i64 (li.length : Nat)), (23, .int .i64 (li.length : Nat))]) (L0 := [(1, some (ckB (g1) 224 #[.slice A2 (l2.length : Nat) c2])), (2, some (ckR (w.heap.size) 227 2 (.slice A2 (l2.length : Nat) c2) (l2.length) (l2.flatMap Chunk.cells))), (3, some (ckRs w.heap.size 230 2 (fun x : Chunk => x.items.val) (fun x => x.items.l.flatMap Item.cells) (fun x => x.items.l.length) (l2 ++ [(⟨y, ⟨A3, c3, li⟩⟩ : Chunk)]))), (6, some (ckB (g6) 227 #[.int .u32 y, .slice A3 (li.length : Nat) c3]))]) (hE60.keep (l' := [(3, .pointer (some ⟨g1, 0, none⟩)), (11, .slice (some ⟨b1, off, none⟩) (l.length : Nat) c), (12, .int .i64 (l.length : Nat)), (13, .int .i64 (k : Nat)), (6, .pointer (some ⟨g6, 0, none⟩)), (21, .slice A1 (li.length : Nat) c1), (22, .int .i64 (li.length : Nat)), (23, .int .i64 (li.length : Nat))]) ⟨hE60.get 3 rfl, hE60.get 11 rfl, hE60.get 12 rfl, hE60.get 13 rfl, hE60.get 6 rfl, hE60.get 21 rfl, hE60.get 22 rfl, hE60.get 23 rfl, trivial⟩) (hS62.keep (L' := [(1, some (ckB (g1) 224 #[.slice A2 (l2.length : Nat) c2])), (2, some (ckR (w.heap.size) 227 2 (.slice A2 (l2.length : Nat) c2) (l2.length) (l2.flatMap Chunk.cells))), (3, some (ckRs w.heap.size 230 2 (fun x : Chunk => x.items.val) (fun x => x.items.l.flatMap Item.cells) (fun x => x.items.l.length) (l2 ++ [(⟨y, ⟨A3, c3, li⟩⟩ : Chunk)]))), (6, some (ckB (g6) 227 #[.int .u32 y, .slice A3 (li.length : Nat) c3]))]) ⟨rfl, rfl, rfl, rfl, trivial⟩)
        [fun _ => .pointer (some ⟨g1, 0, none⟩),
          fun _ => .pointer (some ⟨g1, 0, none⟩),
          fun _ => .pointer (some ⟨g1, 0, none⟩),
          fun _ => .pointer (some ⟨g1, 0, none⟩),
          fun _ => .slice A2 (l2.length : Nat) c2,
          fun _ => .agg #[.int .u32 y, .slice A3 (li.length : Nat) c3],
          fun yy => .slice (some ⟨(yy 6).g, 0, none⟩) 1 1,
          fun yy => .slice (some ⟨(yy 7).g, 0, none⟩) (l2.length + 1) (yy 7).c,
          fun _ => .pointer (some ⟨g1, 0, none⟩),
          fun _ => .pointer (some ⟨g1, 0, none⟩),
          fun _ => undef]
        [[], [], [], [], [], [], [(9, fun yy => some (ckB ((yy 6).g) 227 #[.int .u32 y, .slice A3 (li.length : Nat) c3]))], [(2, fun yy => some (ckR (w.heap.size) 227 2 (.slice (some ⟨(yy 7).g, 0, none⟩) (l2.length + 1) (yy 7).c) ((l2.length + 1)) (l2.flatMap Chunk.cells ++ (#[.int .u32 y, .slice A3 (li.length : Nat) c3] : Array Value).toList)))], [], [], [(1, fun yy => some (ckB (g1) 224 #[.slice (some ⟨(yy 7).g, 0, none⟩) (l2.length + 1) (yy 7).c]))]]
        [[], [], [], [], [1], [6], [], [9], [], [], []]
        (by kernel_rfl) (by kernel_rfl) (by kernel_rfl) rfl ?_ ?_ ?_
      · exact ⟨fun _ _ _ => ⟨rfl, rfl⟩,
          fun _ _ _ => ⟨rfl, rfl⟩,
          fun _ _ _ => ⟨rfl, rfl⟩,
          fun _ _ _ => ⟨rfl, rfl⟩,
          fun _ _ _ => ⟨rfl, rfl⟩,
          fun _ _ _ => ⟨rfl, rfl⟩,
          fun yy yy' h => by have h6 := h 6 (.inl rfl); exact ⟨(by show (.slice (some ⟨(yy 6).g, 0, none⟩) 1 1 : Value) = .slice (some ⟨(yy' 6).g, 0, none⟩) 1 1; rw [h6]), (by show ([(9, some (ckB ((yy 6).g) 227 #[.int .u32 y, .slice A3 (li.length : Nat) c3]))] : List (Nat × Option Ck)) = [(9, some (ckB ((yy' 6).g) 227 #[.int .u32 y, .slice A3 (li.length : Nat) c3]))]; rw [h6])⟩,
          fun yy yy' h => by have h7 := h 7 (.inl rfl); exact ⟨(by show (.slice (some ⟨(yy 7).g, 0, none⟩) (l2.length + 1) (yy 7).c : Value) = .slice (some ⟨(yy' 7).g, 0, none⟩) (l2.length + 1) (yy' 7).c; rw [h7]), (by show ([(2, some (ckR (w.heap.size) 227 2 (.slice (some ⟨(yy 7).g, 0, none⟩) (l2.length + 1) (yy 7).c) ((l2.length + 1)) (l2.flatMap Chunk.cells ++ (#[.int .u32 y, .slice A3 (li.length : Nat) c3] : Array Value).toList)))] : List (Nat × Option Ck)) = [(2, some (ckR (w.heap.size) 227 2 (.slice (some ⟨(yy' 7).g, 0, none⟩) (l2.length + 1) (yy' 7).c) ((l2.length + 1)) (l2.flatMap Chunk.cells ++ (#[.int .u32 y, .slice A3 (li.length : Nat) c3] : Array Value).toList)))]; rw [h7])⟩,
          fun _ _ _ => ⟨rfl, rfl⟩,
          fun _ _ _ => ⟨rfl, rfl⟩,
          fun yy yy' h => by have h7 := h 7 (.inr ((hasN_mem _ _).1 (by kernel_rfl))); exact ⟨rfl, (by show ([(1, some (ckB (g1) 224 #[.slice (some ⟨(yy 7).g, 0, none⟩) (l2.length + 1) (yy 7).c]))] : List (Nat × Option Ck)) = [(1, some (ckB (g1) 224 #[.slice (some ⟨(yy' 7).g, 0, none⟩) (l2.length + 1) (yy' 7).c]))]; rw [h7])⟩, trivial⟩
      · refine ⟨?_, ?_, ?_, ?_, ?_, ?_, ?_, ?_, ?_, ?_, ?_, trivial⟩
        · exact sd_pure (.inl rfl) (fun _ _ => by kernel_rfl) rfl (fun _ => rfl) rfl
        · exact sd_pure (.inl rfl) (fun _ _ => by kernel_rfl) rfl (fun _ => rfl) rfl
        · exact sd_pure (.inl rfl) (fun _ _ => by kernel_rfl) rfl (fun _ => rfl) rfl
        · exact sd_pure (.inl rfl) (fun _ _ => by kernel_rfl) rfl (fun _ => rfl) rfl
        · exact sd_load 1 0 (.inl rfl) (fun _ => by kernel_rfl) rfl (fun _ => rfl) (fun _ => rfl) (fun _ => rfl) rfl
        · exact sd_loadN 6 (.inl rfl) Tryz.underlying227 (fun _ => by kernel_rfl) rfl (fun _ => rfl) (fun _ => rfl) (fun _ => rfl) rfl rfl
        · exact sd_new 9 (v := fun _ g => .slice (some ⟨g, 0, none⟩) 1 1) (T := 227) (cs := fun yy => #[.int .u32 y, .slice A3 (li.length : Nat) c3]) (.inl rfl) (fun _ _ => by kernel_rfl) rfl (fun _ => rfl) (fun _ _ => rfl) (fun _ _ => rfl)
        · refine sduty_runs (.inl rfl) fun yy a w4 hv K hK => ?_
          have e42 : a.tmps[42]? = some (.slice A2 (l2.length : Nat) c2) := hv.get 42 rfl rfl
          have e44 : a.tmps[44]? = some (.slice (some ⟨(yy 6).g, 0, none⟩) 1 1) := hv.get 44 rfl rfl
          refine wp_app_src _ _ _ rfl elemC w.heap.size (.slice A2 (l2.length : Nat) c2) l2.length (l2.flatMap Chunk.cells) _ (some ⟨(yy 6).g, 0, none⟩) 1 1 (#[.int .u32 y, .slice A3 (li.length : Nat) c3] : Array Value).toList (hv.mem.row 2 rfl) (by simp [Act.eval, e42]) (by simp [Act.eval, e44]) (blk_reads (hv.mem.blk 9 rfl) 2 1 rfl) (by simp [Value.oneCell']) (by omega) hv.mem.size (by omega) fun ga ca wa howna hga hora => ?_
          exact hK ⟨ga, ca, undef, none⟩ _ (stp_app 2 howna hga (fun g hg => ⟨2, by simp, _, rfl, hg⟩) (own_or hora))
        · exact sd_pure (.inl rfl) (fun _ _ => by kernel_rfl) rfl (fun _ => rfl) rfl
        · exact sd_pure (.inl rfl) (fun _ _ => by kernel_rfl) rfl (fun _ => rfl) rfl
        · exact sd_store 1 0 (.inl rfl) (fun _ => by kernel_rfl) rfl (fun _ => rfl) (fun _ => rfl) (fun _ => rfl) (fun _ => rfl) (fun _ => rfl) (fun _ => rfl) (fun _ => rfl) (fun _ => rfl)
      · intro yy a63 w63_ hE63 hS63
        have hE64 := hE63.keep (l' := [(3, .pointer (some ⟨g1, 0, none⟩)), (11, .slice (some ⟨b1, off, none⟩) (l.length : Nat) c), (12, .int .i64 (l.length : Nat)), (13, .int .i64 (k : Nat))]) ⟨hE63.get 3 rfl, hE63.get 11 rfl, hE63.get 12 rfl, hE63.get 13 rfl, trivial⟩
        have hS64 := hS63.keep (L' := [(1, some (ckB (g1) 224 #[.slice (some ⟨(yy 7).g, 0, none⟩) (l2.length + 1) (yy 7).c])), (2, some (ckR (w.heap.size) 227 2 (.slice (some ⟨(yy 7).g, 0, none⟩) (l2.length + 1) (yy 7).c) ((l2.length + 1)) (l2.flatMap Chunk.cells ++ (#[.int .u32 y, .slice A3 (li.length : Nat) c3] : Array Value).toList))), (3, some (ckRs w.heap.size 230 2 (fun x : Chunk => x.items.val) (fun x => x.items.l.flatMap Item.cells) (fun x => x.items.l.length) (l2 ++ [(⟨y, ⟨A3, c3, li⟩⟩ : Chunk)])))]) ⟨rfl, rfl, rfl, trivial⟩
        clear hE63 hS63
        generalize (yy 7).c = c64_7 at hE64 hS64
        generalize (yy 7).g = g64_7 at hE64 hS64
        clear yy
        refine hK16 _ _ ?_
        clear hK16
        refine wp_region_lit ?_
        refine wpList_val hE64 48 rfl rfl fun K hK => ?_
        have e13 := hE64.get 13 rfl
        go_simp
        refine hK _ _ fun a65 hE65 => ?_
        clear hK K e13
        clear hE64 a63
        refine wpList_val hE65 13 rfl rfl fun K hK => ?_
        have e48 := hE65.get 48 rfl
        go_simp
        refine hK _ _ fun a66 hE66 => ?_
        clear hK K e48
        clear hE65 a65
        refine wpList_nil ?_
        have hl3 : (l2 ++ [(⟨y, ⟨A3, c3, li⟩⟩ : Chunk)]).length = l2.length + 1 := by simp
        have hf3 : (l2 ++ [(⟨y, ⟨A3, c3, li⟩⟩ : Chunk)]).flatMap Chunk.cells = l2.flatMap Chunk.cells ++ (⟨y, ⟨A3, c3, li⟩⟩ : Chunk).cells := by simp
        refine hK _ _ hlt ⟨(some ⟨g64_7, 0, none⟩), c64_7, l2 ++ [(⟨y, ⟨A3, c3, li⟩⟩ : Chunk)], ?_, hE66.keep ⟨hE66.get 3 rfl, hE66.get 11 rfl, hE66.get 12 rfl, (hE66.get 13 rfl).trans (congrArg some (by go_num)), trivial⟩, ?_⟩
        · rw [List.map_append, Hm2.out, List.take_succ_eq_append_getElem hlt, List.map_append, ← Hrk.out]
          rfl
        · rw [hl3, hf3]
          exact hS64.keep ⟨rfl, rfl, rfl, trivial⟩
  case neg =>
    obtain rfl : k = l.length := by omega
    have hi1 : ¬ (l.length : Int) < (l.length : Int) := by omega
    refine wp_seq_k fun K67 hK67 => ?_
    refine wp_region_lit ?_
    refine wpList_val hE2 14 rfl rfl fun K hK => ?_
    have e12 := hE2.get 12 rfl
    have e13 := hE2.get 13 rfl
    go_simp
    refine hK _ _ fun a68 hE68 => ?_
    clear hK K e12 e13
    clear hE2 a2
    refine wpList_nil ?_
    refine hK67 _ _ ?_
    clear hK67
    refine wp_seq_k fun K69 hK69 => ?_
    refine wp_if_f hE68 14 rfl ?_
    refine wp_exit ?_
    refine hK8 _ _ ?_
    clear hK8
    refine wp_seq_k fun K70 hK70 => ?_
    refine wp_region_lit ?_
    refine seq_pure hE68 49 (.pointer (some ⟨g1, 0, none⟩)) (fun w => by kernel_rfl) rfl rfl rfl rfl rfl fun a71 hE71 => ?_
    clear hE68 a68
    refine seq_pure hE71 2 (.pointer (some ⟨g1, 0, none⟩)) (fun w => by kernel_rfl) rfl rfl rfl rfl rfl fun a72 hE72 => ?_
    clear hE71 a71
    refine wpList_nil ?_
    refine hK70 _ _ ?_
    clear hK70
    refine wp_ret ?_
    try simp only [Exit.inBlock, Exit.then]
    refine bodyPost_ret (v := .pointer (some ⟨g1, 0, none⟩)) (by simp [results, Tryz.results56, go_sem, hE72.get 2 rfl]) hE72.defers ⟨_, _, _, l2, by rw [Hm2.out, List.take_length], rfl, hS2⟩

set_option maxHeartbeats 4000000 in
set_option maxRecDepth 100000 in
theorem blocks_any (A : Option Addr) (c : Nat) (l : List Blo) (w : World) (hr : Reads w w.heap.size 3 A l.length (l.flatMap Blo.cells)) (hn : l.length ≤ 2147483647) (hri : ∀ x ∈ l, x.mets.Lies w w.heap.size 3 Met.cells) (hni : ∀ x ∈ l, x.mets.l.length ≤ 2147483647) :
    Calls Tryz.prog 57 #[.slice A (l.length : Nat) c] w fun e w' => ∃ A2 c2 l2, l2.map Blo.bare = l.map Blo.bare ∧ e = .returned (.slice A2 (l2.length : Nat) c2) ∧ Stp (fun _ => False) w w' (lookM [(2, some (ckR w.heap.size 233 3 (.slice A2 (l2.length : Nat) c2) l2.length (l2.flatMap Blo.cells))), (3, some (ckRs w.heap.size 236 3 (fun x : Blo => x.mets.val) (fun x => x.mets.l.flatMap Met.cells) (fun x => x.mets.l.length) l2))]) := by
  refine calls_of_wp Tryz.func57 rfl ?_
  rw [Tryz.ntmps57]
  have hE0 : Env 46 [(0, .slice A (l.length : Nat) c)] ⟨#[.slice A (l.length : Nat) c] ++ Array.replicate (46 - (#[.slice A (l.length : Nat) c] : Array Value).size) undef, []⟩ := Env.enter _ (by simp) ⟨by simp, trivial⟩
  generalize (⟨#[.slice A (l.length : Nat) c] ++ Array.replicate (46 - (#[.slice A (l.length : Nat) c] : Array Value).size) undef, []⟩ : Act) = a0 at hE0 ⊢
  have hS0 : Stp (fun _ => False) w w (lookM []) := Stp.refl w
  refine wp_seq_k fun K1 hK1 => ?_
  refine wp_region_lit ?_
  refine seq_pure hE0 2 (.slice none 0 0) (fun w => by kernel_rfl) rfl rfl rfl rfl rfl fun a2 hE2 => ?_
  clear hE0 a0
  refine wpList_nil ?_
  refine hK1 _ _ ?_
  clear hK1
  refine wp_seq_k fun K3 hK3 => ?_
  refine wp_region_lit ?_
  refine seq_pure hE2 3 (.slice none 0 0) (fun w => by kernel_rfl) rfl rfl rfl rfl rfl fun a4 hE4 => ?_
  clear hE2 a2
  refine wpList_nil ?_
  have hS5 := ckRs_nil (ckR_nil hS0 2 w.heap.size 233 3) 3 w.heap.size 236 3 (fun x : Blo => x.mets.val) (fun x => x.mets.l.flatMap Met.cells) (fun x => x.mets.l.length)
  clear hS0
  refine hK3 _ _ ?_
  clear hK3
  refine wp_seq_k fun K6 hK6 => ?_
  refine wp_seq_k fun K7 hK7 => ?_
  refine wp_region_lit ?_
  refine seq_pure hE4 9 (.slice A (l.length : Nat) c) (fun w => by kernel_rfl) rfl rfl rfl rfl rfl fun a8 hE8 => ?_
  clear hE4 a4
  refine wpList_val hE8 10 rfl rfl fun K hK => ?_
  have e9 := hE8.get 9 rfl
  go_simp
  refine hK _ _ fun a9 hE9 => ?_
  clear hK K e9
  clear hE8 a8
  refine seq_pure hE9 11 (.int .i64 0) (fun w => by kernel_rfl) rfl rfl rfl rfl rfl fun a10 hE10 => ?_
  clear hE9 a9
  refine wpList_nil ?_
  refine hK7 _ _ ?_
  clear hK7
  refine wp_block ?_
  refine wp_loop_up l.length (fun k a w' => ∃ A2 c2 l2, l2.map Blo.bare = (l.take k).map Blo.bare ∧ Env 46 [(3, .slice A2 (l2.length : Nat) c2), (9, .slice A (l.length : Nat) c), (10, .int .i64 (l.length : Nat)), (11, .int .i64 (k : Nat))] a ∧ Stp (fun _ => False) w w' (lookM [(2, some (ckR w.heap.size 233 3 (.slice A2 (l2.length : Nat) c2) l2.length (l2.flatMap Blo.cells))), (3, some (ckRs w.heap.size 236 3 (fun x : Blo => x.mets.val) (fun x => x.mets.l.flatMap Met.cells) (fun x => x.mets.l.length) l2))])) ⟨none, 0, [], rfl, hE10.keep ⟨hE10.get 3 rfl, hE10.get 9 rfl, hE10.get 10 rfl, hE10.get 11 rfl, trivial⟩, hS5.keep ⟨rfl, rfl, trivial⟩⟩ ?_
  clear hE10 hS5 a10
  intro k a2 w2 hkl ⟨A2, c2, l2, hm2, hE2, hS2⟩ K hK
  have hk2 : l2.length = k := by have := congrArg List.length hm2; simp at this; omega
  have hb2 : l2.length ≤ 2147483647 := by omega
  have Hm2 := Lib.hid hm2
  clear hm2
  have Hk2 := Lib.hid hk2
  clear hk2
  by_cases hlt : k < l.length
  case pos =>
    obtain ⟨b1, off, rfl, hbB⟩ := hr.addr (by omega) (by omega)
    have hrw := hr.below hS2.below
    obtain ⟨r, hrk⟩ : ∃ r, r = l[k] := ⟨_, rfl⟩
    have e0 := hrw.at2 (blo_cells_len l) k 0 hlt (by omega) (v := .int .u32 r.media) (by rw [hrk]; rfl)
    have e1 := hrw.at2 (blo_cells_len l) k 1 hlt (by omega) (v := .int .u16 r.first) (by rw [hrk]; rfl)
    have e2 := hrw.at2 (blo_cells_len l) k 2 hlt (by omega) (v := .slice r.mets.A (r.mets.l.length : Nat) r.mets.c) (by rw [hrk]; rfl)
    simp only [Nat.add_zero] at e0
    have hit : Reads w w.heap.size 3 r.mets.A r.mets.l.length (r.mets.l.flatMap Met.cells) := hri r (by rw [hrk]; exact List.getElem_mem _)
    have hin := hni r (by rw [hrk]; exact List.getElem_mem _)
    have Hrk := Lib.hid hrk
    clear hrk hrw hri hni
    obtain ⟨y, z, ⟨A1, c1, li⟩⟩ := r
    simp only at e0 e1 e2 hit hin
    have hi1 : (k : Int) < (l.length : Int) := by omega
    have hi0 : (0 : Int) ≤ (k : Int) := by omega
    have hw1 : IntKind.i64.wrap ((k : Int) + 1) = (k : Int) + 1 := IntWalk.i64_in _ (by omega)
    have hzb : b1 < w2.heap.size := by have := hS2.size; omega
    refine wp_seq_k fun K11 hK11 => ?_
    refine wp_region_lit ?_
    refine wpList_val hE2 12 rfl rfl fun K hK => ?_
    have e10 := hE2.get 10 rfl
    have e11 := hE2.get 11 rfl
    go_simp
    refine hK _ _ fun a12 hE12 => ?_
    clear hK K e10 e11
    clear hE2 a2
    refine wpList_nil ?_
    refine hK11 _ _ ?_
    clear hK11
    refine wp_seq_k fun K13 hK13 => ?_
    refine wp_if_t hE12 12 rfl ?_
    refine wp_skip ?_
    refine hK13 _ _ ?_
    clear hK13
    refine wp_seq_k fun K14 hK14 => ?_
    refine wp_block ?_
    refine wp_seq_k fun K15 hK15 => ?_
    refine wp_region_lit ?_
    refine wpList_val hE12 13 rfl rfl fun K hK => ?_
    have e9 := hE12.get 9 rfl
    have e11 := hE12.get 11 rfl
    go_simp
    refine hK _ _ fun a16 hE16 => ?_
    clear hK K e9 e11
    clear hE12 a12
    refine wpList_val hE16 14 rfl rfl fun K hK => ?_
    have e13 := hE16.get 13 rfl
    go_simp
    refine hK _ _ fun a17 hE17 => ?_
    clear hK K e13
    clear hE16 a16
    refine wpList_val hE17 5 rfl rfl fun K hK => ?_
    go_simp
    refine hK _ _ fun a18 hE18 => ?_
    clear hK K
    clear hE17 a17
    refine wpList_none rfl fun K hK => ?_
    have e5 := hE18.get 5 rfl
    have e14 := hE18.get 14 rfl
    go_simp
    refine hK undef _ ?_
    clear hK K e5 e14
    refine wpList_nil ?_
    have hS20 := hS2.alloc 5 110 #[.int .u32 y, .int .u16 z, .slice A1 (li.length : Nat) c1]
    clear hS2
    generalize w2.alloc (.cells #[.int .u32 y, .int .u16 z, .slice A1 (li.length : Nat) c1] 110) = u1 at *
    generalize w2.heap.size = g5 at *
    clear e0 e1 e2 hzb hr
    refine hK15 _ _ ?_
    clear hK15
    refine wp_seq_k fun K21 hK21 => ?_
    refine wp_region_lit ?_
    refine seq_pure hE18 15 (.pointer (some ⟨g5, 0, none⟩)) (fun w => by kernel_rfl) rfl rfl rfl rfl rfl fun a22 hE22 => ?_
    clear hE18 a18
    refine seq_load hE22 hS20 16 5 0 (v := .int .u32 y) (fun w => by kernel_rfl) rfl rfl rfl rfl rfl rfl rfl fun a23 hE23 => ?_
    clear hE22 a22
    refine seq_pure hE23 17 (.pointer (some ⟨g5, 1, none⟩)) (fun w => by kernel_rfl) rfl rfl rfl rfl rfl fun a24 hE24 => ?_
    clear hE23 a23
    refine seq_load hE24 hS20 18 5 1 (v := .int .u16 z) (fun w => by kernel_rfl) rfl rfl rfl rfl rfl rfl rfl fun a25 hE25 => ?_
    clear hE24 a24
    refine seq_pure hE25 19 (.agg #[.int .u32 y, .int .u16 z, .slice none 0 0]) (fun w => by kernel_rfl) rfl rfl rfl rfl rfl fun a26 hE26 => ?_
    clear hE25 a25
    refine seq_new hE26 hS20 6 6 (fun g => .pointer (some ⟨g, 0, none⟩)) 233 #[.int .u32 0, .int .u16 0, .slice none 0 0] (fun w => by kernel_rfl) rfl rfl rfl rfl rfl fun a27 u2 g6 hE27 hS27 => ?_
    clear hE26 a26
    clear hS20
    clear u1
    refine wpList_none rfl fun K hK => ?_
    have e6 := hE27.get 6 rfl
    have e19 := hE27.get 19 rfl
    refine wp_store_blk 233 _ _ rfl g6 _ _ _ (hE27.ev 6 rfl) (hE27.ev 19 rfl) (hS27.blk 6 rfl) rfl (by kernel_rfl) (by simp [Value.oneCell']) fun u9 hb9 hg9 hz9 => ?_
    refine hK undef _ ?_
    clear hK K e6 e19
    have hS9 := hS27.step_ 6 _ (ckB g6 233 #[.int .u32 y, .int .u16 z, .slice none 0 0]) rfl hg9 (fun g hg => by injection hg with hg; exact hg.symm) hb9 (fun g hg => by have : g = g6 := hg; subst this; exact ⟨hb9.lt, .inr rfl⟩)
    clear hS27 hb9 hg9 hz9
    refine wpList_nil ?_
    clear u2
    refine hK21 _ _ ?_
    clear hK21
    refine wp_seq_k fun K29 hK29 => ?_
    refine wp_seq_k fun K30 hK30 => ?_
    refine wp_region_lit ?_
    refine seq_pure hE27 20 (.pointer (some ⟨g5, 2, none⟩)) (fun w => by kernel_rfl) rfl rfl rfl rfl rfl fun a31 hE31 => ?_
    clear hE27 a27
    refine seq_load hE31 hS9 21 5 2 (v := .slice A1 (li.length : Nat) c1) (fun w => by kernel_rfl) rfl rfl rfl rfl rfl rfl rfl fun a32 hE32 => ?_
    clear hE31 a31
    refine wpList_val hE32 22 rfl rfl fun K hK => ?_
    have e21 := hE32.get 21 rfl
    go_simp
    refine hK _ _ fun a33 hE33 => ?_
    clear hK K e21
    clear hE32 a32
    refine seq_pure hE33 23 (.int .i64 0) (fun w => by kernel_rfl) rfl rfl rfl rfl rfl fun a34 hE34 => ?_
    clear hE33 a33
    refine wpList_nil ?_
    have hS35 := ckR_nil hS9 7 w.heap.size 236 3
    clear hS9
    refine hK30 _ _ ?_
    clear hK30
    refine wp_block ?_
    refine wp_loop_up li.length (fun j a w' => ∃ A3 c3, Env 46 [(3, .slice A2 (l2.length : Nat) c2), (9, .slice (some ⟨b1, off, none⟩) (l.length : Nat) c), (10, .int .i64 (l.length : Nat)), (11, .int .i64 (k : Nat)), (6, .pointer (some ⟨g6, 0, none⟩)), (21, .slice A1 (li.length : Nat) c1), (22, .int .i64 (li.length : Nat)), (23, .int .i64 (j : Nat))] a ∧ Stp (fun _ => False) w w' (lookM [(2, some (ckR (w.heap.size) 233 3 (.slice A2 (l2.length : Nat) c2) (l2.length) (l2.flatMap Blo.cells))), (3, some (ckRs w.heap.size 236 3 (fun x : Blo => x.mets.val) (fun x => x.mets.l.flatMap Met.cells) (fun x => x.mets.l.length) l2)), (6, some (ckB g6 233 #[.int .u32 y, .int .u16 z, .slice A3 (j : Nat) c3])), (7, some (ckR w.heap.size 236 3 (.slice A3 (j : Nat) c3) j ((li.take j).flatMap Met.cells)))])) ⟨none, 0, hE34.keep ⟨hE34.get 3 rfl, hE34.get 9 rfl, hE34.get 10 rfl, hE34.get 11 rfl, hE34.get 6 rfl, hE34.get 21 rfl, hE34.get 22 rfl, hE34.get 23 rfl, trivial⟩, hS35.keep ⟨rfl, rfl, rfl, rfl, trivial⟩⟩ ?_
    clear hE34 hS35 a34 u9
    intro j a3 w3 hjl ⟨A3, c3, hE3, hS3⟩ Kj hKj
    by_cases hltj : j < li.length
    case pos =>
      obtain ⟨b2, off2, rfl, hbB2⟩ := hit.addr (by omega) (by omega)
      have hrw := hit.below hS3.below
      obtain ⟨r, hrj⟩ : ∃ r, r = li[j] := ⟨_, rfl⟩
      have e0 := hrw.at2 (met_cells_len li) j 0 hltj (by omega) (v := .bool r.rcv) (by rw [hrj]; rfl)
      have e1 := hrw.at2 (met_cells_len li) j 1 hltj (by omega) (v := .int .u8 r.ecn) (by rw [hrj]; rfl)
      have e2 := hrw.at2 (met_cells_len li) j 2 hltj (by omega) (v := .int .u16 r.off) (by rw [hrj]; rfl)
      simp only [Nat.add_zero] at e0
      have Hrj := Lib.hid hrj
      clear hrj hrw
      obtain ⟨b, e, q⟩ := r
      simp only at e0 e1 e2
      have hj1 : (j : Int) < (li.length : Int) := by omega
      have hj0 : (0 : Int) ≤ (j : Int) := by omega
      have hwj : IntKind.i64.wrap ((j : Int) + 1) = (j : Int) + 1 := IntWalk.i64_in _ (by omega)
      have hzb : b2 < w3.heap.size := by have := hS3.size; omega
      refine wp_seq_k fun K36 hK36 => ?_
      refine wp_region_lit ?_
      refine wpList_val hE3 24 rfl rfl fun K hK => ?_
      have e22 := hE3.get 22 rfl
      have e23 := hE3.get 23 rfl
      go_simp
      refine hK _ _ fun a37 hE37 => ?_
      clear hK K e22 e23
      clear hE3 a3
      refine wpList_nil ?_
      refine hK36 _ _ ?_
      clear hK36
      refine wp_seq_k fun K38 hK38 => ?_
      refine wp_if_t hE37 24 rfl ?_
      refine wp_skip ?_
      refine hK38 _ _ ?_
      clear hK38
      refine wp_seq_k fun K39 hK39 => ?_
      refine wp_block ?_
      refine wp_seq_k fun K40 hK40 => ?_
      refine wp_region_lit ?_
      refine wpList_val hE37 25 rfl rfl fun K hK => ?_
      have e21 := hE37.get 21 rfl
      have e23 := hE37.get 23 rfl
      go_simp
      refine hK _ _ fun a41 hE41 => ?_
      clear hK K e21 e23
      clear hE37 a37
      refine wpList_val hE41 26 rfl rfl fun K hK => ?_
      have e25 := hE41.get 25 rfl
      go_simp
      refine hK _ _ fun a42 hE42 => ?_
      clear hK K e25
      clear hE41 a41
      refine wpList_val hE42 8 rfl rfl fun K hK => ?_
      go_simp
      refine hK _ _ fun a43 hE43 => ?_
      clear hK K
      clear hE42 a42
      refine wpList_none rfl fun K hK => ?_
      have e8 := hE43.get 8 rfl
      have e26 := hE43.get 26 rfl
      go_simp
      refine hK undef _ ?_
      clear hK K e8 e26
      refine wpList_nil ?_
      have hS45 := hS3.alloc 8 113 #[.bool b, .int .u8 e, .int .u16 q]
      clear hS3
      generalize w3.alloc (.cells #[.bool b, .int .u8 e, .int .u16 q] 113) = u3 at *
      generalize w3.heap.size = g8 at *
      clear e0 e1 e2 hzb
      refine hK40 _ _ ?_
      clear hK40
      refine wp_region_lit ?_
      refine seq_pure hE43 27 (.pointer (some ⟨g6, 2, none⟩)) (fun w => by kernel_rfl) rfl rfl rfl rfl rfl fun a46 hE46 => ?_
      clear hE43 a43
      refine seq_load hE46 hS45 28 6 2 (v := .slice A3 (j : Nat) c3) (fun w => by kernel_rfl) rfl rfl rfl rfl rfl rfl rfl fun a47 hE47 => ?_
      clear hE46 a46
      refine seq_pure hE47 29 (.pointer (some ⟨g8, 0, none⟩)) (fun w => by kernel_rfl) rfl rfl rfl rfl rfl fun a48 hE48 => ?_
      clear hE47 a47
      refine seq_load hE48 hS45 30 8 0 (v := .bool b) (fun w => by kernel_rfl) rfl rfl rfl rfl rfl rfl rfl fun a49 hE49 => ?_
      clear hE48 a48
      refine seq_pure hE49 31 (.pointer (some ⟨g8, 1, none⟩)) (fun w => by kernel_rfl) rfl rfl rfl rfl rfl fun a50 hE50 => ?_
      clear hE49 a49
      refine seq_load hE50 hS45 32 8 1 (v := .int .u8 e) (fun w => by kernel_rfl) rfl rfl rfl rfl rfl rfl rfl fun a51 hE51 => ?_
      clear hE50 a50
      refine seq_pure hE51 33 (.pointer (some ⟨g8, 2, none⟩)) (fun w => by kernel_rfl) rfl rfl rfl rfl rfl fun a52 hE52 => ?_
      clear hE51 a51
      refine seq_load hE52 hS45 34 8 2 (v := .int .u16 q) (fun w => by kernel_rfl) rfl rfl rfl rfl rfl rfl rfl fun a53 hE53 => ?_
      clear hE52 a52
      refine seq_pure hE53 35 (.agg #[.bool b, .int .u8 e, .int .u16 q]) (fun w => by kernel_rfl) rfl rfl rfl rfl rfl fun a54 hE54 => ?_
      clear hE53 a53
      refine seq_new hE54 hS45 36 9 (fun g => .slice (some ⟨g, 0, none⟩) 1 1) 236 #[.bool b, .int .u8 e, .int .u16 q] (fun w => by kernel_rfl) rfl rfl rfl rfl rfl fun a55 u4 g9 hE55 hS55 => ?_
      clear hE54 a54
      clear hS45
      clear u3
      refine wpList_val hE55 37 rfl rfl fun K hK => ?_
      refine wp_app_src _ _ _ rfl elemM (w.heap.size) _ (j) ((li.take j).flatMap Met.cells) _ (some ⟨g9, 0, none⟩) 1 1 (#[.bool b, .int .u8 e, .int .u16 q]).toList (hS55.row 7 rfl) (hE55.ev 28 rfl) (hE55.ev 36 rfl) (blk_reads (hS55.blk 9 rfl) 3 1 rfl) (by simp [Value.oneCell']) (by omega) (by have := hS55.size; omega) (by omega) fun g56 c56 u5 ho56 hg56 hor56 => ?_
      have hS56 := hS55.app 7 rfl ho56 hg56 (own_or hor56)
      refine hK _ _ fun a56 hE56 => ?_
      clear hK K ho56 hg56 hor56 hS55
      clear hE55 a55
      clear u4
      refine seq_pure hE56 38 (.pointer (some ⟨g6, 2, none⟩)) (fun w => by kernel_rfl) rfl rfl rfl rfl rfl fun a57 hE57 => ?_
      clear hE56 a56
      refine seq_store hE57 hS56 6 2 (fun w => by kernel_rfl) rfl rfl rfl rfl rfl rfl rfl rfl rfl fun u6 hS58 => ?_
      clear hS56
      clear u5
      refine wpList_nil ?_
      refine hK39 _ _ ?_
      clear hK39
      refine wp_region_lit ?_
      refine wpList_val hE57 39 rfl rfl fun K hK => ?_
      have e23 := hE57.get 23 rfl
      go_simp
      refine hK _ _ fun a59 hE59 => ?_
      clear hK K e23
      clear hE57 a57
      refine wpList_val hE59 23 rfl rfl fun K hK => ?_
      have e39 := hE59.get 39 rfl
      go_simp
      refine hK _ _ fun a60 hE60 => ?_
      clear hK K e39
      clear hE59 a59
      refine wpList_nil ?_
      have et : (li.take (j + 1)).flatMap Met.cells = (li.take j).flatMap Met.cells ++ (⟨b, e, q⟩ : Met).cells := by rw [flat_take_succ _ _ _ hltj, Hrj.out]
      refine hKj _ _ hltj ⟨(some ⟨g56, 0, none⟩), c56, hE60.keep ⟨hE60.get 3 rfl, hE60.get 9 rfl, hE60.get 10 rfl, hE60.get 11 rfl, hE60.get 6 rfl, hE60.get 21 rfl, hE60.get 22 rfl, (hE60.get 23 rfl).trans (congrArg some (by go_num)), trivial⟩, ?_⟩
      rw [et]
      exact hS58.keep ⟨rfl, rfl, rfl, rfl, trivial⟩
    case neg =>
      obtain rfl : j = li.length := by omega
      have hj1 : ¬ (li.length : Int) < (li.length : Int) := by omega
      rw [List.take_length] at hS3
      refine wp_seq_k fun K61 hK61 => ?_
      refine wp_region_lit ?_
      refine wpList_val hE3 24 rfl rfl fun K hK => ?_
      have e22 := hE3.get 22 rfl
      have e23 := hE3.get 23 rfl
      go_simp
      refine hK _ _ fun a62 hE62 => ?_
      clear hK K e22 e23
      clear hE3 a3
      refine wpList_nil ?_
      refine hK61 _ _ ?_
      clear hK61
      refine wp_seq_k fun K63 hK63 => ?_
      refine wp_if_f hE62 24 rfl ?_
      refine wp_exit ?_
      refine hK29 _ _ ?_
      clear hK29
      have hS64 := hS3.merge 3 7 (⟨y, z, ⟨A3, c3, li⟩⟩ : Blo) rfl rfl (by decide)
      clear hS3
      refine wp_region_lit ?_
      refine seq_pure hE62 40 (.slice A2 (l2.length : Nat) c2) (fun w => by kernel_rfl) rfl rfl rfl rfl rfl fun a65 hE65 => ?_
      clear hE62 a62
      refine seq_loadN hE65 hS64 41 6 Tryz.underlying233 (by kernel_rfl) rfl rfl rfl rfl rfl rfl rfl fun a66 hE66 => ?_
      clear hE65 a65
      refine seq_new hE66 hS64 42 9 (fun g => .slice (some ⟨g, 0, none⟩) 1 1) 233 #[.int .u32 y, .int .u16 z, .slice A3 (li.length : Nat) c3] (fun w => by kernel_rfl) rfl rfl rfl rfl rfl fun a67 u7 g9 hE67 hS67 => ?_
      clear hE66 a66
      clear hS64
      clear w3
      refine wpList_val hE67 43 rfl rfl fun K hK => ?_
      refine wp_app_src _ _ _ rfl elemBk (w.heap.size) _ (l2.length) (l2.flatMap Blo.cells) _ (some ⟨g9, 0, none⟩) 1 1 (#[.int .u32 y, .int .u16 z, .slice A3 (li.length : Nat) c3]).toList (hS67.row 2 rfl) (hE67.ev 40 rfl) (hE67.ev 42 rfl) (blk_reads (hS67.blk 9 rfl) 3 1 rfl) (by simp [Value.oneCell']) (by omega) (by have := hS67.size; omega) (by omega) fun g68 c68 u8 ho68 hg68 hor68 => ?_
      have hS68 := hS67.app 2 rfl ho68 hg68 (own_or hor68)
      refine hK _ _ fun a68 hE68 => ?_
      clear hK K ho68 hg68 hor68 hS67
      clear hE67 a67
      clear u7
      refine seq_pure hE68 3 (.slice (some ⟨g68, 0, none⟩) (l2.length + 1) c68) (fun w => by kernel_rfl) rfl rfl rfl rfl rfl fun a69 hE69 => ?_
      clear hE68 a68
      refine wpList_nil ?_
      refine hK14 _ _ ?_
      clear hK14
      refine wp_region_lit ?_
      refine wpList_val hE69 44 rfl rfl fun K hK => ?_
      have e11 := hE69.get 11 rfl
      go_simp
      refine hK _ _ fun a70 hE70 => ?_
      clear hK K e11
      clear hE69 a69
      refine wpList_val hE70 11 rfl rfl fun K hK => ?_
      have e44 := hE70.get 44 rfl
      go_simp
      refine hK _ _ fun a71 hE71 => ?_
      clear hK K e44
      clear hE70 a70
      refine wpList_nil ?_
      have hl3 : (l2 ++ [(⟨y, z, ⟨A3, c3, li⟩⟩ : Blo)]).length = l2.length + 1 := by simp
      have hf3 : (l2 ++ [(⟨y, z, ⟨A3, c3, li⟩⟩ : Blo)]).flatMap Blo.cells = l2.flatMap Blo.cells ++ (⟨y, z, ⟨A3, c3, li⟩⟩ : Blo).cells := by simp
      refine hK _ _ hlt ⟨(some ⟨g68, 0, none⟩), c68, l2 ++ [(⟨y, z, ⟨A3, c3, li⟩⟩ : Blo)], ?_, hE71.keep ⟨(hE71.get 3 rfl).trans (by rw [hl3]), hE71.get 9 rfl, hE71.get 10 rfl, (hE71.get 11 rfl).trans (congrArg some (by go_num)), trivial⟩, ?_⟩
      · rw [List.map_append, Hm2.out, List.take_succ_eq_append_getElem hlt, List.map_append, ← Hrk.out]
        rfl
      · rw [hl3, hf3]
        exact hS68.keep ⟨rfl, rfl, trivial⟩
  case neg =>
    obtain rfl : k = l.length := by omega
    have hi1 : ¬ (l.length : Int) < (l.length : Int) := by omega
    refine wp_seq_k fun K72 hK72 => ?_
    refine wp_region_lit ?_
    refine wpList_val hE2 12 rfl rfl fun K hK => ?_
    have e10 := hE2.get 10 rfl
    have e11 := hE2.get 11 rfl
    go_simp
    refine hK _ _ fun a73 hE73 => ?_
    clear hK K e10 e11
    clear hE2 a2
    refine wpList_nil ?_
    refine hK72 _ _ ?_
    clear hK72
    refine wp_seq_k fun K74 hK74 => ?_
    refine wp_if_f hE73 12 rfl ?_
    refine wp_exit ?_
    refine hK6 _ _ ?_
    clear hK6
    refine wp_seq_k fun K75 hK75 => ?_
    refine wp_region_lit ?_
    refine seq_pure hE73 45 (.slice A2 (l2.length : Nat) c2) (fun w => by kernel_rfl) rfl rfl rfl rfl rfl fun a76 hE76 => ?_
    clear hE73 a73
    refine seq_pure hE76 2 (.slice A2 (l2.length : Nat) c2) (fun w => by kernel_rfl) rfl rfl rfl rfl rfl fun a77 hE77 => ?_
    clear hE76 a76
    refine wpList_nil ?_
    refine hK75 _ _ ?_
    clear hK75
    refine wp_ret ?_
    try simp only [Exit.inBlock, Exit.then]
    refine bodyPost_ret (v := .slice A2 (l2.length : Nat) c2) (by simp [results, Tryz.results57, go_sem, hE77.get 2 rfl]) hE77.defers ⟨_, _, l2, by rw [Hm2.out, List.take_length], rfl, hS2⟩

end Go.Proofs.YtmmfpgoodfgkbaaGreat
