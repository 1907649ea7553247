/-
  THE WALK of the law's turn of a packet into the thin package's: the same numbers and lists, the lists in new memory. Condition: lists of lists, reports, entries and deltas are empty.
-/
import Derived.Test.YtmmfpgoodfgkbaaGreatCompact
import Derived.Test.YtmmfpgoodfgkbaaGreatForm10
namespace Go.Proofs.YtmmfpgoodfgkbaaGreat
open Go Go.RowKit
set_option linter.unusedVariables false

/-- In 'given': the packet; nothing else that was there has turned. -/
structure GivC (p : Pkt) (w wx : World) : Prop where
  pk : Blk wx w.heap.size 38 p.cells
  rs : Blk wx (w.heap.size + 1) 53 Pkt.zero.cells
  below : Below w.heap.size w wx
theorem GivC.alloc {p : Pkt} {w wx : World} (h : GivC p w wx) (o : Obj) : GivC p w (wx.alloc o) := ⟨h.pk.alloc o, h.rs.alloc o, h.below.alloc h.below.size o⟩
theorem GivC.lt {p : Pkt} {w wx : World} (h : GivC p w wx) : w.heap.size + 1 < wx.heap.size := h.rs.lt
theorem GivC.grown {p : Pkt} {w wx w' : World} (h : GivC p w wx) {row : Option Nat} (hg : wx.grownBy w' row) (hr : ∀ k, row = some k → w.heap.size + 1 < k) : GivC p w w' :=
  ⟨h.pk.grown hg (fun e => by have := hr _ e.symm; omega), h.rs.grown hg (fun e => by have := hr _ e.symm; omega), h.below.grown hg h.below.size (fun k hk => by have := hr k hk; omega)⟩
theorem Kept.trans' {S : Nat → Prop} {w w1 w2 : World} (h : Kept S w w1) (h2 : Kept S w1 w2) : Kept S w w2 := ⟨Nat.le_trans h.1 h2.1, fun g hg hs => (h2.2 g (Nat.lt_of_lt_of_le hg h.1) hs).trans (h.2 g hg hs)⟩
/-- Kept but for one block, where only that block and what is new has been written. -/
theorem Kept.row {x B : Nat} {w0 w w' : World} {row : Option Nat} (h : Kept (fun g => g = x) w0 w) (hg : w.grownBy w' row) (hr : ∀ k, row = some k → k = x ∨ w0.heap.size ≤ k) : Kept (fun g => g = x) w0 w' :=
  ⟨Nat.le_trans h.1 hg.size, fun g hl hs => (hg.block g (Nat.lt_of_lt_of_le hl h.1) (fun e => by rcases hr g e.symm with e | e <;> omega)).trans (h.2 g hl hs)⟩
theorem own_kept {S : Nat → Prop} {w w' : World} {base : Nat} {e : TypeId} {size : Nat} {v : Value} {n : Nat} {xs : List Value} (h : w.ownsRow base e size v n xs) (hk : Kept S w w') (hs : ∀ g, v.ownBlock = some g → ¬ S g) : w'.ownsRow base e size v n xs := by
  refine ⟨h.1, ?_⟩
  rcases h.2 with h2 | ⟨g, cap, cur, hv, hg, hh, r⟩
  · exact .inl h2
  · refine .inr ⟨g, cap, cur, hv, hg, (hk.2 g ?_ (hs g (by rw [hv]; rfl))).trans hh, r⟩
    exact (h.lt g (by rw [hv]; rfl)).2
/-- The code that begins with a region, wherever it lies. -/
def codeAt (n : Nat) : Code → Option Code
  | .seq (.region i o d) y => if i = n then some (.seq (.region i o d) y) else codeAt n y
  | .seq a b => match codeAt n a with
    | some c => some c
    | none => codeAt n b
  | .block _ c => codeAt n c
  | .scope c => codeAt n c
  | .loop c => codeAt n c
  | .cond _ a b => match codeAt n a with
    | some c => some c
    | none => codeAt n b
  | _ => none
noncomputable def givBehind (n : Nat) : Code := (Tryz.f10.body.bind (codeBehind n)).getD .skip
noncomputable def givAt (n : Nat) : Code := (Tryz.f10.body.bind (codeAt n)).getD .skip

/-- A block of a function's code, by its number. -/
def codeBlock (n : Nat) : Code → Option Code
  | .block i c => if i = n then some (.block i c) else codeBlock n c
  | .seq a b => match codeBlock n a with
    | some c => some c
    | none => codeBlock n b
  | .scope c => codeBlock n c
  | .loop c => codeBlock n c
  | .cond _ a b => match codeBlock n a with
    | some c => some c
    | none => codeBlock n b
  | _ => none
noncomputable def givBlock (n : Nat) : Code := (Tryz.f10.body.bind (codeBlock n)).getD .skip

theorem elemPair : Elem Tryz.prog 45 98 (.agg #[.int .u16 0, .int .u16 0]) 2 4 := ⟨Tryz.underlying45, by kernel_rfl, rfl, by omega, by omega⟩
set_option maxHeartbeats 2000000 in
set_option maxRecDepth 100000 in
theorem given_pairs (p : Pkt) (w w1 : World) (a1 : Act) (A : Option Addr) (c1 : Nat) (l : List Pair) (cs : Array Value) (hr : Reads w w.heap.size 2 A l.length (l.flatMap Pair.cells)) (hn : l.length ≤ 2147483647)
    (hE1 : Env 214 [(1, .pointer (some ⟨w.heap.size, 0, none⟩)), (2, .pointer (some ⟨w.heap.size + 1, 0, none⟩)), (3, .pointer (some ⟨w.heap.size + 1 + 1, 0, none⟩)), (111, .slice A (l.length : Nat) c1), (112, .int .i64 (l.length : Nat)), (113, .int .i64 0)] a1) (hc : GivC p w w1) (ho : Blk w1 (w.heap.size + 1 + 1) 53 cs) (hcs : cs[14]? = some (.slice none 0 0)) (Q : Exit → Act → World → Prop)
    (hQ : ∀ a' w' v, Env 214 [(1, .pointer (some ⟨w.heap.size, 0, none⟩)), (2, .pointer (some ⟨w.heap.size + 1, 0, none⟩)), (3, .pointer (some ⟨w.heap.size + 1 + 1, 0, none⟩))] a' → GivC p w w' → Blk w' (w.heap.size + 1 + 1) 53 (cs.setIfInBounds 14 v) → w'.ownsRow w1.heap.size 98 2 v l.length (l.flatMap Pair.cells) → Kept (fun g => g = w.heap.size + 1 + 1) w1 w' → Q .normal a' w') :
    (givBlock 6).wp Tryz.prog Q a1 w1 := by
  conv => arg 2; whnf
  have hset : ∀ v : Value, (cs.setIfInBounds 14 v)[14]? = some v := fun v => by
    have hlt : 14 < cs.size := by
      rcases Nat.lt_or_ge 14 cs.size with h | h
      · exact h
      · rw [Array.getElem?_eq_none h] at hcs; cases hcs
    simp [hlt]
  have hset2 : cs.setIfInBounds 14 (.slice none 0 0) = cs := by
    apply Array.ext_getElem?
    intro j
    by_cases hj : j = 14
    · subst hj; rw [hset, hcs]
    · rw [Array.getElem?_setIfInBounds_ne (Ne.symm hj)]
  have hset3 : ∀ u v : Value, (cs.setIfInBounds 14 u).setIfInBounds 14 v = cs.setIfInBounds 14 v := fun u v => by simp
  refine wp_block ?_
  refine wp_loop_up l.length (fun k a w' => ∃ v, Env 214 [(1, .pointer (some ⟨w.heap.size, 0, none⟩)), (2, .pointer (some ⟨w.heap.size + 1, 0, none⟩)), (3, .pointer (some ⟨w.heap.size + 1 + 1, 0, none⟩)), (111, .slice A (l.length : Nat) c1), (112, .int .i64 (l.length : Nat)), (113, .int .i64 (k : Nat))] a ∧ GivC p w w' ∧ Blk w' (w.heap.size + 1 + 1) 53 (cs.setIfInBounds 14 v) ∧ w'.ownsRow w1.heap.size 98 2 v k ((l.take k).flatMap Pair.cells) ∧ Kept (fun g => g = w.heap.size + 1 + 1) w1 w') ⟨.slice none 0 0, hE1.keep ⟨hE1.get 1 rfl, hE1.get 2 rfl, hE1.get 3 rfl, hE1.get 111 rfl, hE1.get 112 rfl, hE1.get 113 rfl, trivial⟩, hc, by rw [hset2]; exact ho, World.ownsRow_nil _ _ _ _, Kept.refl _ _⟩ ?_
  have hol := ho.lt
  clear hc ho hcs hset2 hE1 a1
  intro k a2 w2 hkl ⟨v, hE2, hC2, ho2, hown2, hk2⟩ K hK
  by_cases hlt : k < l.length
  case pos =>
    obtain ⟨b1, off, rfl, hbB⟩ := hr.addr (by omega) (by omega)
    have hrw := hr.below hC2.below
    obtain ⟨r, hrk⟩ : ∃ r, r = l[k] := ⟨_, rfl⟩
    have e0 := hrw.at2 (pair_cells_len l) k 0 hlt (by omega) (v := .int .u16 r.id) (by rw [hrk]; rfl)
    have e1 := hrw.at2 (pair_cells_len l) k 1 hlt (by omega) (v := .int .u16 r.mask) (by rw [hrk]; rfl)
    simp only [Nat.add_zero] at e0
    have Hrk := Lib.hid hrk
    clear hrk hr hrw
    obtain ⟨x, y⟩ := r
    simp only at e0 e1
    have hi1 : (k : Int) < (l.length : Int) := by omega
    have hi0 : (0 : Int) ≤ (k : Int) := by omega
    have hw1 : IntKind.i64.wrap ((k : Int) + 1) = (k : Int) + 1 := IntWalk.i64_in _ (by omega)
    have hzb : b1 < w2.heap.size := by have := hC2.lt; omega
    obtain ⟨A2, c2, rfl⟩ := own_form hown2
    refine wp_seq_k fun K201 hK201 => ?_
    refine wp_region_lit ?_
    refine wpList_val hE2 114 rfl rfl fun K hK => ?_
    have e112 := hE2.get 112 rfl
    have e113 := hE2.get 113 rfl
    go_simp
    refine hK _ _ fun a202 hE202 => ?_
    clear hK K e112 e113
    clear hE2 a2
    refine wpList_nil ?_
    refine hK201 _ _ ?_
    clear hK201
    refine wp_seq_k fun K203 hK203 => ?_
    refine wp_if_t hE202 114 rfl ?_
    refine wp_skip ?_
    refine hK203 _ _ ?_
    clear hK203
    refine wp_seq_k fun K204 hK204 => ?_
    refine wp_block ?_
    refine wp_seq_k fun K205 hK205 => ?_
    refine wp_region_lit ?_
    refine wpList_val hE202 115 rfl rfl fun K hK => ?_
    have e111 := hE202.get 111 rfl
    have e113 := hE202.get 113 rfl
    go_simp
    refine hK _ _ fun a206 hE206 => ?_
    clear hK K e111 e113
    clear hE202 a202
    refine wpList_val hE206 116 rfl rfl fun K hK => ?_
    have e115 := hE206.get 115 rfl
    go_simp
    refine hK _ _ fun a207 hE207 => ?_
    clear hK K e115
    clear hE206 a206
    refine wpList_val hE207 12 rfl rfl fun K hK => ?_
    go_simp
    refine hK _ _ fun a208 hE208 => ?_
    clear hK K
    clear hE207 a207
    refine wpList_none rfl fun K hK => ?_
    have e12 := hE208.get 12 rfl
    have e116 := hE208.get 116 rfl
    go_simp
    refine hK undef _ ?_
    clear hK K e12 e116
    refine wpList_nil ?_
    refine hK205 _ _ ?_
    clear hK205
    have hx := blk_new w2 97 #[.int .u16 x, .int .u16 y] rfl
    have hC3 := hC2.alloc (.cells #[.int .u16 x, .int .u16 y] 97)
    have ho3 := ho2.alloc (.cells #[.int .u16 x, .int .u16 y] 97)
    have hown3 := hown2.alloc (.cells #[.int .u16 x, .int .u16 y] 97)
    have hk3 := hk2.row (World.grownBy_alloc w2 (.cells #[.int .u16 x, .int .u16 y] 97) none) (B := 0) (by simp)
    have hne3 : ∀ j, (Value.slice A2 k c2).ownBlock = some j → j ≠ w2.heap.size ∧ w1.heap.size ≤ j := fun j hj => by have := hown2.lt j hj; omega
    have hz1 : w1.heap.size ≤ w2.heap.size := hk2.1
    have hz3 : w2.heap.size ≤ (w2.alloc (.cells #[.int .u16 x, .int .u16 y] 97)).heap.size := by simp
    clear e0 e1 hC2 ho2 hown2 hk2
    generalize w2.alloc (.cells #[.int .u16 x, .int .u16 y] 97) = w3 at *
    have co : w3.cell? ⟨w.heap.size + 1 + 1, 14, none⟩ = some (.slice A2 k c2) := (ho3.cell 14).trans (hset _)
    have hzo : w.heap.size + 1 + 1 < w3.heap.size := ho3.lt
    have x0 : w3.cell? ⟨w2.heap.size, 0, none⟩ = some (.int .u16 x) := hx.cell 0
    have x1 : w3.cell? ⟨w2.heap.size, 1, none⟩ = some (.int .u16 y) := hx.cell 1
    have hzx : w2.heap.size < w3.heap.size := hx.lt
    refine wp_region_lit ?_
    refine wpList_val hE208 117 rfl rfl fun K hK => ?_
    have e3 := hE208.get 3 rfl
    go_simp
    refine hK _ _ fun a210 hE210 => ?_
    clear hK K e3
    clear hE208 a208
    refine wpList_val hE210 118 rfl rfl fun K hK => ?_
    have e117 := hE210.get 117 rfl
    go_simp
    refine hK _ _ fun a211 hE211 => ?_
    clear hK K e117
    clear hE210 a210
    refine wpList_val hE211 119 rfl rfl fun K hK => ?_
    have e12 := hE211.get 12 rfl
    go_simp
    refine hK _ _ fun a212 hE212 => ?_
    clear hK K e12
    clear hE211 a211
    refine wpList_val hE212 120 rfl rfl fun K hK => ?_
    have e119 := hE212.get 119 rfl
    go_simp
    refine hK _ _ fun a213 hE213 => ?_
    clear hK K e119
    clear hE212 a212
    refine wpList_val hE213 121 rfl rfl fun K hK => ?_
    have e118 := hE213.get 118 rfl
    have e120 := hE213.get 120 rfl
    refine wp_app_one w3 (.tmp 118) (.tmp 120) _ rfl elemPair w1.heap.size _ k _ #[.int .u16 x, .int .u16 y] 98 1 1 hown3 rfl (hE213.ev 118 rfl) (hE213.ev 120 rfl) rfl (by omega) (by intro u hu; simp at hu; rcases hu with rfl | rfl <;> rfl) (by omega) (by omega) fun g4 cap4 w4 hown4 hg4 hat4 => ?_
    refine hK _ _ fun a214 hE214 => ?_
    clear hK K e118 e120
    clear hE213 a213
    have hC4 := hC3.grown hg4 (fun j hj => by have := (hne3 j hj).2; omega)
    have ho4 := ho3.grown hg4 (fun e => by have := (hne3 _ e.symm).2; omega)
    have hk4 := hk3.row (B := 0) hg4 (fun j hj => .inr (hne3 j hj).2)
    have co4 : w4.cell? ⟨w.heap.size + 1 + 1, 14, none⟩ = some (.slice A2 k c2) := (ho4.cell 14).trans (hset _)
    have fo4 : w4.frozen? ⟨w.heap.size + 1 + 1, 14, none⟩ = false := ho4.frozen 14
    have hzo4 : w.heap.size + 1 + 1 < w4.heap.size := ho4.lt
    have hg4l := (hown4.lt g4 rfl).1
    clear co hzo x0 x1 hzx hC3 ho3 hown3 hk3 hx
    refine wpList_val hE214 122 rfl rfl fun K hK => ?_
    have e3 := hE214.get 3 rfl
    go_simp
    refine hK _ _ fun a215 hE215 => ?_
    clear hK K e3
    clear hE214 a214
    refine wpList_none rfl fun K hK => ?_
    have e121 := hE215.get 121 rfl
    have e122 := hE215.get 122 rfl
    go_simp
    refine hK undef _ ?_
    clear hK K e121 e122
    refine wpList_nil ?_
    refine hK204 _ _ ?_
    clear hK204
    refine wp_region_lit ?_
    refine wpList_val hE215 123 rfl rfl fun K hK => ?_
    have e113 := hE215.get 113 rfl
    go_simp
    refine hK _ _ fun a217 hE217 => ?_
    clear hK K e113
    clear hE215 a215
    refine wpList_val hE217 113 rfl rfl fun K hK => ?_
    have e123 := hE217.get 123 rfl
    go_simp
    refine hK _ _ fun a218 hE218 => ?_
    clear hK K e123
    clear hE217 a217
    refine wpList_nil ?_
    have et : (l.take (k + 1)).flatMap Pair.cells = (l.take k).flatMap Pair.cells ++ (⟨x, y⟩ : Pair).cells := by rw [flat_take_succ _ _ _ hlt, Hrk.out]
    refine hK _ _ hlt ⟨_, hE218.keep ⟨hE218.get 1 rfl, hE218.get 2 rfl, hE218.get 3 rfl, hE218.get 111 rfl, hE218.get 112 rfl, (hE218.get 113 rfl).trans (congrArg some (by go_num)), trivial⟩, hC4.grown (grownBy_setCell _ _ _) (fun j hj => by injection hj with hj; simp at hj; omega), by rw [← hset3]; exact ho4.set_ 14 _, own_eq (own_setCell hown4 (fun e => by injection e with e; simp at e; omega) _) rfl (by rw [et]; rfl), hk4.row (B := 0) (grownBy_setCell _ _ _) (fun j hj => by injection hj with hj; simp at hj; omega)⟩
  case neg =>
    obtain rfl : k = l.length := by omega
    have hi1 : ¬ (l.length : Int) < (l.length : Int) := by omega
    refine wp_seq_k fun K219 hK219 => ?_
    refine wp_region_lit ?_
    refine wpList_val hE2 114 rfl rfl fun K hK => ?_
    have e112 := hE2.get 112 rfl
    have e113 := hE2.get 113 rfl
    go_simp
    refine hK _ _ fun a220 hE220 => ?_
    clear hK K e112 e113
    clear hE2 a2
    refine wpList_nil ?_
    refine hK219 _ _ ?_
    clear hK219
    refine wp_seq_k fun K221 hK221 => ?_
    refine wp_if_f hE220 114 rfl ?_
    refine wp_exit ?_
    exact hQ _ _ v (hE220.keep ⟨hE220.get 1 rfl, hE220.get 2 rfl, hE220.get 3 rfl, trivial⟩) hC2 ho2 (own_eq hown2 rfl (by rw [List.take_length])) hk2

theorem elemSlc : Elem Tryz.prog 46 101 (.agg #[.int .u16 0, .int .u16 0, .int .u8 0]) 3 6 := ⟨Tryz.underlying46, by kernel_rfl, rfl, by omega, by omega⟩
set_option maxHeartbeats 2000000 in
set_option maxRecDepth 100000 in
theorem given_slices (p : Pkt) (w w1 : World) (a1 : Act) (A : Option Addr) (c1 : Nat) (l : List Slc) (cs : Array Value) (hr : Reads w w.heap.size 3 A l.length (l.flatMap Slc.cells)) (hn : l.length ≤ 2147483647)
    (hE1 : Env 214 [(1, .pointer (some ⟨w.heap.size, 0, none⟩)), (2, .pointer (some ⟨w.heap.size + 1, 0, none⟩)), (3, .pointer (some ⟨w.heap.size + 1 + 1, 0, none⟩)), (125, .slice A (l.length : Nat) c1), (126, .int .i64 (l.length : Nat)), (127, .int .i64 0)] a1) (hc : GivC p w w1) (ho : Blk w1 (w.heap.size + 1 + 1) 53 cs) (hcs : cs[15]? = some (.slice none 0 0)) (Q : Exit → Act → World → Prop)
    (hQ : ∀ a' w' v, Env 214 [(1, .pointer (some ⟨w.heap.size, 0, none⟩)), (2, .pointer (some ⟨w.heap.size + 1, 0, none⟩)), (3, .pointer (some ⟨w.heap.size + 1 + 1, 0, none⟩))] a' → GivC p w w' → Blk w' (w.heap.size + 1 + 1) 53 (cs.setIfInBounds 15 v) → w'.ownsRow w1.heap.size 101 3 v l.length (l.flatMap Slc.cells) → Kept (fun g => g = w.heap.size + 1 + 1) w1 w' → Q .normal a' w') :
    (givBlock 8).wp Tryz.prog Q a1 w1 := by
  conv => arg 2; whnf
  have hset : ∀ v : Value, (cs.setIfInBounds 15 v)[15]? = some v := fun v => by
    have hlt : 15 < cs.size := by
      rcases Nat.lt_or_ge 15 cs.size with h | h
      · exact h
      · rw [Array.getElem?_eq_none h] at hcs; cases hcs
    simp [hlt]
  have hset2 : cs.setIfInBounds 15 (.slice none 0 0) = cs := by
    apply Array.ext_getElem?
    intro j
    by_cases hj : j = 15
    · subst hj; rw [hset, hcs]
    · rw [Array.getElem?_setIfInBounds_ne (Ne.symm hj)]
  have hset3 : ∀ u v : Value, (cs.setIfInBounds 15 u).setIfInBounds 15 v = cs.setIfInBounds 15 v := fun u v => by simp
  refine wp_block ?_
  refine wp_loop_up l.length (fun k a w' => ∃ v, Env 214 [(1, .pointer (some ⟨w.heap.size, 0, none⟩)), (2, .pointer (some ⟨w.heap.size + 1, 0, none⟩)), (3, .pointer (some ⟨w.heap.size + 1 + 1, 0, none⟩)), (125, .slice A (l.length : Nat) c1), (126, .int .i64 (l.length : Nat)), (127, .int .i64 (k : Nat))] a ∧ GivC p w w' ∧ Blk w' (w.heap.size + 1 + 1) 53 (cs.setIfInBounds 15 v) ∧ w'.ownsRow w1.heap.size 101 3 v k ((l.take k).flatMap Slc.cells) ∧ Kept (fun g => g = w.heap.size + 1 + 1) w1 w') ⟨.slice none 0 0, hE1.keep ⟨hE1.get 1 rfl, hE1.get 2 rfl, hE1.get 3 rfl, hE1.get 125 rfl, hE1.get 126 rfl, hE1.get 127 rfl, trivial⟩, hc, by rw [hset2]; exact ho, World.ownsRow_nil _ _ _ _, Kept.refl _ _⟩ ?_
  have hol := ho.lt
  clear hc ho hcs hset2 hE1 a1
  intro k a2 w2 hkl ⟨v, hE2, hC2, ho2, hown2, hk2⟩ K hK
  by_cases hlt : k < l.length
  case pos =>
    obtain ⟨b1, off, rfl, hbB⟩ := hr.addr (by omega) (by omega)
    have hrw := hr.below hC2.below
    obtain ⟨r, hrk⟩ : ∃ r, r = l[k] := ⟨_, rfl⟩
    have e0 := hrw.at2 (slc_cells_len l) k 0 hlt (by omega) (v := .int .u16 r.first) (by rw [hrk]; rfl)
    have e1 := hrw.at2 (slc_cells_len l) k 1 hlt (by omega) (v := .int .u16 r.number) (by rw [hrk]; rfl)
    have e2 := hrw.at2 (slc_cells_len l) k 2 hlt (by omega) (v := .int .u8 r.pic) (by rw [hrk]; rfl)
    simp only [Nat.add_zero] at e0
    have Hrk := Lib.hid hrk
    clear hrk hr hrw
    obtain ⟨x, y, z⟩ := r
    simp only at e0 e1 e2
    have hi1 : (k : Int) < (l.length : Int) := by omega
    have hi0 : (0 : Int) ≤ (k : Int) := by omega
    have hw1 : IntKind.i64.wrap ((k : Int) + 1) = (k : Int) + 1 := IntWalk.i64_in _ (by omega)
    have hzb : b1 < w2.heap.size := by have := hC2.lt; omega
    obtain ⟨A2, c2, rfl⟩ := own_form hown2
    refine wp_seq_k fun K201 hK201 => ?_
    refine wp_region_lit ?_
    refine wpList_val hE2 128 rfl rfl fun K hK => ?_
    have e126 := hE2.get 126 rfl
    have e127 := hE2.get 127 rfl
    go_simp
    refine hK _ _ fun a202 hE202 => ?_
    clear hK K e126 e127
    clear hE2 a2
    refine wpList_nil ?_
    refine hK201 _ _ ?_
    clear hK201
    refine wp_seq_k fun K203 hK203 => ?_
    refine wp_if_t hE202 128 rfl ?_
    refine wp_skip ?_
    refine hK203 _ _ ?_
    clear hK203
    refine wp_seq_k fun K204 hK204 => ?_
    refine wp_block ?_
    refine wp_seq_k fun K205 hK205 => ?_
    refine wp_region_lit ?_
    refine wpList_val hE202 129 rfl rfl fun K hK => ?_
    have e125 := hE202.get 125 rfl
    have e127 := hE202.get 127 rfl
    go_simp
    refine hK _ _ fun a206 hE206 => ?_
    clear hK K e125 e127
    clear hE202 a202
    refine wpList_val hE206 130 rfl rfl fun K hK => ?_
    have e129 := hE206.get 129 rfl
    go_simp
    refine hK _ _ fun a207 hE207 => ?_
    clear hK K e129
    clear hE206 a206
    refine wpList_val hE207 14 rfl rfl fun K hK => ?_
    go_simp
    refine hK _ _ fun a208 hE208 => ?_
    clear hK K
    clear hE207 a207
    refine wpList_none rfl fun K hK => ?_
    have e14 := hE208.get 14 rfl
    have e130 := hE208.get 130 rfl
    go_simp
    refine hK undef _ ?_
    clear hK K e14 e130
    refine wpList_nil ?_
    refine hK205 _ _ ?_
    clear hK205
    have hx := blk_new w2 100 #[.int .u16 x, .int .u16 y, .int .u8 z] rfl
    have hC3 := hC2.alloc (.cells #[.int .u16 x, .int .u16 y, .int .u8 z] 100)
    have ho3 := ho2.alloc (.cells #[.int .u16 x, .int .u16 y, .int .u8 z] 100)
    have hown3 := hown2.alloc (.cells #[.int .u16 x, .int .u16 y, .int .u8 z] 100)
    have hk3 := hk2.row (World.grownBy_alloc w2 (.cells #[.int .u16 x, .int .u16 y, .int .u8 z] 100) none) (B := 0) (by simp)
    have hne3 : ∀ j, (Value.slice A2 k c2).ownBlock = some j → j ≠ w2.heap.size ∧ w1.heap.size ≤ j := fun j hj => by have := hown2.lt j hj; omega
    have hz1 : w1.heap.size ≤ w2.heap.size := hk2.1
    have hz3 : w2.heap.size ≤ (w2.alloc (.cells #[.int .u16 x, .int .u16 y, .int .u8 z] 100)).heap.size := by simp
    clear e0 e1 e2 hC2 ho2 hown2 hk2
    generalize w2.alloc (.cells #[.int .u16 x, .int .u16 y, .int .u8 z] 100) = w3 at *
    have co : w3.cell? ⟨w.heap.size + 1 + 1, 15, none⟩ = some (.slice A2 k c2) := (ho3.cell 15).trans (hset _)
    have hzo : w.heap.size + 1 + 1 < w3.heap.size := ho3.lt
    have x0 : w3.cell? ⟨w2.heap.size, 0, none⟩ = some (.int .u16 x) := hx.cell 0
    have x1 : w3.cell? ⟨w2.heap.size, 1, none⟩ = some (.int .u16 y) := hx.cell 1
    have x2 : w3.cell? ⟨w2.heap.size, 2, none⟩ = some (.int .u8 z) := hx.cell 2
    have hzx : w2.heap.size < w3.heap.size := hx.lt
    refine wp_region_lit ?_
    refine wpList_val hE208 131 rfl rfl fun K hK => ?_
    have e3 := hE208.get 3 rfl
    go_simp
    refine hK _ _ fun a210 hE210 => ?_
    clear hK K e3
    clear hE208 a208
    refine wpList_val hE210 132 rfl rfl fun K hK => ?_
    have e131 := hE210.get 131 rfl
    go_simp
    refine hK _ _ fun a211 hE211 => ?_
    clear hK K e131
    clear hE210 a210
    refine wpList_val hE211 133 rfl rfl fun K hK => ?_
    have e14 := hE211.get 14 rfl
    go_simp
    refine hK _ _ fun a212 hE212 => ?_
    clear hK K e14
    clear hE211 a211
    refine wpList_val hE212 134 rfl rfl fun K hK => ?_
    have e133 := hE212.get 133 rfl
    go_simp
    refine hK _ _ fun a213 hE213 => ?_
    clear hK K e133
    clear hE212 a212
    refine wpList_val hE213 135 rfl rfl fun K hK => ?_
    have e132 := hE213.get 132 rfl
    have e134 := hE213.get 134 rfl
    refine wp_app_one w3 (.tmp 132) (.tmp 134) _ rfl elemSlc w1.heap.size _ k _ #[.int .u16 x, .int .u16 y, .int .u8 z] 101 1 1 hown3 rfl (hE213.ev 132 rfl) (hE213.ev 134 rfl) rfl (by omega) (by intro u hu; simp at hu; rcases hu with rfl | rfl | rfl <;> rfl) (by omega) (by omega) fun g4 cap4 w4 hown4 hg4 hat4 => ?_
    refine hK _ _ fun a214 hE214 => ?_
    clear hK K e132 e134
    clear hE213 a213
    have hC4 := hC3.grown hg4 (fun j hj => by have := (hne3 j hj).2; omega)
    have ho4 := ho3.grown hg4 (fun e => by have := (hne3 _ e.symm).2; omega)
    have hk4 := hk3.row (B := 0) hg4 (fun j hj => .inr (hne3 j hj).2)
    have co4 : w4.cell? ⟨w.heap.size + 1 + 1, 15, none⟩ = some (.slice A2 k c2) := (ho4.cell 15).trans (hset _)
    have fo4 : w4.frozen? ⟨w.heap.size + 1 + 1, 15, none⟩ = false := ho4.frozen 15
    have hzo4 : w.heap.size + 1 + 1 < w4.heap.size := ho4.lt
    have hg4l := (hown4.lt g4 rfl).1
    clear co hzo x0 x1 x2 hzx hC3 ho3 hown3 hk3 hx
    refine wpList_val hE214 136 rfl rfl fun K hK => ?_
    have e3 := hE214.get 3 rfl
    go_simp
    refine hK _ _ fun a215 hE215 => ?_
    clear hK K e3
    clear hE214 a214
    refine wpList_none rfl fun K hK => ?_
    have e135 := hE215.get 135 rfl
    have e136 := hE215.get 136 rfl
    go_simp
    refine hK undef _ ?_
    clear hK K e135 e136
    refine wpList_nil ?_
    refine hK204 _ _ ?_
    clear hK204
    refine wp_region_lit ?_
    refine wpList_val hE215 137 rfl rfl fun K hK => ?_
    have e127 := hE215.get 127 rfl
    go_simp
    refine hK _ _ fun a217 hE217 => ?_
    clear hK K e127
    clear hE215 a215
    refine wpList_val hE217 127 rfl rfl fun K hK => ?_
    have e137 := hE217.get 137 rfl
    go_simp
    refine hK _ _ fun a218 hE218 => ?_
    clear hK K e137
    clear hE217 a217
    refine wpList_nil ?_
    have et : (l.take (k + 1)).flatMap Slc.cells = (l.take k).flatMap Slc.cells ++ (⟨x, y, z⟩ : Slc).cells := by rw [flat_take_succ _ _ _ hlt, Hrk.out]
    refine hK _ _ hlt ⟨_, hE218.keep ⟨hE218.get 1 rfl, hE218.get 2 rfl, hE218.get 3 rfl, hE218.get 125 rfl, hE218.get 126 rfl, (hE218.get 127 rfl).trans (congrArg some (by go_num)), trivial⟩, hC4.grown (grownBy_setCell _ _ _) (fun j hj => by injection hj with hj; simp at hj; omega), by rw [← hset3]; exact ho4.set_ 15 _, own_eq (own_setCell hown4 (fun e => by injection e with e; simp at e; omega) _) rfl (by rw [et]; rfl), hk4.row (B := 0) (grownBy_setCell _ _ _) (fun j hj => by injection hj with hj; simp at hj; omega)⟩
  case neg =>
    obtain rfl : k = l.length := by omega
    have hi1 : ¬ (l.length : Int) < (l.length : Int) := by omega
    refine wp_seq_k fun K219 hK219 => ?_
    refine wp_region_lit ?_
    refine wpList_val hE2 128 rfl rfl fun K hK => ?_
    have e126 := hE2.get 126 rfl
    have e127 := hE2.get 127 rfl
    go_simp
    refine hK _ _ fun a220 hE220 => ?_
    clear hK K e126 e127
    clear hE2 a2
    refine wpList_nil ?_
    refine hK219 _ _ ?_
    clear hK219
    refine wp_seq_k fun K221 hK221 => ?_
    refine wp_if_f hE220 128 rfl ?_
    refine wp_exit ?_
    exact hQ _ _ v (hE220.keep ⟨hE220.get 1 rfl, hE220.get 2 rfl, hE220.get 3 rfl, trivial⟩) hC2 ho2 (own_eq hown2 rfl (by rw [List.take_length])) hk2

set_option maxHeartbeats 4000000 in
set_option maxRecDepth 100000 in
theorem given_flat (p : Pkt) (w : World) (h_reports : p.reports.l.length = 0) (h_chunks : p.chunks.l.length = 0) (h_entries : p.entries.l.length = 0) (h_blocks : p.blocks.l.length = 0) (h_stats : p.stats.l.length = 0) (h_deltas : p.deltas.l.length = 0)
    (hp : p.pairs.Lies w w.heap.size 2 Pair.cells) (hs : p.slices.Lies w w.heap.size 3 Slc.cells) (hpn : p.pairs.l.length ≤ 2147483647) (hsn : p.slices.l.length ≤ 2147483647) :
    Calls Tryz.prog 10 #[.agg p.cells] w fun e w' => ∃ (s1 : Sl Pair) (s2 : Sl Slc), s1.l = p.pairs.l ∧ s2.l = p.slices.l ∧ e = .returned (.agg (Pkt.cells (⟨p.kind, p.sender, p.media, p.ntp, p.rtp, p.packets, p.octets, Sl.nil, p.ext, Sl.nil, p.sources, p.text, p.sub, p.data, s1, s2, Sl.nil, p.bits, Sl.nil, p.time, p.base, p.count, p.ref, p.fb, Sl.nil, Sl.nil, p.hpad, p.hcount, p.htype, p.hlen⟩ : Pkt))) ∧ s1.Lies w' w'.heap.size 2 Pair.cells ∧ s2.Lies w' w'.heap.size 3 Slc.cells ∧ Below w.heap.size w w' := by
  refine calls_of_wp Tryz.func10 rfl ?_
  rw [Tryz.ntmps10]
  have hE0 : Env 214 [(0, .agg p.cells)] ⟨#[.agg p.cells] ++ Array.replicate (214 - (#[Value.agg p.cells] : Array Value).size) undef, []⟩ := Env.enter _ (by simp) ⟨by simp, trivial⟩
  generalize (⟨#[.agg p.cells] ++ Array.replicate (214 - (#[Value.agg p.cells] : Array Value).size) undef, []⟩ : Act) = a0 at hE0 ⊢
  have z_reports : ¬ 0 < p.reports.l.length := by omega
  clear h_reports
  have z_chunks : ¬ 0 < p.chunks.l.length := by omega
  clear h_chunks
  have z_entries : ¬ 0 < p.entries.l.length := by omega
  clear h_entries
  have z_blocks : ¬ 0 < p.blocks.l.length := by omega
  clear h_blocks
  have z_stats : ¬ 0 < p.stats.l.length := by omega
  clear h_stats
  have z_deltas : ¬ 0 < p.deltas.l.length := by omega
  clear h_deltas
  refine wp_seq_k fun K1 hK1 => ?_
  refine wp_region_lit ?_
  refine wpList_val hE0 1 rfl rfl fun K hK => ?_
  have e0 := hE0.get 0 rfl
  go_simp
  refine hK _ _ fun a2 hE2 => ?_
  clear hK K e0
  clear hE0 a0
  refine wpList_val hE2 2 rfl rfl fun K hK => ?_
  go_simp
  refine hK _ _ fun a3 hE3 => ?_
  clear hK K
  clear hE2 a2
  refine wpList_nil ?_
  have hpk := (blk_new w 38 p.cells rfl).alloc (.cells Pkt.zero.cells 53)
  have hrs := blk_new (w.alloc (.cells p.cells 38)) 53 Pkt.zero.cells (B := w.heap.size + 1) (by simp)
  have hB := ((Below.refl w.heap.size w).alloc (Nat.le_refl _) (.cells p.cells 38)).alloc (by simp) (.cells Pkt.zero.cells 53)
  have hz1 : ((w.alloc (.cells p.cells 38)).alloc (.cells Pkt.zero.cells 53)).heap.size = w.heap.size + 1 + 1 := by simp
  have hgoal : ∀ w1, Blk w1 w.heap.size 38 p.cells → Blk w1 (w.heap.size + 1) 53 Pkt.zero.cells → Below w.heap.size w w1 → w1.heap.size = w.heap.size + 1 + 1 → K1 a3 w1 := ?_
  · exact hgoal _ hpk hrs hB hz1
  clear hpk hrs hB hz1
  intro w1 hpk hrs hB hz1
  refine hK1 _ _ ?_
  clear hK1
  refine wp_seq_k fun K4 hK4 => ?_
  have hzp : w.heap.size < w1.heap.size := hpk.lt
  refine wp_region_lit ?_
  refine wpList_val hE3 26 rfl rfl fun K hK => ?_
  have e1 := hE3.get 1 rfl
  go_simp
  refine hK _ _ fun a5 hE5 => ?_
  clear hK K e1
  clear hE3 a3
  refine wpList_val hE5 27 rfl rfl fun K hK => ?_
  have e26 := hE5.get 26 rfl
  have c0 : w1.cell? ⟨w.heap.size, 0, none⟩ = some (.int .i64 p.kind) := hpk.cell 0
  go_simp
  refine hK _ _ fun a6 hE6 => ?_
  clear hK K e26
  clear hE5 a5
  clear c0
  refine wpList_val hE6 28 rfl rfl fun K hK => ?_
  have e1 := hE6.get 1 rfl
  go_simp
  refine hK _ _ fun a7 hE7 => ?_
  clear hK K e1
  clear hE6 a6
  refine wpList_val hE7 29 rfl rfl fun K hK => ?_
  have e28 := hE7.get 28 rfl
  have c1 : w1.cell? ⟨w.heap.size, 1, none⟩ = some (.int .u32 p.sender) := hpk.cell 1
  go_simp
  refine hK _ _ fun a8 hE8 => ?_
  clear hK K e28
  clear hE7 a7
  clear c1
  refine wpList_val hE8 30 rfl rfl fun K hK => ?_
  have e1 := hE8.get 1 rfl
  go_simp
  refine hK _ _ fun a9 hE9 => ?_
  clear hK K e1
  clear hE8 a8
  refine wpList_val hE9 31 rfl rfl fun K hK => ?_
  have e30 := hE9.get 30 rfl
  have c2 : w1.cell? ⟨w.heap.size, 2, none⟩ = some (.int .u32 p.media) := hpk.cell 2
  go_simp
  refine hK _ _ fun a10 hE10 => ?_
  clear hK K e30
  clear hE9 a9
  clear c2
  refine wpList_val hE10 32 rfl rfl fun K hK => ?_
  have e1 := hE10.get 1 rfl
  go_simp
  refine hK _ _ fun a11 hE11 => ?_
  clear hK K e1
  clear hE10 a10
  refine wpList_val hE11 33 rfl rfl fun K hK => ?_
  have e32 := hE11.get 32 rfl
  have c3 : w1.cell? ⟨w.heap.size, 3, none⟩ = some (.int .u64 p.ntp) := hpk.cell 3
  go_simp
  refine hK _ _ fun a12 hE12 => ?_
  clear hK K e32
  clear hE11 a11
  clear c3
  refine wpList_val hE12 34 rfl rfl fun K hK => ?_
  have e1 := hE12.get 1 rfl
  go_simp
  refine hK _ _ fun a13 hE13 => ?_
  clear hK K e1
  clear hE12 a12
  refine wpList_val hE13 35 rfl rfl fun K hK => ?_
  have e34 := hE13.get 34 rfl
  have c4 : w1.cell? ⟨w.heap.size, 4, none⟩ = some (.int .u32 p.rtp) := hpk.cell 4
  go_simp
  refine hK _ _ fun a14 hE14 => ?_
  clear hK K e34
  clear hE13 a13
  clear c4
  refine wpList_val hE14 36 rfl rfl fun K hK => ?_
  have e1 := hE14.get 1 rfl
  go_simp
  refine hK _ _ fun a15 hE15 => ?_
  clear hK K e1
  clear hE14 a14
  refine wpList_val hE15 37 rfl rfl fun K hK => ?_
  have e36 := hE15.get 36 rfl
  have c5 : w1.cell? ⟨w.heap.size, 5, none⟩ = some (.int .u32 p.packets) := hpk.cell 5
  go_simp
  refine hK _ _ fun a16 hE16 => ?_
  clear hK K e36
  clear hE15 a15
  clear c5
  refine wpList_val hE16 38 rfl rfl fun K hK => ?_
  have e1 := hE16.get 1 rfl
  go_simp
  refine hK _ _ fun a17 hE17 => ?_
  clear hK K e1
  clear hE16 a16
  refine wpList_val hE17 39 rfl rfl fun K hK => ?_
  have e38 := hE17.get 38 rfl
  have c6 : w1.cell? ⟨w.heap.size, 6, none⟩ = some (.int .u32 p.octets) := hpk.cell 6
  go_simp
  refine hK _ _ fun a18 hE18 => ?_
  clear hK K e38
  clear hE17 a17
  clear c6
  refine wpList_val hE18 40 rfl rfl fun K hK => ?_
  have e1 := hE18.get 1 rfl
  go_simp
  refine hK _ _ fun a19 hE19 => ?_
  clear hK K e1
  clear hE18 a18
  refine wpList_val hE19 41 rfl rfl fun K hK => ?_
  have e40 := hE19.get 40 rfl
  have c8 : w1.cell? ⟨w.heap.size, 8, none⟩ = some (.slice p.ext.A (p.ext.l.length : Nat) p.ext.c) := hpk.cell 8
  go_simp
  refine hK _ _ fun a20 hE20 => ?_
  clear hK K e40
  clear hE19 a19
  clear c8
  refine wpList_val hE20 42 rfl rfl fun K hK => ?_
  have e1 := hE20.get 1 rfl
  go_simp
  refine hK _ _ fun a21 hE21 => ?_
  clear hK K e1
  clear hE20 a20
  refine wpList_val hE21 43 rfl rfl fun K hK => ?_
  have e42 := hE21.get 42 rfl
  have c10 : w1.cell? ⟨w.heap.size, 10, none⟩ = some (.slice p.sources.A (p.sources.l.length : Nat) p.sources.c) := hpk.cell 10
  go_simp
  refine hK _ _ fun a22 hE22 => ?_
  clear hK K e42
  clear hE21 a21
  clear c10
  refine wpList_val hE22 44 rfl rfl fun K hK => ?_
  have e1 := hE22.get 1 rfl
  go_simp
  refine hK _ _ fun a23 hE23 => ?_
  clear hK K e1
  clear hE22 a22
  refine wpList_val hE23 45 rfl rfl fun K hK => ?_
  have e44 := hE23.get 44 rfl
  have c11 : w1.cell? ⟨w.heap.size, 11, none⟩ = some (.string p.text) := hpk.cell 11
  go_simp
  refine hK _ _ fun a24 hE24 => ?_
  clear hK K e44
  clear hE23 a23
  clear c11
  refine wpList_val hE24 46 rfl rfl fun K hK => ?_
  have e1 := hE24.get 1 rfl
  go_simp
  refine hK _ _ fun a25 hE25 => ?_
  clear hK K e1
  clear hE24 a24
  refine wpList_val hE25 47 rfl rfl fun K hK => ?_
  have e46 := hE25.get 46 rfl
  have c12 : w1.cell? ⟨w.heap.size, 12, none⟩ = some (.int .u8 p.sub) := hpk.cell 12
  go_simp
  refine hK _ _ fun a26 hE26 => ?_
  clear hK K e46
  clear hE25 a25
  clear c12
  refine wpList_val hE26 48 rfl rfl fun K hK => ?_
  have e1 := hE26.get 1 rfl
  go_simp
  refine hK _ _ fun a27 hE27 => ?_
  clear hK K e1
  clear hE26 a26
  refine wpList_val hE27 49 rfl rfl fun K hK => ?_
  have e48 := hE27.get 48 rfl
  have c13 : w1.cell? ⟨w.heap.size, 13, none⟩ = some (.slice p.data.A (p.data.l.length : Nat) p.data.c) := hpk.cell 13
  go_simp
  refine hK _ _ fun a28 hE28 => ?_
  clear hK K e48
  clear hE27 a27
  clear c13
  refine wpList_val hE28 50 rfl rfl fun K hK => ?_
  have e1 := hE28.get 1 rfl
  go_simp
  refine hK _ _ fun a29 hE29 => ?_
  clear hK K e1
  clear hE28 a28
  refine wpList_val hE29 51 rfl rfl fun K hK => ?_
  have e50 := hE29.get 50 rfl
  have c17 : w1.cell? ⟨w.heap.size, 17, none⟩ = some (.int .u32 p.bits) := hpk.cell 17
  go_simp
  refine hK _ _ fun a30 hE30 => ?_
  clear hK K e50
  clear hE29 a29
  clear c17
  refine wpList_val hE30 52 rfl rfl fun K hK => ?_
  have e1 := hE30.get 1 rfl
  go_simp
  refine hK _ _ fun a31 hE31 => ?_
  clear hK K e1
  clear hE30 a30
  refine wpList_val hE31 53 rfl rfl fun K hK => ?_
  have e52 := hE31.get 52 rfl
  have c19 : w1.cell? ⟨w.heap.size, 19, none⟩ = some (.int .u32 p.time) := hpk.cell 19
  go_simp
  refine hK _ _ fun a32 hE32 => ?_
  clear hK K e52
  clear hE31 a31
  clear c19
  refine wpList_val hE32 54 rfl rfl fun K hK => ?_
  have e1 := hE32.get 1 rfl
  go_simp
  refine hK _ _ fun a33 hE33 => ?_
  clear hK K e1
  clear hE32 a32
  refine wpList_val hE33 55 rfl rfl fun K hK => ?_
  have e54 := hE33.get 54 rfl
  have c20 : w1.cell? ⟨w.heap.size, 20, none⟩ = some (.int .u16 p.base) := hpk.cell 20
  go_simp
  refine hK _ _ fun a34 hE34 => ?_
  clear hK K e54
  clear hE33 a33
  clear c20
  refine wpList_val hE34 56 rfl rfl fun K hK => ?_
  have e1 := hE34.get 1 rfl
  go_simp
  refine hK _ _ fun a35 hE35 => ?_
  clear hK K e1
  clear hE34 a34
  refine wpList_val hE35 57 rfl rfl fun K hK => ?_
  have e56 := hE35.get 56 rfl
  have c21 : w1.cell? ⟨w.heap.size, 21, none⟩ = some (.int .u16 p.count) := hpk.cell 21
  go_simp
  refine hK _ _ fun a36 hE36 => ?_
  clear hK K e56
  clear hE35 a35
  clear c21
  refine wpList_val hE36 58 rfl rfl fun K hK => ?_
  have e1 := hE36.get 1 rfl
  go_simp
  refine hK _ _ fun a37 hE37 => ?_
  clear hK K e1
  clear hE36 a36
  refine wpList_val hE37 59 rfl rfl fun K hK => ?_
  have e58 := hE37.get 58 rfl
  have c22 : w1.cell? ⟨w.heap.size, 22, none⟩ = some (.int .u32 p.ref) := hpk.cell 22
  go_simp
  refine hK _ _ fun a38 hE38 => ?_
  clear hK K e58
  clear hE37 a37
  clear c22
  refine wpList_val hE38 60 rfl rfl fun K hK => ?_
  have e1 := hE38.get 1 rfl
  go_simp
  refine hK _ _ fun a39 hE39 => ?_
  clear hK K e1
  clear hE38 a38
  refine wpList_val hE39 61 rfl rfl fun K hK => ?_
  have e60 := hE39.get 60 rfl
  have c23 : w1.cell? ⟨w.heap.size, 23, none⟩ = some (.int .u8 p.fb) := hpk.cell 23
  go_simp
  refine hK _ _ fun a40 hE40 => ?_
  clear hK K e60
  clear hE39 a39
  clear c23
  refine wpList_val hE40 62 rfl rfl fun K hK => ?_
  have e1 := hE40.get 1 rfl
  go_simp
  refine hK _ _ fun a41 hE41 => ?_
  clear hK K e1
  clear hE40 a40
  refine wpList_val hE41 63 rfl rfl fun K hK => ?_
  have e62 := hE41.get 62 rfl
  have c26 : w1.cell? ⟨w.heap.size, 26, none⟩ = some (.bool p.hpad) := hpk.cell 26
  have c27 : w1.cell? ⟨w.heap.size, 27, none⟩ = some (.int .u8 p.hcount) := hpk.cell 27
  have c28 : w1.cell? ⟨w.heap.size, 28, none⟩ = some (.int .u8 p.htype) := hpk.cell 28
  have c29 : w1.cell? ⟨w.heap.size, 29, none⟩ = some (.int .u16 p.hlen) := hpk.cell 29
  go_simp
  refine hK _ _ fun a42 hE42 => ?_
  clear hK K e62
  clear hE41 a41
  clear c26 c27 c28 c29
  refine wpList_val hE42 64 rfl rfl fun K hK => ?_
  have e27 := hE42.get 27 rfl
  have e29 := hE42.get 29 rfl
  have e31 := hE42.get 31 rfl
  have e33 := hE42.get 33 rfl
  have e35 := hE42.get 35 rfl
  have e37 := hE42.get 37 rfl
  have e39 := hE42.get 39 rfl
  have e41 := hE42.get 41 rfl
  have e43 := hE42.get 43 rfl
  have e45 := hE42.get 45 rfl
  have e47 := hE42.get 47 rfl
  have e49 := hE42.get 49 rfl
  have e51 := hE42.get 51 rfl
  have e53 := hE42.get 53 rfl
  have e55 := hE42.get 55 rfl
  have e57 := hE42.get 57 rfl
  have e59 := hE42.get 59 rfl
  have e61 := hE42.get 61 rfl
  have e63 := hE42.get 63 rfl
  refine wp_build 53 _ rfl #[(0, .int .i64 p.kind), (1, .int .u32 p.sender), (2, .int .u32 p.media), (3, .int .u64 p.ntp), (4, .int .u32 p.rtp), (5, .int .u32 p.packets), (6, .int .u32 p.octets), (8, .slice p.ext.A (p.ext.l.length : Nat) p.ext.c), (10, .slice p.sources.A (p.sources.l.length : Nat) p.sources.c), (11, .string p.text), (12, .int .u8 p.sub), (13, .slice p.data.A (p.data.l.length : Nat) p.data.c), (17, .int .u32 p.bits), (19, .int .u32 p.time), (20, .int .u16 p.base), (21, .int .u16 p.count), (22, .int .u32 p.ref), (23, .int .u8 p.fb), (26, .agg #[.bool p.hpad, .int .u8 p.hcount, .int .u8 p.htype, .int .u16 p.hlen])] (Pkt.cells (⟨p.kind, p.sender, p.media, p.ntp, p.rtp, p.packets, p.octets, Sl.nil, p.ext, Sl.nil, p.sources, p.text, p.sub, p.data, Sl.nil, Sl.nil, Sl.nil, p.bits, Sl.nil, p.time, p.base, p.count, p.ref, p.fb, Sl.nil, Sl.nil, p.hpad, p.hcount, p.htype, p.hlen⟩ : Pkt)) (by simp [Act.eval, e27, e29, e31, e33, e35, e37, e39, e41, e43, e45, e47, e49, e51, e53, e55, e57, e59, e61, e63]) (by kernel_rfl) ?_
  refine hK _ _ fun a43 hE43 => ?_
  clear hK K e27 e29 e31 e33 e35 e37 e39 e41 e43 e45 e47 e49 e51 e53 e55 e57 e59 e61 e63
  clear hE42 a42
  refine wpList_val hE43 3 rfl rfl fun K hK => ?_
  go_simp
  refine hK _ _ fun a44 hE44 => ?_
  clear hK K
  clear hE43 a43
  have hz := blk_new w1 53 Pkt.zero.cells rfl
  rw [hz1] at hz
  clear hzp
  refine wpList_none rfl fun K hK => ?_
  have e3 := hE44.get 3 rfl
  have e64 := hE44.get 64 rfl
  refine wp_store_blk 53 (.tmp 3) (.tmp 64) rfl (w.heap.size + 1 + 1) Pkt.zero.cells (Pkt.cells (⟨p.kind, p.sender, p.media, p.ntp, p.rtp, p.packets, p.octets, Sl.nil, p.ext, Sl.nil, p.sources, p.text, p.sub, p.data, Sl.nil, Sl.nil, Sl.nil, p.bits, Sl.nil, p.time, p.base, p.count, p.ref, p.fb, Sl.nil, Sl.nil, p.hpad, p.hcount, p.htype, p.hlen⟩ : Pkt)) 53 (hE44.ev 3 rfl) (hE44.ev 64 rfl) hz rfl (by kernel_rfl) (pkt_one _) fun w3 ho3 hg3 hz3 => ?_
  refine hK undef _ ?_
  clear hK K e3 e64
  refine wpList_nil ?_
  have hc3 : GivC p w w3 := ⟨(hpk.alloc _).grown hg3 (by simp; omega), (hrs.alloc _).grown hg3 (by simp), (hB.alloc hB.size _).grown hg3 (by simp; omega) (fun k hk => by injection hk; omega)⟩
  clear hpk hrs hB hg3 hz3 hz hz1
  refine hK4 _ _ ?_
  clear hK4
  refine wp_seq_k fun K46 hK46 => ?_
  refine wp_seq_k fun K47 hK47 => ?_
  have hE48 := hE44.keep (l' := [(1, _), (2, _), (3, _)]) ⟨hE44.get 1 rfl, hE44.get 2 rfl, hE44.get 3 rfl, trivial⟩
  clear hE44
  refine wp_region_lit ?_
  refine wpList_val hE48 65 rfl rfl fun K hK => ?_
  have e1 := hE48.get 1 rfl
  go_simp
  refine hK _ _ fun a49 hE49 => ?_
  clear hK K e1
  clear hE48 a44
  refine wpList_val hE49 66 rfl rfl fun K hK => ?_
  have e65 := hE49.get 65 rfl
  have c7 : w3.cell? ⟨w.heap.size, 7, none⟩ = some (.slice p.reports.A (p.reports.l.length : Nat) p.reports.c) := hc3.pk.cell 7
  have hzp : w.heap.size < w3.heap.size := hc3.pk.lt
  go_simp
  refine hK _ _ fun a50 hE50 => ?_
  clear hK K e65
  clear hE49 a49
  clear c7 hzp
  refine wpList_val hE50 67 rfl rfl fun K hK => ?_
  have e66 := hE50.get 66 rfl
  go_simp
  refine hK _ _ fun a51 hE51 => ?_
  clear hK K e66
  clear hE50 a50
  refine wpList_val hE51 68 rfl rfl fun K hK => ?_
  go_simp
  refine hK _ _ fun a52 hE52 => ?_
  clear hK K
  clear hE51 a51
  refine wpList_nil ?_
  refine hK47 _ _ ?_
  clear hK47
  refine wp_block ?_
  refine wp_loop_once ?_
  refine wp_seq_k fun K53 hK53 => ?_
  refine wp_region_lit ?_
  refine wpList_val hE52 69 rfl rfl fun K hK => ?_
  have e67 := hE52.get 67 rfl
  have e68 := hE52.get 68 rfl
  go_simp
  refine hK _ _ fun a54 hE54 => ?_
  clear hK K e67 e68
  clear hE52 a52
  refine wpList_nil ?_
  refine hK53 _ _ ?_
  clear hK53
  refine wp_seq_k fun K55 hK55 => ?_
  refine wp_if_f hE54 69 rfl ?_
  refine wp_exit ?_
  refine hK46 _ _ ?_
  clear hK46
  refine wp_seq_k fun K56 hK56 => ?_
  refine wp_seq_k fun K57 hK57 => ?_
  refine wp_region_lit ?_
  refine wpList_val hE54 79 rfl rfl fun K hK => ?_
  have e1 := hE54.get 1 rfl
  go_simp
  refine hK _ _ fun a58 hE58 => ?_
  clear hK K e1
  clear hE54 a54
  refine wpList_val hE58 80 rfl rfl fun K hK => ?_
  have e79 := hE58.get 79 rfl
  have c9 : w3.cell? ⟨w.heap.size, 9, none⟩ = some (.slice p.chunks.A (p.chunks.l.length : Nat) p.chunks.c) := hc3.pk.cell 9
  have hzp : w.heap.size < w3.heap.size := hc3.pk.lt
  go_simp
  refine hK _ _ fun a59 hE59 => ?_
  clear hK K e79
  clear hE58 a58
  clear c9 hzp
  refine wpList_val hE59 81 rfl rfl fun K hK => ?_
  have e80 := hE59.get 80 rfl
  go_simp
  refine hK _ _ fun a60 hE60 => ?_
  clear hK K e80
  clear hE59 a59
  refine wpList_val hE60 82 rfl rfl fun K hK => ?_
  go_simp
  refine hK _ _ fun a61 hE61 => ?_
  clear hK K
  clear hE60 a60
  refine wpList_nil ?_
  refine hK57 _ _ ?_
  clear hK57
  refine wp_block ?_
  refine wp_loop_once ?_
  refine wp_seq_k fun K62 hK62 => ?_
  refine wp_region_lit ?_
  refine wpList_val hE61 83 rfl rfl fun K hK => ?_
  have e81 := hE61.get 81 rfl
  have e82 := hE61.get 82 rfl
  go_simp
  refine hK _ _ fun a63 hE63 => ?_
  clear hK K e81 e82
  clear hE61 a61
  refine wpList_nil ?_
  refine hK62 _ _ ?_
  clear hK62
  refine wp_seq_k fun K64 hK64 => ?_
  refine wp_if_f hE63 83 rfl ?_
  refine wp_exit ?_
  refine hK56 _ _ ?_
  clear hK56
  refine wp_seq_k fun K65 hK65 => ?_
  refine wp_seq_k fun K66 hK66 => ?_
  refine wp_region_lit ?_
  refine wpList_val hE63 110 rfl rfl fun K hK => ?_
  have e1 := hE63.get 1 rfl
  go_simp
  refine hK _ _ fun a67 hE67 => ?_
  clear hK K e1
  clear hE63 a63
  refine wpList_val hE67 111 rfl rfl fun K hK => ?_
  have e110 := hE67.get 110 rfl
  have c14 : w3.cell? ⟨w.heap.size, 14, none⟩ = some (.slice p.pairs.A (p.pairs.l.length : Nat) p.pairs.c) := hc3.pk.cell 14
  have hzp : w.heap.size < w3.heap.size := hc3.pk.lt
  go_simp
  refine hK _ _ fun a68 hE68 => ?_
  clear hK K e110
  clear hE67 a67
  clear c14 hzp
  refine wpList_val hE68 112 rfl rfl fun K hK => ?_
  have e111 := hE68.get 111 rfl
  go_simp
  refine hK _ _ fun a69 hE69 => ?_
  clear hK K e111
  clear hE68 a68
  refine wpList_val hE69 113 rfl rfl fun K hK => ?_
  go_simp
  refine hK _ _ fun a70 hE70 => ?_
  clear hK K
  clear hE69 a69
  refine wpList_nil ?_
  refine hK66 _ _ ?_
  clear hK66
  refine given_pairs p w w3 _ p.pairs.A p.pairs.c p.pairs.l _ hp hpn (hE70.keep ⟨hE70.get 1 rfl, hE70.get 2 rfl, hE70.get 3 rfl, hE70.get 111 rfl, hE70.get 112 rfl, hE70.get 113 rfl, trivial⟩) hc3 ho3 rfl _ fun a1004 w4 v4 hE1004 hc4 ho4 own4 hk4 => ?_
  obtain ⟨A1, c1, rfl⟩ := own_form own4
  have hz4_4 := ho3.lt
  clear hE70 a70
  refine hK65 _ _ ?_
  clear hK65
  refine wp_seq_k fun K71 hK71 => ?_
  refine wp_seq_k fun K72 hK72 => ?_
  refine wp_region_lit ?_
  refine wpList_val hE1004 124 rfl rfl fun K hK => ?_
  have e1 := hE1004.get 1 rfl
  go_simp
  refine hK _ _ fun a73 hE73 => ?_
  clear hK K e1
  clear hE1004 a1004
  refine wpList_val hE73 125 rfl rfl fun K hK => ?_
  have e124 := hE73.get 124 rfl
  have c15 : w4.cell? ⟨w.heap.size, 15, none⟩ = some (.slice p.slices.A (p.slices.l.length : Nat) p.slices.c) := hc4.pk.cell 15
  have hzp : w.heap.size < w4.heap.size := hc4.pk.lt
  go_simp
  refine hK _ _ fun a74 hE74 => ?_
  clear hK K e124
  clear hE73 a73
  clear c15 hzp
  refine wpList_val hE74 126 rfl rfl fun K hK => ?_
  have e125 := hE74.get 125 rfl
  go_simp
  refine hK _ _ fun a75 hE75 => ?_
  clear hK K e125
  clear hE74 a74
  refine wpList_val hE75 127 rfl rfl fun K hK => ?_
  go_simp
  refine hK _ _ fun a76 hE76 => ?_
  clear hK K
  clear hE75 a75
  refine wpList_nil ?_
  refine hK72 _ _ ?_
  clear hK72
  refine given_slices p w w4 _ p.slices.A p.slices.c p.slices.l _ hs hsn (hE76.keep ⟨hE76.get 1 rfl, hE76.get 2 rfl, hE76.get 3 rfl, hE76.get 125 rfl, hE76.get 126 rfl, hE76.get 127 rfl, trivial⟩) hc4 ho4 rfl _ fun a1005 w5 v5 hE1005 hc5 ho5 own5 hk5 => ?_
  obtain ⟨A2, c2, rfl⟩ := own_form own5
  have hz5_5 := ho4.lt
  clear hE76 a76
  refine hK71 _ _ ?_
  clear hK71
  refine wp_seq_k fun K77 hK77 => ?_
  refine wp_seq_k fun K78 hK78 => ?_
  refine wp_region_lit ?_
  refine wpList_val hE1005 138 rfl rfl fun K hK => ?_
  have e1 := hE1005.get 1 rfl
  go_simp
  refine hK _ _ fun a79 hE79 => ?_
  clear hK K e1
  clear hE1005 a1005
  refine wpList_val hE79 139 rfl rfl fun K hK => ?_
  have e138 := hE79.get 138 rfl
  have c16 : w5.cell? ⟨w.heap.size, 16, none⟩ = some (.slice p.entries.A (p.entries.l.length : Nat) p.entries.c) := hc5.pk.cell 16
  have hzp : w.heap.size < w5.heap.size := hc5.pk.lt
  go_simp
  refine hK _ _ fun a80 hE80 => ?_
  clear hK K e138
  clear hE79 a79
  clear c16 hzp
  refine wpList_val hE80 140 rfl rfl fun K hK => ?_
  have e139 := hE80.get 139 rfl
  go_simp
  refine hK _ _ fun a81 hE81 => ?_
  clear hK K e139
  clear hE80 a80
  refine wpList_val hE81 141 rfl rfl fun K hK => ?_
  go_simp
  refine hK _ _ fun a82 hE82 => ?_
  clear hK K
  clear hE81 a81
  refine wpList_nil ?_
  refine hK78 _ _ ?_
  clear hK78
  refine wp_block ?_
  refine wp_loop_once ?_
  refine wp_seq_k fun K83 hK83 => ?_
  refine wp_region_lit ?_
  refine wpList_val hE82 142 rfl rfl fun K hK => ?_
  have e140 := hE82.get 140 rfl
  have e141 := hE82.get 141 rfl
  go_simp
  refine hK _ _ fun a84 hE84 => ?_
  clear hK K e140 e141
  clear hE82 a82
  refine wpList_nil ?_
  refine hK83 _ _ ?_
  clear hK83
  refine wp_seq_k fun K85 hK85 => ?_
  refine wp_if_f hE84 142 rfl ?_
  refine wp_exit ?_
  refine hK77 _ _ ?_
  clear hK77
  refine wp_seq_k fun K86 hK86 => ?_
  refine wp_seq_k fun K87 hK87 => ?_
  refine wp_region_lit ?_
  refine wpList_val hE84 152 rfl rfl fun K hK => ?_
  have e1 := hE84.get 1 rfl
  go_simp
  refine hK _ _ fun a88 hE88 => ?_
  clear hK K e1
  clear hE84 a84
  refine wpList_val hE88 153 rfl rfl fun K hK => ?_
  have e152 := hE88.get 152 rfl
  have c18 : w5.cell? ⟨w.heap.size, 18, none⟩ = some (.slice p.blocks.A (p.blocks.l.length : Nat) p.blocks.c) := hc5.pk.cell 18
  have hzp : w.heap.size < w5.heap.size := hc5.pk.lt
  go_simp
  refine hK _ _ fun a89 hE89 => ?_
  clear hK K e152
  clear hE88 a88
  clear c18 hzp
  refine wpList_val hE89 154 rfl rfl fun K hK => ?_
  have e153 := hE89.get 153 rfl
  go_simp
  refine hK _ _ fun a90 hE90 => ?_
  clear hK K e153
  clear hE89 a89
  refine wpList_val hE90 155 rfl rfl fun K hK => ?_
  go_simp
  refine hK _ _ fun a91 hE91 => ?_
  clear hK K
  clear hE90 a90
  refine wpList_nil ?_
  refine hK87 _ _ ?_
  clear hK87
  refine wp_block ?_
  refine wp_loop_once ?_
  refine wp_seq_k fun K92 hK92 => ?_
  refine wp_region_lit ?_
  refine wpList_val hE91 156 rfl rfl fun K hK => ?_
  have e154 := hE91.get 154 rfl
  have e155 := hE91.get 155 rfl
  go_simp
  refine hK _ _ fun a93 hE93 => ?_
  clear hK K e154 e155
  clear hE91 a91
  refine wpList_nil ?_
  refine hK92 _ _ ?_
  clear hK92
  refine wp_seq_k fun K94 hK94 => ?_
  refine wp_if_f hE93 156 rfl ?_
  refine wp_exit ?_
  refine hK86 _ _ ?_
  clear hK86
  refine wp_seq_k fun K95 hK95 => ?_
  refine wp_seq_k fun K96 hK96 => ?_
  refine wp_region_lit ?_
  refine wpList_val hE93 185 rfl rfl fun K hK => ?_
  have e1 := hE93.get 1 rfl
  go_simp
  refine hK _ _ fun a97 hE97 => ?_
  clear hK K e1
  clear hE93 a93
  refine wpList_val hE97 186 rfl rfl fun K hK => ?_
  have e185 := hE97.get 185 rfl
  have c24 : w5.cell? ⟨w.heap.size, 24, none⟩ = some (.slice p.stats.A (p.stats.l.length : Nat) p.stats.c) := hc5.pk.cell 24
  have hzp : w.heap.size < w5.heap.size := hc5.pk.lt
  go_simp
  refine hK _ _ fun a98 hE98 => ?_
  clear hK K e185
  clear hE97 a97
  clear c24 hzp
  refine wpList_val hE98 187 rfl rfl fun K hK => ?_
  have e186 := hE98.get 186 rfl
  go_simp
  refine hK _ _ fun a99 hE99 => ?_
  clear hK K e186
  clear hE98 a98
  refine wpList_val hE99 188 rfl rfl fun K hK => ?_
  go_simp
  refine hK _ _ fun a100 hE100 => ?_
  clear hK K
  clear hE99 a99
  refine wpList_nil ?_
  refine hK96 _ _ ?_
  clear hK96
  refine wp_block ?_
  refine wp_loop_once ?_
  refine wp_seq_k fun K101 hK101 => ?_
  refine wp_region_lit ?_
  refine wpList_val hE100 189 rfl rfl fun K hK => ?_
  have e187 := hE100.get 187 rfl
  have e188 := hE100.get 188 rfl
  go_simp
  refine hK _ _ fun a102 hE102 => ?_
  clear hK K e187 e188
  clear hE100 a100
  refine wpList_nil ?_
  refine hK101 _ _ ?_
  clear hK101
  refine wp_seq_k fun K103 hK103 => ?_
  refine wp_if_f hE102 189 rfl ?_
  refine wp_exit ?_
  refine hK95 _ _ ?_
  clear hK95
  refine wp_seq_k fun K104 hK104 => ?_
  refine wp_seq_k fun K105 hK105 => ?_
  refine wp_region_lit ?_
  refine wpList_val hE102 199 rfl rfl fun K hK => ?_
  have e1 := hE102.get 1 rfl
  go_simp
  refine hK _ _ fun a106 hE106 => ?_
  clear hK K e1
  clear hE102 a102
  refine wpList_val hE106 200 rfl rfl fun K hK => ?_
  have e199 := hE106.get 199 rfl
  have c25 : w5.cell? ⟨w.heap.size, 25, none⟩ = some (.slice p.deltas.A (p.deltas.l.length : Nat) p.deltas.c) := hc5.pk.cell 25
  have hzp : w.heap.size < w5.heap.size := hc5.pk.lt
  go_simp
  refine hK _ _ fun a107 hE107 => ?_
  clear hK K e199
  clear hE106 a106
  clear c25 hzp
  refine wpList_val hE107 201 rfl rfl fun K hK => ?_
  have e200 := hE107.get 200 rfl
  go_simp
  refine hK _ _ fun a108 hE108 => ?_
  clear hK K e200
  clear hE107 a107
  refine wpList_val hE108 202 rfl rfl fun K hK => ?_
  go_simp
  refine hK _ _ fun a109 hE109 => ?_
  clear hK K
  clear hE108 a108
  refine wpList_nil ?_
  refine hK105 _ _ ?_
  clear hK105
  refine wp_block ?_
  refine wp_loop_once ?_
  refine wp_seq_k fun K110 hK110 => ?_
  refine wp_region_lit ?_
  refine wpList_val hE109 203 rfl rfl fun K hK => ?_
  have e201 := hE109.get 201 rfl
  have e202 := hE109.get 202 rfl
  go_simp
  refine hK _ _ fun a111 hE111 => ?_
  clear hK K e201 e202
  clear hE109 a109
  refine wpList_nil ?_
  refine hK110 _ _ ?_
  clear hK110
  refine wp_seq_k fun K112 hK112 => ?_
  refine wp_if_f hE111 203 rfl ?_
  refine wp_exit ?_
  refine hK104 _ _ ?_
  clear hK104
  refine wp_seq_k fun K113 hK113 => ?_
  have hE114 := hE111.keep (l' := [(2, _), (3, _)]) ⟨hE111.get 2 rfl, hE111.get 3 rfl, trivial⟩
  clear hE111
  refine wp_region_lit ?_
  refine wpList_val hE114 213 rfl rfl fun K hK => ?_
  have e3 := hE114.get 3 rfl
  refine wp_load_blk 53 (.tmp 3) rfl (w.heap.size + 1 + 1) (hE114.ev 3 rfl) 53 _ _ ho5 Tryz.underlying53 rfl (by kernel_rfl) ?_
  refine hK _ _ fun a115 hE115 => ?_
  clear hK K e3
  clear hE114 a111
  refine wpList_none rfl fun K hK => ?_
  have e2 := hE115.get 2 rfl
  have e213 := hE115.get 213 rfl
  refine wp_store_blk 53 (.tmp 2) (.tmp 213) rfl (w.heap.size + 1) Pkt.zero.cells (Pkt.cells (⟨p.kind, p.sender, p.media, p.ntp, p.rtp, p.packets, p.octets, Sl.nil, p.ext, Sl.nil, p.sources, p.text, p.sub, p.data, ⟨A1, c1, p.pairs.l⟩, ⟨A2, c2, p.slices.l⟩, Sl.nil, p.bits, Sl.nil, p.time, p.base, p.count, p.ref, p.fb, Sl.nil, Sl.nil, p.hpad, p.hcount, p.htype, p.hlen⟩ : Pkt)) 53 (hE115.ev 2 rfl) (hE115.ev 213 rfl) hc5.rs rfl (by kernel_rfl) (pkt_one _) fun w9 hb9 hg9 hz9 => ?_
  refine hK undef _ ?_
  clear hK K e2 e213
  refine wpList_nil ?_
  refine hK113 _ _ ?_
  clear hK113
  refine wp_ret ?_
  have hne5 : ∀ g, (Value.slice A1 p.pairs.l.length c1).ownBlock = some g → g ≠ w.heap.size + 1 + 1 ∧ w.heap.size + 1 + 1 < g := fun g hg => by have := own4.lt g hg; omega
  have own4b := own_kept own4 hk5 (fun g hg => (hne5 g hg).1)
  have own4c := own4b.kept hg9 (.inr (fun e => by have := (hne5 _ e).2; omega))
  have own5c := own5.kept hg9 (.inr (fun e => by have := (own5.lt _ e).1; omega))
  refine bodyPost_ret (results_cell_row Tryz.results10 _ _ (w.heap.size + 1) 53 _ (0, 0) _ (by simp [hE115.get 2 rfl]) hb9 Tryz.underlying53 rfl (by kernel_rfl)) hE115.defers ⟨⟨A1, c1, p.pairs.l⟩, ⟨A2, c2, p.slices.l⟩, rfl, rfl, rfl, Reads.of_own own4c, Reads.of_own own5c, hc5.below.grown hg9 hc5.below.size (fun k hk => by injection hk; omega)⟩

end Go.Proofs.YtmmfpgoodfgkbaaGreat
