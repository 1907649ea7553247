/-
  BYTES: numbers written the highest byte first, onto a slice of the call's own and into a block that is known whole. Condition: the numbers fit their kinds.
-/
import Derived.Test.YtmmfpgoodfgkbaaGreatRows
import Derived.Test.YtmmfpgoodfgkbaaGreatKit
namespace Go.Proofs.YtmmfpgoodfgkbaaGreat
open Go Go.RowKit
set_option linter.unusedVariables false

/-- Bytes as cells. -/
def u8s (l : List Int) : List Value := l.map (Value.int .u8)
def be16 (x : Int) : List Int := [x / 256, x % 256]
def be32 (x : Int) : List Int := be16 (x / 65536) ++ be16 (x % 65536)
theorem u8s_append (a b : List Int) : u8s (a ++ b) = u8s a ++ u8s b := by simp [u8s]
theorem u8s_len (a : List Int) : (u8s a).length = a.length := by simp [u8s]
theorem u8s_one (l : List Int) : ∀ u ∈ u8s l, u.oneCell' = true := one_int _ l
theorem u8s_at {l : List Int} {k : Nat} (h : k < l.length) : (u8s l)[k]? = some (.int .u8 l[k]) := by simp [u8s, h]

theorem elem8 : Elem Tryz.prog 25 5 (.int .u8 0) 1 1 := ⟨Tryz.underlying25, by kernel_rfl, rfl, by omega, by omega⟩

/-- What an append of bytes hands back: the bytes l in n places, owned from B on; of what was there the old row alone may have turned. -/
def Grew (w : World) (B : Nat) (b : Value) (n : Nat) (l : List Int) (e : Ending) (w' : World) : Prop :=
  ∃ g cap, e = .returned (.slice (some ⟨g, 0, none⟩) n cap) ∧ w'.ownsRow B 5 1 (.slice (some ⟨g, 0, none⟩) n cap) n (u8s l) ∧ w.grownBy w' b.ownBlock ∧ (b.ownBlock = some g ∨ w.heap.size ≤ g)

set_option maxHeartbeats 400000 in
theorem p16_any (B : Nat) (b : Value) (n : Nat) (l : List Int) (x : Int) (w : World) (hown : w.ownsRow B 5 1 b n (u8s l)) (hB : B ≤ w.heap.size) (hn : n ≤ 70368744177664) (h0 : 0 ≤ x) (h1 : x < 65536) :
    Calls Tryz.prog 76 #[b, .int .u16 x] w (Grew w B b (n + 2) (l ++ be16 x)) := by
  go_enter Tryz.func76, Tryz.ntmps76
  go_wp2_with (at_builtin; refine wpList_app_one _ rfl _ _ _ rfl elem8 B _ _ _ _ _ 2 _ hown (by simp) rfl rfl rfl (by omega) (by intro u hu; simp at hu; rcases hu with rfl | rfl <;> rfl) (by omega) hB ?_; intro g cap w1 hown1 hg1 hat1)
  go_ret
  exact ⟨g, cap, rfl, own_eq hown1 rfl (by rw [u8s_append]; rfl), hg1, hat1⟩

set_option maxHeartbeats 400000 in
theorem p32_any (B : Nat) (b : Value) (n : Nat) (l : List Int) (x : Int) (w : World) (hown : w.ownsRow B 5 1 b n (u8s l)) (hB : B ≤ w.heap.size) (hn : n ≤ 70368744177660) (h0 : 0 ≤ x) (h1 : x < 4294967296) :
    Calls Tryz.prog 73 #[b, .int .u32 x] w (Grew w B b (n + 4) (l ++ be32 x)) := by
  have hwr : IntKind.u16.wrap x = x % 65536 := IntKind.wrap_u16 x
  go_enter Tryz.func73, Tryz.ntmps73
  go_wp2_with fail
  refine (p16_any B b n l _ w hown hB (by omega) (by omega) (by omega)).mono ?_
  rintro e w1 ⟨g, cap, rfl, hown1, hg1, hat1⟩
  go_wp2_with fail
  refine (p16_any B _ (n + 2) _ _ w1 hown1 (Nat.le_trans hB hg1.size) (by omega) (by omega) (by omega)).mono ?_
  rintro e w2 ⟨g2, cap2, rfl, hown2, hg2, hat2⟩
  go_wp2_with fail
  go_ret
  refine ⟨g2, cap2, rfl, own_eq hown2 (by omega) (by rw [List.append_assoc]; rfl), ?_, ?_⟩
  · rcases hat1 with h | h
    · exact grownBy_trans hg1 hg2 (.inl h.symm)
    · exact grownBy_trans hg1 hg2 (.inr fun k hk => by simp [Value.ownBlock] at hk; omega)
  · have hz := hg1.size
    rcases hat2 with h | h
    · have : g = g2 := by simpa [Value.ownBlock] using h
      subst this; exact hat1
    · right; omega

/-- A block that is just these bytes. -/
def Buf (w : World) (g : Nat) (bs : List Int) : Prop := Blk w g 5 (u8s bs).toArray
/-- Bytes written over others. -/
def put (bs : List Int) (off : Nat) (xs : List Int) : List Int := bs.take off ++ xs ++ bs.drop (off + xs.length)
theorem put_nil (bs : List Int) (off : Nat) : put bs off [] = bs := by simp [put]
theorem put_cons (bs : List Int) (off : Nat) (x : Int) (xs : List Int) (h : off < bs.length) : put bs off (x :: xs) = put (bs.set off x) (off + 1) xs := by
  have e1 : (bs.set off x).take (off + 1) = bs.take off ++ [x] := by
    rw [List.take_succ_eq_append_getElem (by simpa using h)]
    simp [List.take_set_of_le]
  have e2 : (bs.set off x).drop (off + 1 + xs.length) = bs.drop (off + (x :: xs).length) := by
    rw [List.drop_set_of_lt (by omega)]
    congr 1
    simp; omega
  unfold put
  rw [e1, e2]
  simp
theorem put_len (bs : List Int) (off : Nat) (xs : List Int) (h : off + xs.length ≤ bs.length) : (put bs off xs).length = bs.length := by
  simp [put]; omega
theorem Buf.lt {w : World} {g : Nat} {bs : List Int} (h : Buf w g bs) : g < w.heap.size := Blk.lt h
theorem Buf.cell {w : World} {g : Nat} {bs : List Int} (h : Buf w g bs) {i : Nat} (hi : i < bs.length) : w.cell? ⟨g, i, none⟩ = some (.int .u8 bs[i]) := by
  rw [Blk.cell h i]; simp [u8s, hi]
theorem Buf.frozen {w : World} {g : Nat} {bs : List Int} (h : Buf w g bs) (i : Nat) : w.frozen? ⟨g, i, none⟩ = false := Blk.frozen h i
theorem Buf.set {w : World} {g : Nat} {bs : List Int} (h : Buf w g bs) (i : Nat) (x : Int) : Buf (w.setCell ⟨g, i, none⟩ (.int .u8 x)) g (bs.set i x) := by
  have := Blk.set_ h i (.int .u8 x)
  unfold Buf
  have e : (u8s (bs.set i x)).toArray = (u8s bs).toArray.setIfInBounds i (.int .u8 x) := by simp [u8s, List.map_set]
  rw [e]; exact this
theorem Buf.drew {w : World} {g : Nat} {bs : List Int} (h : Buf w g bs) : Buf w.drew g bs := h
theorem Buf.alloc {w : World} {g : Nat} {bs : List Int} (h : Buf w g bs) (o : Obj) : Buf (w.alloc o) g bs := Blk.alloc h o
theorem Buf.far {w : World} {g : Nat} {bs : List Int} (h : Buf w g bs) {p : Addr} (hp : g ≠ p.block) (u : Value) : Buf (w.setCell p u) g bs := Blk.far h hp u
theorem Buf.below {w w' : World} {B g : Nat} {bs : List Int} (h : Buf w g bs) (hb : Below B w w') (hg : g < B) : Buf w' g bs := Blk.below h hb hg
theorem Buf.grown {w w' : World} {g : Nat} {row : Option Nat} {bs : List Int} (h : Buf w g bs) (hb : w.grownBy w' row) (hg : some g ≠ row) : Buf w' g bs := Blk.grown h hb hg
theorem grownBy_set (w : World) (g i : Nat) (u : Value) : w.grownBy (w.setCell ⟨g, i, none⟩ u) (some g) := grownBy_setCell w ⟨g, i, none⟩ u
theorem size_set (w : World) (a : Addr) (u : Value) : (w.setCell a u).heap.size = w.heap.size := by simp [World.setCell]

theorem be32_eq (x : Int) (_h : 0 ≤ x) : be32 x = [x / 16777216, x / 65536 % 256, x / 256 % 256, x % 256] := by
  have e1 : x / 65536 / 256 = x / 16777216 := by omega
  have e2 : x % 65536 / 256 = x / 256 % 256 := by omega
  have e3 : x % 65536 % 256 = x % 256 := by omega
  show [x / 65536 / 256, x / 65536 % 256, x % 65536 / 256, x % 65536 % 256] = _
  rw [e1, e2, e3]
theorem be32_len (x : Int) : (be32 x).length = 4 := rfl
theorem be16_len (x : Int) : (be16 x).length = 2 := rfl
/-- What a write of bytes into a block leaves. -/
def PutIn (w : World) (g : Nat) (bs : List Int) (off : Nat) (xs : List Int) (e : Ending) (w' : World) : Prop :=
  e = .returned (.tuple #[]) ∧ Buf w' g (put bs off xs) ∧ w.grownBy w' (some g) ∧ w'.heap.size = w.heap.size

set_option maxHeartbeats 1000000 in
theorem put32_any (g off len cap : Nat) (bs : List Int) (x : Int) (w : World) (hb : Buf w g bs) (hl : 4 ≤ len) (ho : off + 4 ≤ bs.length) (h0 : 0 ≤ x) (h1 : x < 4294967296) :
    Calls Tryz.prog 102 #[.slice (some ⟨g, off, none⟩) len cap, .int .u32 x] w (PutIn w g bs off (be32 x)) := by
  have c0 := hb.cell (i := off) (by omega)
  have c1 := hb.cell (i := off + 1) (by omega)
  have c2 := hb.cell (i := off + 2) (by omega)
  have c3 := hb.cell (i := off + 3) (by omega)
  have f0 := hb.frozen off
  have f1 := hb.frozen (off + 1)
  have f2 := hb.frozen (off + 2)
  have f3 := hb.frozen (off + 3)
  have hl' : (3 : Int) < (len : Int) := by omega
  go_enter Tryz.func102, Tryz.ntmps102
  go_wp2
  go_end0
  refine ⟨rfl, ?_, ?_, by simp only [size_set]⟩
  · rw [be32_eq x h0]
    rw [put_cons _ _ _ _ (by omega), put_cons _ _ _ _ (by simp; omega), put_cons _ _ _ _ (by simp; omega), put_cons _ _ _ _ (by simp; omega), put_nil]
    exact (((hb.set off _).set (off + 1) _).set (off + 2) _).set (off + 3) _
  · exact grownBy_trans (grownBy_trans (grownBy_trans (grownBy_set _ _ _ _) (grownBy_set _ _ _ _) (.inl rfl)) (grownBy_set _ _ _ _) (.inl rfl)) (grownBy_set _ _ _ _) (.inl rfl)

/-- Bytes that lie in memory, read as a text. -/
theorem conv_cells (w : World) (g off n c : Nat) (bs : List Int) (hn : bs.length = n) (h : ∀ i, i < n → w.cell? ⟨g, off + i, none⟩ = some (.int .u8 (bs.getD i 0))) :
    (convert 25 9 (.slice (some ⟨g, off, none⟩) n c)).run Tryz.prog w = .ok (.string (strOfNums bs)) w :=
  run_convert_bytes_arg w 25 5 Tryz.underlying25 Tryz.underlying5 g off n c bs hn h 9 Tryz.underlying9
theorem conv_buf {w : World} {g n c : Nat} {bs : List Int} (h : Buf w g bs) (hn : bs.length = n) : (convert 25 9 (.slice (some ⟨g, 0, none⟩) n c)).run Tryz.prog w = .ok (.string (strOfNums bs)) w :=
  conv_cells w g 0 n c bs hn fun i hi => by
    rw [Nat.zero_add, h.cell (by omega)]
    simp [List.getD, List.getElem?_eq_getElem (show i < bs.length by omega)]
theorem conv_own {w : World} {B g n cap : Nat} {bs : List Int} (h : w.ownsRow B 5 1 (.slice (some ⟨g, 0, none⟩) n cap) n (u8s bs)) (c : Nat) : (convert 25 9 (.slice (some ⟨g, 0, none⟩) n c)).run Tryz.prog w = .ok (.string (strOfNums bs)) w := by
  have hl : bs.length = n := by have := h.1; rw [u8s_len] at this; omega
  refine conv_cells w g 0 n c bs hl fun i hi => ?_
  rw [Nat.zero_add, h.cellAt i (by omega), u8s_at (by omega)]
  simp [List.getD, List.getElem?_eq_getElem (show i < bs.length by omega)]
end Go.Proofs.YtmmfpgoodfgkbaaGreat
