/-
  BYTES: numbers written the highest byte first, onto a slice of the call's own and into a block that is known whole. Condition: the numbers fit their kinds.
-/
import Derived.Test.YtmmfpgoodfgkbaaGreatRows
import Derived.Test.YtmmfpgoodfgkbaaGreatKit
import Derived.Laws.BytesString
namespace Go.Proofs.YtmmfpgoodfgkbaaGreat
open Go Go.RowKit
set_option linter.unusedVariables false

/-- Bytes as cells. -/
def u8s (l : List Int) : List Value := l.map (Value.int .u8)
def be16 (x : Int) : List Int := [x / 256, x % 256]
def be32 (x : Int) : List Int := be16 (x / 65536) ++ be16 (x % 65536)
/-- A list of bytes. -/
def Byts (l : List Int) : Prop := ∀ x ∈ l, 0 ≤ x ∧ x < 256
theorem u8s_append (a b : List Int) : u8s (a ++ b) = u8s a ++ u8s b := by simp [u8s]
theorem u8s_len (a : List Int) : (u8s a).length = a.length := by simp [u8s]
theorem u8s_one (l : List Int) : ∀ u ∈ u8s l, u.oneCell' = true := one_int _ l
theorem u8s_at {l : List Int} {k : Nat} (h : k < l.length) : (u8s l)[k]? = some (.int .u8 l[k]) := by simp [u8s, h]

theorem elem8 : Elem Tryz.prog 25 5 (.int .u8 0) 1 1 := ⟨Tryz.underlying25, by kernel_rfl, rfl, by omega, by omega⟩

/-- What an append of bytes hands back: the bytes l in n places, owned from B on; of what was there the old row alone may have turned. -/
def Grew (w : World) (B : Nat) (b : Value) (n : Nat) (l : List Int) (e : Ending) (w' : World) : Prop :=
  ∃ g cap, e = .returned (.slice (some ⟨g, 0, none⟩) n cap) ∧ w'.ownsRow B 5 1 (.slice (some ⟨g, 0, none⟩) n cap) n (u8s l) ∧ w.grownBy w' b.ownBlock ∧ (b.ownBlock = some g ∨ w.heap.size ≤ g)

set_option maxHeartbeats 400000 in
theorem p16_any (B : Nat) (b : Value) (n : Nat) (l : List Int) (x : Int) (w : World) (hown : w.ownsRow B 5 1 b n (u8s l)) (hB : B ≤ w.heap.size) (hn : n ≤ 70368744177664) (h0 : 0 ≤ x) (h1 : x < 65536) :
    Calls Tryz.prog 76 #[b, .int .u16 x] w (Grew w B b (n + 2) (l ++ be16 x)) := by
  go_enter Tryz.func76, Tryz.ntmps76
  go_wp2_with (at_builtin; refine wpList_app_one _ rfl _ _ _ rfl elem8 B _ _ _ _ _ 2 _ hown (by simp) rfl rfl rfl (by omega) (by intro u hu; simp at hu; rcases hu with rfl | rfl <;> rfl) (by omega) hB ?_; intro g cap w1 hown1 hg1 hat1)
  go_ret
  exact ⟨g, cap, rfl, own_eq hown1 rfl (by rw [u8s_append]; rfl), hg1, hat1⟩

set_option maxHeartbeats 400000 in
theorem p32_any (B : Nat) (b : Value) (n : Nat) (l : List Int) (x : Int) (w : World) (hown : w.ownsRow B 5 1 b n (u8s l)) (hB : B ≤ w.heap.size) (hn : n ≤ 70368744177660) (h0 : 0 ≤ x) (h1 : x < 4294967296) :
    Calls Tryz.prog 73 #[b, .int .u32 x] w (Grew w B b (n + 4) (l ++ be32 x)) := by
  have hwr : IntKind.u16.wrap x = x % 65536 := IntKind.wrap_u16 x
  go_enter Tryz.func73, Tryz.ntmps73
  go_wp2_with fail
  refine (p16_any B b n l _ w hown hB (by omega) (by omega) (by omega)).mono ?_
  rintro e w1 ⟨g, cap, rfl, hown1, hg1, hat1⟩
  go_wp2_with fail
  refine (p16_any B _ (n + 2) _ _ w1 hown1 (Nat.le_trans hB hg1.size) (by omega) (by omega) (by omega)).mono ?_
  rintro e w2 ⟨g2, cap2, rfl, hown2, hg2, hat2⟩
  go_wp2_with fail
  go_ret
  refine ⟨g2, cap2, rfl, own_eq hown2 (by omega) (by rw [List.append_assoc]; rfl), ?_, ?_⟩
  · rcases hat1 with h | h
    · exact grownBy_trans hg1 hg2 (.inl h.symm)
    · exact grownBy_trans hg1 hg2 (.inr fun k hk => by simp [Value.ownBlock] at hk; omega)
  · have hz := hg1.size
    rcases hat2 with h | h
    · have : g = g2 := by simpa [Value.ownBlock] using h
      subst this; exact hat1
    · right; omega

/-- A block that is just these bytes. -/
def Buf (w : World) (g : Nat) (bs : List Int) : Prop := Blk w g 5 (u8s bs).toArray
/-- Bytes written over others. -/
def put (bs : List Int) (off : Nat) (xs : List Int) : List Int := bs.take off ++ xs ++ bs.drop (off + xs.length)
theorem put_nil (bs : List Int) (off : Nat) : put bs off [] = bs := by simp [put]
theorem put_cons (bs : List Int) (off : Nat) (x : Int) (xs : List Int) (h : off < bs.length) : put bs off (x :: xs) = put (bs.set off x) (off + 1) xs := by
  have e1 : (bs.set off x).take (off + 1) = bs.take off ++ [x] := by
    rw [List.take_succ_eq_append_getElem (by simpa using h)]
    simp [List.take_set_of_le]
  have e2 : (bs.set off x).drop (off + 1 + xs.length) = bs.drop (off + (x :: xs).length) := by
    rw [List.drop_set_of_lt (by omega)]
    congr 1
    simp; omega
  unfold put
  rw [e1, e2]
  simp
theorem put_len (bs : List Int) (off : Nat) (xs : List Int) (h : off + xs.length ≤ bs.length) : (put bs off xs).length = bs.length := by
  simp [put]; omega
theorem Buf.lt {w : World} {g : Nat} {bs : List Int} (h : Buf w g bs) : g < w.heap.size := Blk.lt h
theorem Buf.cell {w : World} {g : Nat} {bs : List Int} (h : Buf w g bs) {i : Nat} (hi : i < bs.length) : w.cell? ⟨g, i, none⟩ = some (.int .u8 bs[i]) := by
  rw [Blk.cell h i]; simp [u8s, hi]
theorem Buf.frozen {w : World} {g : Nat} {bs : List Int} (h : Buf w g bs) (i : Nat) : w.frozen? ⟨g, i, none⟩ = false := Blk.frozen h i
theorem Buf.set {w : World} {g : Nat} {bs : List Int} (h : Buf w g bs) (i : Nat) (x : Int) : Buf (w.setCell ⟨g, i, none⟩ (.int .u8 x)) g (bs.set i x) := by
  have := Blk.set_ h i (.int .u8 x)
  unfold Buf
  have e : (u8s (bs.set i x)).toArray = (u8s bs).toArray.setIfInBounds i (.int .u8 x) := by simp [u8s, List.map_set]
  rw [e]; exact this
theorem Buf.drew {w : World} {g : Nat} {bs : List Int} (h : Buf w g bs) : Buf w.drew g bs := h
theorem Buf.alloc {w : World} {g : Nat} {bs : List Int} (h : Buf w g bs) (o : Obj) : Buf (w.alloc o) g bs := Blk.alloc h o
theorem Buf.far {w : World} {g : Nat} {bs : List Int} (h : Buf w g bs) {p : Addr} (hp : g ≠ p.block) (u : Value) : Buf (w.setCell p u) g bs := Blk.far h hp u
theorem Buf.below {w w' : World} {B g : Nat} {bs : List Int} (h : Buf w g bs) (hb : Below B w w') (hg : g < B) : Buf w' g bs := Blk.below h hb hg
theorem Buf.grown {w w' : World} {g : Nat} {row : Option Nat} {bs : List Int} (h : Buf w g bs) (hb : w.grownBy w' row) (hg : some g ≠ row) : Buf w' g bs := Blk.grown h hb hg
theorem grownBy_set (w : World) (g i : Nat) (u : Value) : w.grownBy (w.setCell ⟨g, i, none⟩ u) (some g) := grownBy_setCell w ⟨g, i, none⟩ u
theorem size_set (w : World) (a : Addr) (u : Value) : (w.setCell a u).heap.size = w.heap.size := by simp [World.setCell]

theorem be32_eq (x : Int) (_h : 0 ≤ x) : be32 x = [x / 16777216, x / 65536 % 256, x / 256 % 256, x % 256] := by
  have e1 : x / 65536 / 256 = x / 16777216 := by omega
  have e2 : x % 65536 / 256 = x / 256 % 256 := by omega
  have e3 : x % 65536 % 256 = x % 256 := by omega
  show [x / 65536 / 256, x / 65536 % 256, x % 65536 / 256, x % 65536 % 256] = _
  rw [e1, e2, e3]
theorem be32_len (x : Int) : (be32 x).length = 4 := rfl
theorem be16_len (x : Int) : (be16 x).length = 2 := rfl
/-- What a write of bytes into a block leaves. -/
def PutIn (w : World) (g : Nat) (bs : List Int) (off : Nat) (xs : List Int) (e : Ending) (w' : World) : Prop :=
  e = .returned (.tuple #[]) ∧ Buf w' g (put bs off xs) ∧ w.grownBy w' (some g) ∧ w'.heap.size = w.heap.size

theorem conv_cells (w : World) (g off n c : Nat) (bs : List Int) (hn : bs.length = n) (h : ∀ i, i < n → w.cell? ⟨g, off + i, none⟩ = some (.int .u8 (bs.getD i 0))) :
    (convert 25 9 (.slice (some ⟨g, off, none⟩) n c)).run Tryz.prog w = .ok (.string (strOfNums bs)) w :=
  run_convert_bytes_arg w 25 5 Tryz.underlying25 Tryz.underlying5 g off n c bs hn h 9 Tryz.underlying9
theorem conv_buf {w : World} {g n c : Nat} {bs : List Int} (h : Buf w g bs) (hn : bs.length = n) : (convert 25 9 (.slice (some ⟨g, 0, none⟩) n c)).run Tryz.prog w = .ok (.string (strOfNums bs)) w :=
  conv_cells w g 0 n c bs hn fun i hi => by
    rw [Nat.zero_add, h.cell (by omega)]
    simp [List.getD, List.getElem?_eq_getElem (show i < bs.length by omega)]
theorem conv_own {w : World} {B g n cap : Nat} {bs : List Int} (h : w.ownsRow B 5 1 (.slice (some ⟨g, 0, none⟩) n cap) n (u8s bs)) (c : Nat) : (convert 25 9 (.slice (some ⟨g, 0, none⟩) n c)).run Tryz.prog w = .ok (.string (strOfNums bs)) w := by
  have hl : bs.length = n := by have := h.1; rw [u8s_len] at this; omega
  refine conv_cells w g 0 n c bs hl fun i hi => ?_
  rw [Nat.zero_add, h.cellAt i (by omega), u8s_at (by omega)]
  simp [List.getD, List.getElem?_eq_getElem (show i < bs.length by omega)]
end Go.Proofs.YtmmfpgoodfgkbaaGreat
/-
  REPORT BLOCKS: the package's way of writing one. Condition: the numbers fit their kinds, fewer than 2^24 packets are lost.
-/
namespace Go.Proofs.YtmmfpgoodfgkbaaGreat
open Go Go.RowKit
set_option linter.unusedVariables false

/-- A report block. -/
structure Rep where
  ssrc : Int
  frac : Int
  lost : Int
  seq : Int
  jit : Int
  last : Int
  dly : Int
structure Rep.Ok (r : Rep) : Prop where
  a0 : 0 ≤ r.ssrc
  a1 : r.ssrc < 4294967296
  b0 : 0 ≤ r.frac
  b1 : r.frac < 256
  c0 : 0 ≤ r.lost
  c1 : r.lost < 4294967296
  d0 : 0 ≤ r.seq
  d1 : r.seq < 4294967296
  e0 : 0 ≤ r.jit
  e1 : r.jit < 4294967296
  f0 : 0 ≤ r.last
  f1 : r.last < 4294967296
  g0 : 0 ≤ r.dly
  g1 : r.dly < 4294967296
def Rep.cells (r : Rep) : List Value := [.int .u32 r.ssrc, .int .u8 r.frac, .int .u32 r.lost, .int .u32 r.seq, .int .u32 r.jit, .int .u32 r.last, .int .u32 r.dly]
def Rep.bytes (r : Rep) : List Int := be32 r.ssrc ++ [r.frac, r.lost / 65536, r.lost / 256 % 256, r.lost % 256] ++ be32 r.seq ++ be32 r.jit ++ be32 r.last ++ be32 r.dly
theorem Rep.bytes_len (r : Rep) : r.bytes.length = 24 := rfl

/-- New bytes, all nought. -/
def zeros (n : Nat) : Array Value := (u8s (List.replicate n 0)).toArray
theorem zeros_size (n : Nat) : (zeros n).size = n := by simp [zeros, u8s]
theorem buf_zeros (w : World) (n : Nat) {B : Nat} (hB : w.heap.size = B) : Buf (w.alloc (.cells (zeros n) 5)) B (List.replicate n 0) := blk_new w _ _ hB

end Go.Proofs.YtmmfpgoodfgkbaaGreat
/-
  THE WALK of the thin package's turn of report blocks into the package's: the same numbers, in new memory. Condition: fewer than 2^40 blocks.
-/
namespace Go.Proofs.YtmmfpgoodfgkbaaGreat
open Go Go.RowKit
set_option linter.unusedVariables false

def repsC (l : List Rep) : List Value := l.flatMap Rep.cells
theorem rep_cells_len : ∀ (l : List Rep), ∀ x ∈ l, (Rep.cells x).length = 7 := fun _ _ _ => rfl
theorem elemRep : Elem Tryz.prog 152 221 (.agg #[.int .u32 0, .int .u8 0, .int .u32 0, .int .u32 0, .int .u32 0, .int .u32 0, .int .u32 0]) 7 28 := ⟨Tryz.underlying152, by kernel_rfl, rfl, by omega, by omega⟩

set_option maxHeartbeats 2000000 in
theorem reports_any (B : Nat) (A : Option Addr) (c : Nat) (l : List Rep) (w : World) (hr : Reads w B 7 A l.length (repsC l)) (hB : B ≤ w.heap.size) (hn : l.length ≤ 1099511627776) :
    Calls Tryz.prog 55 #[.slice A (l.length : Nat) c] w fun e w' =>
      ∃ v, e = .returned v ∧ w'.ownsRow w.heap.size 221 7 v l.length (repsC l) ∧ Below w.heap.size w w' := by
  go_enter Tryz.func55, Tryz.ntmps55
  go_wp2_with fail
  go_loopw [3, 8] (fun v i wr => ∃ k : Nat, k ≤ l.length ∧ i = .int .i64 k ∧ wr.ownsRow w.heap.size 221 7 v k (repsC (l.take k)) ∧ Below w.heap.size w wr)
    (fun _ i _ => l.length - (intOf i).toNat)
  case atStart => exact ⟨0, by omega, rfl, World.ownsRow_nil _ _ _ _, Below.refl _ _⟩
  case round =>
    obtain ⟨k, hk, rfl, hown, hb⟩ := hrel
    have hz := hb.size
    by_cases hlt : k < l.length
    · obtain ⟨b, off, rfl, hbB⟩ := hr.addr (by omega) (by omega)
      have hrw := (hr.more hB).below hb
      obtain ⟨r, hrk⟩ : ∃ r, r = l[k] := ⟨_, rfl⟩
      have e0 := hrw.at2 (rep_cells_len l) k 0 hlt (by omega) (v := .int .u32 r.ssrc) (by rw [hrk]; rfl)
      have e1 := hrw.at2 (rep_cells_len l) k 1 hlt (by omega) (v := .int .u8 r.frac) (by rw [hrk]; rfl)
      have e2 := hrw.at2 (rep_cells_len l) k 2 hlt (by omega) (v := .int .u32 r.lost) (by rw [hrk]; rfl)
      have e3 := hrw.at2 (rep_cells_len l) k 3 hlt (by omega) (v := .int .u32 r.seq) (by rw [hrk]; rfl)
      have e4 := hrw.at2 (rep_cells_len l) k 4 hlt (by omega) (v := .int .u32 r.jit) (by rw [hrk]; rfl)
      have e5 := hrw.at2 (rep_cells_len l) k 5 hlt (by omega) (v := .int .u32 r.last) (by rw [hrk]; rfl)
      have e6 := hrw.at2 (rep_cells_len l) k 6 hlt (by omega) (v := .int .u32 r.dly) (by rw [hrk]; rfl)
      simp only [Nat.add_zero] at e0
      have Hrk := Lib.hid hrk
      clear hrk
      obtain ⟨x0, x1, x2, x3, x4, x5, x6⟩ := r
      simp only at e0 e1 e2 e3 e4 e5 e6
      go_wp2_with (at_builtin; refine wpList_app_one _ rfl _ _ _ rfl elemRep w.heap.size _ _ _ _ _ 1 _ (hown.alloc _) (by simp) rfl rfl rfl (by omega) (by intro u hu; simp at hu; rcases hu with rfl | rfl | rfl | rfl | rfl | rfl | rfl <;> rfl) (by omega) (by simp; omega) ?_; intro g2 cap2 w3 hown3 hg3 hat3)
      have et : repsC (l.take (k + 1)) = repsC (l.take k) ++ (⟨x0, x1, x2, x3, x4, x5, x6⟩ : Rep).cells := by
        unfold repsC
        rw [flat_take_succ _ _ _ hlt, Hrk.out]
      exact ⟨⟨k + 1, by omega, by go_num, own_eq hown3 rfl (by rw [et]; rfl), (hb.alloc hz _).grown hg3 (by simp; omega) (fun g hg => (hown.lt g hg).1)⟩, by simp [intOf]; omega⟩
    · obtain rfl : k = l.length := by omega
      go_wp2_with fail
      go_ret
      exact ⟨_, rfl, own_eq hown rfl (by rw [List.take_length]), hb⟩
end Go.Proofs.YtmmfpgoodfgkbaaGreat
/-
  PACKETS as they lie in memory: the numbers of a packet, and its slices read as lists; what lies within a slice, too. No condition.
-/
namespace Go.Proofs.YtmmfpgoodfgkbaaGreat
open Go Go.RowKit
set_option linter.unusedVariables false

/-- A slice with what it reads as. -/
structure Sl (α : Type) where
  A : Option Addr
  c : Nat
  l : List α
def Sl.val {α : Type} (s : Sl α) : Value := .slice s.A (s.l.length : Nat) s.c
structure Item where
  ty : Int
  text : ByteArray
def Item.cells (x : Item) : List Value := [.int .u8 x.ty, .string x.text]
structure Chunk where
  src : Int
  items : Sl Item
def Chunk.cells (x : Chunk) : List Value := [.int .u32 x.src, x.items.val]
structure Pair where
  id : Int
  mask : Int
def Pair.cells (x : Pair) : List Value := [.int .u16 x.id, .int .u16 x.mask]
structure Slc where
  first : Int
  number : Int
  pic : Int
def Slc.cells (x : Slc) : List Value := [.int .u16 x.first, .int .u16 x.number, .int .u8 x.pic]
structure Ent where
  ssrc : Int
  n : Int
def Ent.cells (x : Ent) : List Value := [.int .u32 x.ssrc, .int .u8 x.n]
structure Met where
  rcv : Bool
  ecn : Int
  off : Int
def Met.cells (x : Met) : List Value := [.bool x.rcv, .int .u8 x.ecn, .int .u16 x.off]
structure Blo where
  media : Int
  first : Int
  mets : Sl Met
def Blo.cells (x : Blo) : List Value := [.int .u32 x.media, .int .u16 x.first, x.mets.val]
structure Sta where
  vec : Bool
  sym : Int
  size : Int
  run : Int
  list : Sl Int
def Sta.cells (x : Sta) : List Value := [.bool x.vec, .int .u16 x.sym, .int .u16 x.size, .int .u16 x.run, x.list.val]
structure Dlt where
  ty : Int
  d : Int
def Dlt.cells (x : Dlt) : List Value := [.int .u16 x.ty, .int .i64 x.d]
def u16c (x : Int) : List Value := [.int .u16 x]
def u32c (x : Int) : List Value := [.int .u32 x]
def u8c (x : Int) : List Value := [.int .u8 x]
theorem u8c_flat (l : List Int) : l.flatMap u8c = u8s l := by
  induction l with
  | nil => rfl
  | cons x l ih => rw [List.flatMap_cons, ih]; rfl

/-- A slice reads as its list. -/
def Sl.Lies {α : Type} (s : Sl α) (w : World) (B size : Nat) (f : α → List Value) : Prop := Reads w B size s.A s.l.length (s.l.flatMap f)
structure Pkt where
  kind : Int
  sender : Int
  media : Int
  ntp : Int
  rtp : Int
  packets : Int
  octets : Int
  reports : Sl Rep
  ext : Sl Int
  chunks : Sl Chunk
  sources : Sl Int
  text : ByteArray
  sub : Int
  data : Sl Int
  pairs : Sl Pair
  slices : Sl Slc
  entries : Sl Ent
  bits : Int
  blocks : Sl Blo
  time : Int
  base : Int
  count : Int
  ref : Int
  fb : Int
  stats : Sl Sta
  deltas : Sl Dlt
  hpad : Bool
  hcount : Int
  htype : Int
  hlen : Int
def Pkt.cells (p : Pkt) : Array Value := #[.int .i64 p.kind, .int .u32 p.sender, .int .u32 p.media, .int .u64 p.ntp, .int .u32 p.rtp, .int .u32 p.packets, .int .u32 p.octets, p.reports.val, p.ext.val, p.chunks.val, p.sources.val, .string p.text, .int .u8 p.sub, p.data.val, p.pairs.val, p.slices.val, p.entries.val, .int .u32 p.bits, p.blocks.val, .int .u32 p.time, .int .u16 p.base, .int .u16 p.count, .int .u32 p.ref, .int .u8 p.fb, p.stats.val, p.deltas.val, .bool p.hpad, .int .u8 p.hcount, .int .u8 p.htype, .int .u16 p.hlen]
def Pkt.val (p : Pkt) : Value := .agg p.cells
/-- All that a packet's slices reach reads as the lists say, below B. -/
structure Pkt.Lies (p : Pkt) (w : World) (B : Nat) : Prop where
  reports : p.reports.Lies w B 7 Rep.cells
  ext : p.ext.Lies w B 1 u8c
  chunks : p.chunks.Lies w B 2 Chunk.cells
  items : ∀ x ∈ p.chunks.l, x.items.Lies w B 2 Item.cells
  sources : p.sources.Lies w B 1 u32c
  data : p.data.Lies w B 1 u8c
  pairs : p.pairs.Lies w B 2 Pair.cells
  slices : p.slices.Lies w B 3 Slc.cells
  entries : p.entries.Lies w B 2 Ent.cells
  blocks : p.blocks.Lies w B 3 Blo.cells
  mets : ∀ x ∈ p.blocks.l, x.mets.Lies w B 3 Met.cells
  stats : p.stats.Lies w B 5 Sta.cells
  lists : ∀ x ∈ p.stats.l, x.list.Lies w B 1 u16c
  deltas : p.deltas.Lies w B 2 Dlt.cells
theorem Sl.Lies.below {α : Type} {s : Sl α} {w w' : World} {B size : Nat} {f : α → List Value} (h : s.Lies w B size f) (hb : Below B w w') : s.Lies w' B size f := Reads.below h hb
theorem Pkt.Lies.below {p : Pkt} {w w' : World} {B : Nat} (h : p.Lies w B) (hb : Below B w w') : p.Lies w' B :=
  ⟨h.reports.below hb, h.ext.below hb, h.chunks.below hb, fun x hx => (h.items x hx).below hb, h.sources.below hb, h.data.below hb, h.pairs.below hb, h.slices.below hb, h.entries.below hb, h.blocks.below hb, fun x hx => (h.mets x hx).below hb, h.stats.below hb, fun x hx => (h.lists x hx).below hb, h.deltas.below hb⟩
end Go.Proofs.YtmmfpgoodfgkbaaGreat
/-
  LISTS OF LISTS without their addresses. No condition.
-/
namespace Go.Proofs.YtmmfpgoodfgkbaaGreat
open Go Go.RowKit

def Chunk.bare (x : Chunk) : Int × List Item := (x.src, x.items.l)
def Blo.bare (x : Blo) : Int × Int × List Met := (x.media, x.first, x.mets.l)
end Go.Proofs.YtmmfpgoodfgkbaaGreat
/-
  THE TEXT OF SOME BYTES. No condition.
-/
namespace Go.Proofs.YtmmfpgoodfgkbaaGreat
open Go Go.RowKit

/-- The text of some bytes. -/
def strB (bs : List Int) : ByteArray := bs.foldl (fun r n => r.push (UInt8.ofNat n.toNat)) ByteArray.empty
theorem conv_str {w : World} {B c : Nat} {A : Option Addr} {bs : List Int} (h : Reads w B 1 A bs.length (u8s bs)) : (convert 25 9 (.slice A bs.length c)).run Tryz.prog w = .ok (.string (strB bs)) w := by
  rw [run_convert_bytes_string w _ _ 5 A _ _ Tryz.underlying25 Tryz.underlying5 Tryz.underlying9]
  cases A with
  | none =>
    have hn : bs = [] := by
      apply List.eq_nil_of_length_eq_zero
      apply Classical.byContradiction
      intro hn
      obtain ⟨ad, e, _⟩ := h.2 (by omega)
      cases e
    subst hn
    rfl
  | some a =>
    refine run_bytesToString w a _ _ bs ?_
    by_cases hn : 0 < bs.length
    · obtain ⟨ad, e, _, hc⟩ := h.2 hn
      injection e with e
      subst e
      have := run_loadCells_list (P := Tryz.prog) w a (bs.map (Value.int .u8)) hc
      rwa [List.length_map] at this
    · have hz : bs = [] := List.eq_nil_of_length_eq_zero (by omega)
      subst hz
      exact run_loadCells_list (P := Tryz.prog) w a [] (fun j v hj => by simp at hj)
end Go.Proofs.YtmmfpgoodfgkbaaGreat
