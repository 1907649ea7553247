/-
  PACKETS as they lie in memory: the numbers of a packet, and its slices read as lists; what lies within a slice, too. No condition.
-/
import Derived.Test.YtmmfpgoodfgkbaaGreatReports
namespace Go.Proofs.YtmmfpgoodfgkbaaGreat
open Go Go.RowKit
set_option linter.unusedVariables false

/-- A slice with what it reads as. -/
structure Sl (α : Type) where
  A : Option Addr
  c : Nat
  l : List α
def Sl.val {α : Type} (s : Sl α) : Value := .slice s.A (s.l.length : Nat) s.c
structure Item where
  ty : Int
  text : ByteArray
def Item.cells (x : Item) : List Value := [.int .u8 x.ty, .string x.text]
structure Chunk where
  src : Int
  items : Sl Item
def Chunk.cells (x : Chunk) : List Value := [.int .u32 x.src, x.items.val]
structure Pair where
  id : Int
  mask : Int
def Pair.cells (x : Pair) : List Value := [.int .u16 x.id, .int .u16 x.mask]
structure Slc where
  first : Int
  number : Int
  pic : Int
def Slc.cells (x : Slc) : List Value := [.int .u16 x.first, .int .u16 x.number, .int .u8 x.pic]
structure Ent where
  ssrc : Int
  n : Int
def Ent.cells (x : Ent) : List Value := [.int .u32 x.ssrc, .int .u8 x.n]
structure Met where
  rcv : Bool
  ecn : Int
  off : Int
def Met.cells (x : Met) : List Value := [.bool x.rcv, .int .u8 x.ecn, .int .u16 x.off]
structure Blo where
  media : Int
  first : Int
  mets : Sl Met
def Blo.cells (x : Blo) : List Value := [.int .u32 x.media, .int .u16 x.first, x.mets.val]
structure Sta where
  vec : Bool
  sym : Int
  size : Int
  run : Int
  list : Sl Int
def Sta.cells (x : Sta) : List Value := [.bool x.vec, .int .u16 x.sym, .int .u16 x.size, .int .u16 x.run, x.list.val]
structure Dlt where
  ty : Int
  d : Int
def Dlt.cells (x : Dlt) : List Value := [.int .u16 x.ty, .int .i64 x.d]
def u16c (x : Int) : List Value := [.int .u16 x]
def u32c (x : Int) : List Value := [.int .u32 x]
def u8c (x : Int) : List Value := [.int .u8 x]
theorem u8c_flat (l : List Int) : l.flatMap u8c = u8s l := by
  induction l with
  | nil => rfl
  | cons x l ih => rw [List.flatMap_cons, ih]; rfl

/-- A slice reads as its list. -/
def Sl.Lies {α : Type} (s : Sl α) (w : World) (B size : Nat) (f : α → List Value) : Prop := Reads w B size s.A s.l.length (s.l.flatMap f)
structure Pkt where
  kind : Int
  sender : Int
  media : Int
  ntp : Int
  rtp : Int
  packets : Int
  octets : Int
  reports : Sl Rep
  ext : Sl Int
  chunks : Sl Chunk
  sources : Sl Int
  text : ByteArray
  sub : Int
  data : Sl Int
  pairs : Sl Pair
  slices : Sl Slc
  entries : Sl Ent
  bits : Int
  blocks : Sl Blo
  time : Int
  base : Int
  count : Int
  ref : Int
  fb : Int
  stats : Sl Sta
  deltas : Sl Dlt
  hpad : Bool
  hcount : Int
  htype : Int
  hlen : Int
def Pkt.cells (p : Pkt) : Array Value := #[.int .i64 p.kind, .int .u32 p.sender, .int .u32 p.media, .int .u64 p.ntp, .int .u32 p.rtp, .int .u32 p.packets, .int .u32 p.octets, p.reports.val, p.ext.val, p.chunks.val, p.sources.val, .string p.text, .int .u8 p.sub, p.data.val, p.pairs.val, p.slices.val, p.entries.val, .int .u32 p.bits, p.blocks.val, .int .u32 p.time, .int .u16 p.base, .int .u16 p.count, .int .u32 p.ref, .int .u8 p.fb, p.stats.val, p.deltas.val, .bool p.hpad, .int .u8 p.hcount, .int .u8 p.htype, .int .u16 p.hlen]
def Pkt.val (p : Pkt) : Value := .agg p.cells
/-- All that a packet's slices reach reads as the lists say, below B. -/
structure Pkt.Lies (p : Pkt) (w : World) (B : Nat) : Prop where
  reports : p.reports.Lies w B 7 Rep.cells
  ext : p.ext.Lies w B 1 u8c
  chunks : p.chunks.Lies w B 2 Chunk.cells
  items : ∀ x ∈ p.chunks.l, x.items.Lies w B 2 Item.cells
  sources : p.sources.Lies w B 1 u32c
  data : p.data.Lies w B 1 u8c
  pairs : p.pairs.Lies w B 2 Pair.cells
  slices : p.slices.Lies w B 3 Slc.cells
  entries : p.entries.Lies w B 2 Ent.cells
  blocks : p.blocks.Lies w B 3 Blo.cells
  mets : ∀ x ∈ p.blocks.l, x.mets.Lies w B 3 Met.cells
  stats : p.stats.Lies w B 5 Sta.cells
  lists : ∀ x ∈ p.stats.l, x.list.Lies w B 1 u16c
  deltas : p.deltas.Lies w B 2 Dlt.cells
theorem Sl.Lies.below {α : Type} {s : Sl α} {w w' : World} {B size : Nat} {f : α → List Value} (h : s.Lies w B size f) (hb : Below B w w') : s.Lies w' B size f := Reads.below h hb
theorem Pkt.Lies.below {p : Pkt} {w w' : World} {B : Nat} (h : p.Lies w B) (hb : Below B w w') : p.Lies w' B :=
  ⟨h.reports.below hb, h.ext.below hb, h.chunks.below hb, fun x hx => (h.items x hx).below hb, h.sources.below hb, h.data.below hb, h.pairs.below hb, h.slices.below hb, h.entries.below hb, h.blocks.below hb, fun x hx => (h.mets x hx).below hb, h.stats.below hb, fun x hx => (h.lists x hx).below hb, h.deltas.below hb⟩
end Go.Proofs.YtmmfpgoodfgkbaaGreat
