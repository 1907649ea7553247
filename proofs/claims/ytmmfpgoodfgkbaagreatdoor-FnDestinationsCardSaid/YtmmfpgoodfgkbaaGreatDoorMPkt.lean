/-
  BYTES: numbers written the highest byte first, onto a slice of the call's own and into a block that is known whole. Condition: the numbers fit their kinds.
-/
import Derived.Test.YtmmfpgoodfgkbaaGreatDoorRows
import Derived.Test.YtmmfpgoodfgkbaaGreatDoorKit
import Derived.Laws.BytesString
namespace Go.Proofs.YtmmfpgoodfgkbaaGreatDoor
open Go Go.RowKit
set_option linter.unusedVariables false

def u8s (l : List Int) : List Value := l.map (Value.int .u8)
def be16 (x : Int) : List Int := [x / 256, x % 256]
def be32 (x : Int) : List Int := be16 (x / 65536) ++ be16 (x % 65536)
def Byts (l : List Int) : Prop := ∀ x ∈ l, 0 ≤ x ∧ x < 256
theorem u8s_len (a : List Int) : (u8s a).length = a.length := by simp [u8s]
theorem u8s_one (l : List Int) : ∀ u ∈ u8s l, u.oneCell' = true := one_int _ l
theorem u8s_at {l : List Int} {k : Nat} (h : k < l.length) : (u8s l)[k]? = some (.int .u8 l[k]) := by simp [u8s, h]

theorem elem8 : Elem Tryz.prog 25 5 (.int .u8 0) 1 1 := ⟨Tryz.underlying25, by kernel_rfl, rfl, by omega, by omega⟩

def Buf (w : World) (g : Nat) (bs : List Int) : Prop := Blk w g 5 (u8s bs).toArray
def put (bs : List Int) (off : Nat) (xs : List Int) : List Int := bs.take off ++ xs ++ bs.drop (off + xs.length)
theorem Buf.lt {w : World} {g : Nat} {bs : List Int} (h : Buf w g bs) : g < w.heap.size := Blk.lt h
theorem Buf.cell {w : World} {g : Nat} {bs : List Int} (h : Buf w g bs) {i : Nat} (hi : i < bs.length) : w.cell? ⟨g, i, none⟩ = some (.int .u8 bs[i]) := by
 rw [Blk.cell h i]; simp [u8s, hi]
theorem Buf.frozen {w : World} {g : Nat} {bs : List Int} (h : Buf w g bs) (i : Nat) : w.frozen? ⟨g, i, none⟩ = false := Blk.frozen h i
theorem Buf.drew {w : World} {g : Nat} {bs : List Int} (h : Buf w g bs) : Buf w.drew g bs := h
theorem Buf.alloc {w : World} {g : Nat} {bs : List Int} (h : Buf w g bs) (o : Obj) : Buf (w.alloc o) g bs := Blk.alloc h o
theorem Buf.below {w w' : World} {B g : Nat} {bs : List Int} (h : Buf w g bs) (hb : Below B w w') (hg : g < B) : Buf w' g bs := Blk.below h hb hg
theorem Buf.grown {w w' : World} {g : Nat} {row : Option Nat} {bs : List Int} (h : Buf w g bs) (hb : w.grownBy w' row) (hg : some g ≠ row) : Buf w' g bs := Blk.grown h hb hg
end Go.Proofs.YtmmfpgoodfgkbaaGreatDoor
namespace Go.Proofs.YtmmfpgoodfgkbaaGreatDoor
open Go Go.RowKit

def strB (bs : List Int) : ByteArray := bs.foldl (fun r n => r.push (UInt8.ofNat n.toNat)) ByteArray.empty
theorem conv_str {w : World} {B c : Nat} {A : Option Addr} {bs : List Int} (h : Reads w B 1 A bs.length (u8s bs)) : (convert 25 9 (.slice A bs.length c)).run Tryz.prog w = .ok (.string (strB bs)) w := by
 rw [run_convert_bytes_string w _ _ 5 A _ _ Tryz.underlying25 Tryz.underlying5 Tryz.underlying9]
 cases A with
 | none =>
  have hn : bs = [] := by
   apply List.eq_nil_of_length_eq_zero
   apply Classical.byContradiction
   intro hn
   obtain ⟨ad, e, _⟩ := h.2 (by omega)
   cases e
  subst hn
  rfl
 | some a =>
  refine run_bytesToString w a _ _ bs ?_
  by_cases hn : 0 < bs.length
  ·obtain ⟨ad, e, _, hc⟩ := h.2 hn
   injection e with e
   subst e
   have := run_loadCells_list (P := Tryz.prog) w a (bs.map (Value.int .u8)) hc
   rwa [List.length_map] at this
  ·have hz : bs = [] := List.eq_nil_of_length_eq_zero (by omega)
   subst hz
   exact run_loadCells_list (P := Tryz.prog) w a [] (fun j v hj => by simp at hj)
end Go.Proofs.YtmmfpgoodfgkbaaGreatDoor
namespace Go.Proofs.YtmmfpgoodfgkbaaGreatDoor
open Go Go.RowKit
set_option linter.unusedVariables false

structure Rep where
 ssrc : Int
 frac : Int
 lost : Int
 seq : Int
 jit : Int
 last : Int
 dly : Int
def Rep.cells (r : Rep) : List Value := [.int .u32 r.ssrc, .int .u8 r.frac, .int .u32 r.lost, .int .u32 r.seq, .int .u32 r.jit, .int .u32 r.last, .int .u32 r.dly]
def Rep.bytes (r : Rep) : List Int := be32 r.ssrc ++ [r.frac, r.lost / 65536, r.lost / 256 % 256, r.lost % 256] ++ be32 r.seq ++ be32 r.jit ++ be32 r.last ++ be32 r.dly
end Go.Proofs.YtmmfpgoodfgkbaaGreatDoor
namespace Go.Proofs.YtmmfpgoodfgkbaaGreatDoor
open Go Go.RowKit
set_option maxHeartbeats 4000000
set_option maxRecDepth 100000
set_option linter.unusedVariables false

def repsC (l : List Rep) : List Value := l.flatMap Rep.cells
theorem rep_cells_len : ∀ (l : List Rep), ∀ x ∈ l, (Rep.cells x).length = 7 := fun _ _ _ => rfl
theorem elemRep : Elem Tryz.prog 159 221 (.agg #[.int .u32 0, .int .u8 0, .int .u32 0, .int .u32 0, .int .u32 0, .int .u32 0, .int .u32 0]) 7 28 := ⟨Tryz.underlying159, by kernel_rfl, rfl, by omega, by omega⟩

theorem reports_any (B : Nat) (A : Option Addr) (c : Nat) (l : List Rep) (w : World) (hr : Reads w B 7 A l.length (repsC l)) (hB : B ≤ w.heap.size) (hn : l.length ≤ 1099511627776) :
  Calls Tryz.prog 57 #[.slice A (l.length : Nat) c] w fun e w' =>
   ∃ v, e = .returned v ∧ w'.ownsRow w.heap.size 221 7 v l.length (repsC l) ∧ Below w.heap.size w w' := by
 go_enter Tryz.func57, Tryz.ntmps57
 go_wp2_with fail
 go_loopw [3, 8] (fun v i wr => ∃ k : Nat, k ≤ l.length ∧ i = .int .i64 k ∧ wr.ownsRow w.heap.size 221 7 v k (repsC (l.take k)) ∧ Below w.heap.size w wr)
  (fun _ i _ => l.length - (intOf i).toNat)
 case atStart => exact ⟨0, by omega, rfl, World.ownsRow_nil _ _ _ _, Below.refl _ _⟩
 case round =>
  obtain ⟨k, hk, rfl, hown, hb⟩ := hrel
  have hz := hb.size
  by_cases hlt : k < l.length
  ·obtain ⟨b, off, rfl, hbB⟩ := hr.addr (by omega) (by omega)
   have hrw := (hr.more hB).below hb
   obtain ⟨r, hrk⟩ : ∃ r, r = l[k] := ⟨_, rfl⟩
   have e0 := hrw.at2 (rep_cells_len l) k 0 hlt (by omega) (v := .int .u32 r.ssrc) (by rw [hrk]; rfl)
   have e1 := hrw.at2 (rep_cells_len l) k 1 hlt (by omega) (v := .int .u8 r.frac) (by rw [hrk]; rfl)
   have e2 := hrw.at2 (rep_cells_len l) k 2 hlt (by omega) (v := .int .u32 r.lost) (by rw [hrk]; rfl)
   have e3 := hrw.at2 (rep_cells_len l) k 3 hlt (by omega) (v := .int .u32 r.seq) (by rw [hrk]; rfl)
   have e4 := hrw.at2 (rep_cells_len l) k 4 hlt (by omega) (v := .int .u32 r.jit) (by rw [hrk]; rfl)
   have e5 := hrw.at2 (rep_cells_len l) k 5 hlt (by omega) (v := .int .u32 r.last) (by rw [hrk]; rfl)
   have e6 := hrw.at2 (rep_cells_len l) k 6 hlt (by omega) (v := .int .u32 r.dly) (by rw [hrk]; rfl)
   simp only [Nat.add_zero] at e0
   have Hrk := Lib.hid hrk
   clear hrk
   obtain ⟨x0, x1, x2, x3, x4, x5, x6⟩ := r
   simp only at e0 e1 e2 e3 e4 e5 e6
   go_wp2_with (at_builtin; refine wpList_app_one _ rfl _ _ _ rfl elemRep w.heap.size _ _ _ _ _ 1 _ (hown.alloc _) (by simp) rfl rfl rfl (by omega) (by intro u hu; simp at hu; rcases hu with rfl | rfl | rfl | rfl | rfl | rfl | rfl <;> rfl) (by omega) (by simp; omega) ?_; intro g2 cap2 w3 hown3 hg3 hat3)
   have et : repsC (l.take (k + 1)) = repsC (l.take k) ++ (⟨x0, x1, x2, x3, x4, x5, x6⟩ : Rep).cells := by
    unfold repsC
    rw [flat_take_succ _ _ _ hlt, Hrk.out]
   exact ⟨⟨k + 1, by omega, by go_num, own_eq hown3 rfl (by rw [et]; rfl), (hb.alloc hz _).grown hg3 (by simp; omega) (fun g hg => (hown.lt g hg).1)⟩, by simp [intOf]; omega⟩
  ·obtain rfl : k = l.length := by omega
   go_wp2_with fail
   go_ret
   exact ⟨_, rfl, own_eq hown rfl (by rw [List.take_length]), hb⟩
end Go.Proofs.YtmmfpgoodfgkbaaGreatDoor
namespace Go.Proofs.YtmmfpgoodfgkbaaGreatDoor
open Go Go.RowKit
set_option linter.unusedVariables false

structure Sl (α : Type) where
 A : Option Addr
 c : Nat
 l : List α
def Sl.val {α : Type} (s : Sl α) : Value := .slice s.A (s.l.length : Nat) s.c
structure Item where
 ty : Int
 text : ByteArray
def Item.cells (x : Item) : List Value := [.int .u8 x.ty, .string x.text]
structure Chunk where
 src : Int
 items : Sl Item
def Chunk.cells (x : Chunk) : List Value := [.int .u32 x.src, x.items.val]
structure Pair where
 id : Int
 mask : Int
def Pair.cells (x : Pair) : List Value := [.int .u16 x.id, .int .u16 x.mask]
structure Slc where
 first : Int
 number : Int
 pic : Int
def Slc.cells (x : Slc) : List Value := [.int .u16 x.first, .int .u16 x.number, .int .u8 x.pic]
structure Ent where
 ssrc : Int
 n : Int
def Ent.cells (x : Ent) : List Value := [.int .u32 x.ssrc, .int .u8 x.n]
structure Met where
 rcv : Bool
 ecn : Int
 off : Int
def Met.cells (x : Met) : List Value := [.bool x.rcv, .int .u8 x.ecn, .int .u16 x.off]
structure Blo where
 media : Int
 first : Int
 mets : Sl Met
def Blo.cells (x : Blo) : List Value := [.int .u32 x.media, .int .u16 x.first, x.mets.val]
structure Sta where
 vec : Bool
 sym : Int
 size : Int
 run : Int
 list : Sl Int
def Sta.cells (x : Sta) : List Value := [.bool x.vec, .int .u16 x.sym, .int .u16 x.size, .int .u16 x.run, x.list.val]
structure Dlt where
 ty : Int
 d : Int
def Dlt.cells (x : Dlt) : List Value := [.int .u16 x.ty, .int .i64 x.d]
def u16c (x : Int) : List Value := [.int .u16 x]
def u32c (x : Int) : List Value := [.int .u32 x]
def u8c (x : Int) : List Value := [.int .u8 x]
theorem u8c_flat (l : List Int) : l.flatMap u8c = u8s l := by
 induction l with
 | nil => rfl
 | cons x l ih => rw [List.flatMap_cons, ih]; rfl

def Sl.Lies {α : Type} (s : Sl α) (w : World) (B size : Nat) (f : α → List Value) : Prop := Reads w B size s.A s.l.length (s.l.flatMap f)
structure Pkt where
 kind : Int
 sender : Int
 media : Int
 ntp : Int
 rtp : Int
 packets : Int
 octets : Int
 reports : Sl Rep
 ext : Sl Int
 chunks : Sl Chunk
 sources : Sl Int
 text : ByteArray
 sub : Int
 data : Sl Int
 pairs : Sl Pair
 slices : Sl Slc
 entries : Sl Ent
 bits : Int
 blocks : Sl Blo
 time : Int
 base : Int
 count : Int
 ref : Int
 fb : Int
 stats : Sl Sta
 deltas : Sl Dlt
 hpad : Bool
 hcount : Int
 htype : Int
 hlen : Int
def Pkt.cells (p : Pkt) : Array Value := #[.int .i64 p.kind, .int .u32 p.sender, .int .u32 p.media, .int .u64 p.ntp, .int .u32 p.rtp, .int .u32 p.packets, .int .u32 p.octets, p.reports.val, p.ext.val, p.chunks.val, p.sources.val, .string p.text, .int .u8 p.sub, p.data.val, p.pairs.val, p.slices.val, p.entries.val, .int .u32 p.bits, p.blocks.val, .int .u32 p.time, .int .u16 p.base, .int .u16 p.count, .int .u32 p.ref, .int .u8 p.fb, p.stats.val, p.deltas.val, .bool p.hpad, .int .u8 p.hcount, .int .u8 p.htype, .int .u16 p.hlen]
def Pkt.val (p : Pkt) : Value := .agg p.cells
structure Pkt.Lies (p : Pkt) (w : World) (B : Nat) : Prop where
 reports : p.reports.Lies w B 7 Rep.cells
 ext : p.ext.Lies w B 1 u8c
 chunks : p.chunks.Lies w B 2 Chunk.cells
 items : ∀ x ∈ p.chunks.l, x.items.Lies w B 2 Item.cells
 sources : p.sources.Lies w B 1 u32c
 data : p.data.Lies w B 1 u8c
 pairs : p.pairs.Lies w B 2 Pair.cells
 slices : p.slices.Lies w B 3 Slc.cells
 entries : p.entries.Lies w B 2 Ent.cells
 blocks : p.blocks.Lies w B 3 Blo.cells
 mets : ∀ x ∈ p.blocks.l, x.mets.Lies w B 3 Met.cells
 stats : p.stats.Lies w B 5 Sta.cells
 lists : ∀ x ∈ p.stats.l, x.list.Lies w B 1 u16c
 deltas : p.deltas.Lies w B 2 Dlt.cells
theorem Sl.Lies.below {α : Type} {s : Sl α} {w w' : World} {B size : Nat} {f : α → List Value} (h : s.Lies w B size f) (hb : Below B w w') : s.Lies w' B size f := Reads.below h hb
theorem Pkt.Lies.below {p : Pkt} {w w' : World} {B : Nat} (h : p.Lies w B) (hb : Below B w w') : p.Lies w' B :=
 ⟨h.reports.below hb, h.ext.below hb, h.chunks.below hb, fun x hx => (h.items x hx).below hb, h.sources.below hb, h.data.below hb, h.pairs.below hb, h.slices.below hb, h.entries.below hb, h.blocks.below hb, fun x hx => (h.mets x hx).below hb, h.stats.below hb, fun x hx => (h.lists x hx).below hb, h.deltas.below hb⟩
end Go.Proofs.YtmmfpgoodfgkbaaGreatDoor
namespace Go.Proofs.YtmmfpgoodfgkbaaGreatDoor
open Go Go.RowKit

end Go.Proofs.YtmmfpgoodfgkbaaGreatDoor
