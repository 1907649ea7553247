/-
  THE BYTES of the bodies of packets: plain. No condition.
-/
import Derived.Test.YtmmfpgoodfgkbaaGreatCtForm2
import Derived.Test.YtmmfpgoodfgkbaaGreatMPkt
import Derived.Laws.Closers25b
namespace Go.Proofs.YtmmfpgoodfgkbaaGreat
open Go Go.RowKit
set_option linter.unusedVariables false

def pairsB (l : List Pair) : List Int := l.flatMap fun x => be16 x.id ++ be16 x.mask
theorem pairsB_len (l : List Pair) : (pairsB l).length = 4 * l.length := by
  induction l with
  | nil => rfl
  | cons x l ih => rw [pairsB, List.flatMap_cons, List.length_append, ← pairsB, ih]; simp [be16_len]; omega
/-- The word of a slice. -/
def slcW (x : Slc) : Int := bits .or .u32 (bits .or .u32 (IntKind.u32.wrap (IntKind.u32.wrap x.first * 524288)) (IntKind.u32.wrap (IntKind.u32.wrap x.number * 64))) (IntKind.u32.wrap x.pic)
theorem slcW_bd (x : Slc) : 0 ≤ slcW x ∧ slcW x < 4294967296 := by
  have h := bits_within .or .u32 (bits .or .u32 (IntKind.u32.wrap (IntKind.u32.wrap x.first * 524288)) (IntKind.u32.wrap (IntKind.u32.wrap x.number * 64))) (IntKind.u32.wrap x.pic)
  have hmin : IntKind.u32.min = 0 := rfl
  have hmax : IntKind.u32.max = 4294967295 := rfl
  exact ⟨by have := h.1; unfold slcW; omega, by have := h.2; unfold slcW; omega⟩
/-- May a slice be written? -/
def slcOk (x : Slc) : Bool := decide (x.first < 8192) && (decide (x.number < 8192) && decide (x.pic < 64))
def slcsB (l : List Slc) : List Int := l.flatMap fun x => be32 (slcW x)
theorem slcsB_len (l : List Slc) : (slcsB l).length = 4 * l.length := by
  induction l with
  | nil => rfl
  | cons x l ih => rw [slcsB, List.flatMap_cons, List.length_append, ← slcsB, ih]; simp [be32_len]; omega
def entsB (l : List Ent) : List Int := l.flatMap fun x => be32 x.ssrc ++ [x.n, 0, 0, 0]
theorem entsB_len (l : List Ent) : (entsB l).length = 8 * l.length := by
  induction l with
  | nil => rfl
  | cons x l ih => rw [entsB, List.flatMap_cons, List.length_append, ← entsB, ih]; simp [be32_len]; omega

def byeB (l : List Int) (s : ByteArray) : List Int := if s.toList.isEmpty = true then l.flatMap be32 else padB (l.flatMap be32 ++ [(s.size : Int) % 256] ++ sb s)

def itemB (x : Item) : List Int := [x.ty, (x.text.size : Int) % 256] ++ sb x.text
def itemsB (l : List Item) : List Int := l.flatMap itemB
def itemOk (x : Item) : Bool := (x.ty != 0) && decide ((x.text.size : Int) ≤ 255)
def chunkB (b : List Int) (x : Chunk) : List Int := padB (b ++ be32 x.src ++ itemsB x.items.l ++ [0])
def chunksB (l : List Chunk) : List Int := l.foldl chunkB []
theorem itemsB_take (l : List Item) (k : Nat) : (itemsB (l.take k)).length ≤ (itemsB l).length := by
  conv => rhs; rw [← List.take_append_drop k l]
  rw [itemsB, itemsB, List.flatMap_append, List.length_append]; omega
theorem chunkB_le (b : List Int) (x : Chunk) : b.length ≤ (chunkB b x).length := by
  unfold chunkB; rw [padB_len]; simp only [List.length_append]; omega
theorem chunks_grow (l : List Chunk) : ∀ b : List Int, b.length ≤ (l.foldl chunkB b).length := by
  induction l with
  | nil => exact fun b => Nat.le_refl _
  | cons x l ih => exact fun b => Nat.le_trans (chunkB_le b x) (ih _)
theorem chunksB_take (l : List Chunk) (k : Nat) (h : k < l.length) : (chunksB (l.take k)).length + 4 + (itemsB l[k].items.l).length + 1 ≤ (chunksB l).length := by
  have h1 : chunksB l = (l.drop (k + 1)).foldl chunkB (chunkB (chunksB (l.take k)) l[k]) := by
    conv => lhs; rw [← List.take_append_drop k l, chunksB, List.foldl_append, List.drop_eq_getElem_cons h, List.foldl_cons]
    rfl
  have h2 := chunks_grow (l.drop (k + 1)) (chunkB (chunksB (l.take k)) l[k])
  rw [← h1] at h2
  have h3 : (chunksB (l.take k)).length + 4 + (itemsB l[k].items.l).length + 1 ≤ (chunkB (chunksB (l.take k)) l[k]).length := by
    unfold chunkB; rw [padB_len]; simp only [List.length_append, be32_len, List.length_cons, List.length_nil]; omega
  omega
def chunkOk (x : Chunk) : Bool := x.items.l.all itemOk

def metOk (x : Met) : Bool := decide (x.ecn < 4) && (decide (x.off < 8192) && (x.rcv || ((x.ecn == 0) && (x.off == 0))))
def metW (x : Met) : Int := bits .or .u16 (IntKind.u16.wrap (IntKind.u16.wrap x.ecn * 8192)) x.off
def metV (x : Met) : Int := if x.rcv then bits .or .u16 (metW x) 32768 else metW x
theorem metV_in (x : Met) : 0 ≤ metV x ∧ metV x < 65536 := by
  unfold metV
  split
  · have h1 := bits_lo_u16 .or (metW x) 32768; have h2 := bits_hi_u16 .or (metW x) 32768; omega
  · have h1 := bits_lo_u16 .or (IntKind.u16.wrap (IntKind.u16.wrap x.ecn * 8192)) x.off; have h2 := bits_hi_u16 .or (IntKind.u16.wrap (IntKind.u16.wrap x.ecn * 8192)) x.off; unfold metW; omega
def metsB (l : List Met) : List Int := l.flatMap fun x => be16 (metV x)
theorem metsB_len (l : List Met) : (metsB l).length = 2 * l.length := by
  induction l with
  | nil => rfl
  | cons x l ih => rw [metsB, List.flatMap_cons, List.length_append, ← metsB, ih]; simp [be16_len]; omega
def bloB (b : List Int) (x : Blo) : List Int := padB (b ++ be32 x.media ++ be16 x.first ++ be16 ((x.mets.l.length : Int) % 65536) ++ metsB x.mets.l)
def blosB (b : List Int) (l : List Blo) : List Int := l.foldl bloB b
def bloOk (x : Blo) : Bool := decide (((x.mets.l.length : Nat) : Int) ≤ 16384) && x.mets.l.all metOk
theorem bloB_le (b : List Int) (x : Blo) : b.length + 8 + 2 * x.mets.l.length ≤ (bloB b x).length := by
  unfold bloB; rw [padB_len]; simp only [List.length_append, be32_len, be16_len, metsB_len]; omega
theorem blos_grow (l : List Blo) : ∀ b : List Int, b.length ≤ (blosB b l).length := by
  induction l with
  | nil => exact fun b => Nat.le_refl _
  | cons x l ih => exact fun b => Nat.le_trans (by have := bloB_le b x; omega) (ih _)
theorem blosB_take (b : List Int) (l : List Blo) (k : Nat) (h : k < l.length) : (blosB b (l.take k)).length + 8 + 2 * l[k].mets.l.length ≤ (blosB b l).length := by
  have h1 : blosB b l = blosB (bloB (blosB b (l.take k)) l[k]) (l.drop (k + 1)) := by
    conv => lhs; rw [← List.take_append_drop k l, blosB, List.foldl_append, List.drop_eq_getElem_cons h, List.foldl_cons]
    rfl
  have h2 := blos_grow (l.drop (k + 1)) (bloB (blosB b (l.take k)) l[k])
  rw [← h1] at h2
  have h3 := bloB_le (blosB b (l.take k)) l[k]
  omega

/-- A report block as it is written; nothing where too many packets are lost. -/
def repB (r : Rep) : List Int := if r.lost < 16777216 then r.bytes else []
theorem repB_le (r : Rep) : (repB r).length ≤ 24 := by unfold repB; split <;> simp [Rep.bytes_len]
def repsB (l : List Rep) : List Int := l.flatMap repB
theorem repsB_le (l : List Rep) : (repsB l).length ≤ 24 * l.length := by
  induction l with
  | nil => simp [repsB]
  | cons x l ih => rw [repsB, List.flatMap_cons, List.length_append, ← repsB, List.length_cons]; have := repB_le x; omega
def repOk (r : Rep) : Bool := decide (r.lost < 16777216)
set_option maxHeartbeats 1000000 in
theorem repForm_no (r : Rep) (w : World) (h : r.Ok) (hl2 : 16777216 ≤ r.lost) :
    Calls Tryz.prog 74 #[.agg #[.int .u32 r.ssrc, .int .u8 r.frac, .int .u32 r.lost, .int .u32 r.seq, .int .u32 r.jit, .int .u32 r.last, .int .u32 r.dly]] w fun e w' => e = .returned (.tuple #[.slice none 0 0, .bool false]) ∧ Below w.heap.size w w' := by
  go_enter Tryz.func74, Tryz.ntmps74
  go_wp2
  go_ret2
  exact ⟨rfl, (Below.refl _ _).alloc (Nat.le_refl _) _⟩
theorem repForm_any (r : Rep) (w : World) (h : r.Ok) :
    Calls Tryz.prog 74 #[.agg #[.int .u32 r.ssrc, .int .u8 r.frac, .int .u32 r.lost, .int .u32 r.seq, .int .u32 r.jit, .int .u32 r.last, .int .u32 r.dly]] w fun e w' => ∃ A m c, e = .returned (.tuple #[.slice A m c, .bool (repOk r)]) ∧ Reads w' w'.heap.size 1 A m (u8s (repB r)) ∧ m ≤ 24 ∧ Below w.heap.size w w' := by
  by_cases hl : r.lost < 16777216
  · refine (specFormat_any r w h hl).mono ?_
    rintro e w' ⟨g, cap, rfl, hown, hb⟩
    exact ⟨_, _, _, by rw [repOk, decide_eq_true hl], by rw [repB, if_pos hl]; exact Reads.of_own hown, by omega, hb⟩
  · refine (repForm_no r w h (by omega)).mono ?_
    rintro e w' ⟨rfl, hb⟩
    exact ⟨none, 0, 0, by rw [repOk, decide_eq_false hl], by rw [repB, if_neg hl]; exact Reads.none_, by omega, hb⟩

end Go.Proofs.YtmmfpgoodfgkbaaGreat
