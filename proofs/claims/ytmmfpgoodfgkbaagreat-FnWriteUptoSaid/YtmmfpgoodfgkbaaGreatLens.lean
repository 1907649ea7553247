/-
  THE LENGTHS of the bodies that the reference writes: plain. No condition.
-/
import Derived.Test.YtmmfpgoodfgkbaaGreatSizes
import Derived.Test.YtmmfpgoodfgkbaaGreatBodies
import Derived.Test.YtmmfpgoodfgkbaaGreatGivenA
namespace Go.Proofs.YtmmfpgoodfgkbaaGreat
open Go Go.RowKit
set_option linter.unusedVariables false

theorem itemsB_len (l : List Item) : (itemsB l).length = itsLen l := by
  induction l with
  | nil => rfl
  | cons x l ih =>
    have h1 : itemsB (x :: l) = itemB x ++ itemsB l := by simp [itemsB]
    have h2 : itsLen (x :: l) = (2 + x.text.size) + itsLen l := by simp [itsLen]
    rw [h1, h2, List.length_append, ih]
    simp [itemB, sb_len]
    omega
theorem chunkB_len (b : List Int) (x : Chunk) (h : b.length % 4 = 0) : (chunkB b x).length = b.length + chunkLen x.items.l ∧ (chunkB b x).length % 4 = 0 := by
  have h1 : (b ++ be32 x.src ++ itemsB x.items.l ++ [0]).length = b.length + 5 + itsLen x.items.l := by simp [be32_len, itemsB_len]; omega
  unfold chunkB chunkLen pad4
  rw [padB_len, h1]
  unfold padN
  omega
theorem foldChunks_len (l : List Chunk) : ∀ b : List Int, b.length % 4 = 0 → (l.foldl chunkB b).length = b.length + chunksLen l := by
  induction l with
  | nil => intro b _; simp [chunksLen]
  | cons x l ih =>
    intro b hb
    have h := chunkB_len b x hb
    have h2 : chunksLen (x :: l) = chunkLen x.items.l + chunksLen l := by simp [chunksLen]
    rw [List.foldl_cons, ih _ h.2, h.1, h2]
    omega
theorem chunksB_len (l : List Chunk) : (chunksB l).length = chunksLen l := by
  unfold chunksB
  rw [foldChunks_len l [] rfl]
  simp
theorem bloB_len (b : List Int) (x : Blo) (h : b.length % 4 = 0) : (bloB b x).length = b.length + bloLen x.mets.l.length ∧ (bloB b x).length % 4 = 0 := by
  have h1 : (b ++ be32 x.media ++ be16 x.first ++ be16 ((x.mets.l.length : Int) % 65536) ++ metsB x.mets.l).length = b.length + 8 + 2 * x.mets.l.length := by simp [be32_len, be16_len, metsB_len]; omega
  unfold bloB bloLen
  rw [padB_len, h1]
  unfold padN
  omega
theorem blosB_len (l : List Blo) : ∀ b : List Int, b.length % 4 = 0 → (blosB b l).length = b.length + blosLen l := by
  induction l with
  | nil => intro b _; simp [blosB, blosLen]
  | cons x l ih =>
    intro b hb
    have h := bloB_len b x hb
    have h2 : blosLen (x :: l) = bloLen x.mets.l.length + blosLen l := by simp [blosLen]
    have h3 : blosB b (x :: l) = blosB (bloB b x) l := rfl
    rw [h3, ih _ h.2, h.1, h2]
    omega
theorem toList_len (s : ByteArray) : s.toList.length = s.size := by
  rw [ByteArray.toList_eq]; rfl
theorem byeB_len (l : List Int) (s : ByteArray) : 4 + (byeB l s).length = byeLen l.length s.size + pad4 (byeLen l.length s.size) := by
  have hs : s.toList.isEmpty = true ↔ s.size = 0 := by
    rw [List.isEmpty_iff_length_eq_zero, toList_len]
  unfold byeB byeLen
  by_cases h : s.size = 0
  · rw [if_pos (hs.2 h), if_pos h, be32s_len]; unfold pad4; omega
  · rw [if_neg (fun e => h (hs.1 e)), if_neg h, padB_len]
    have h1 : (l.flatMap be32 ++ [(s.size : Int) % 256] ++ sb s).length = 4 * l.length + (s.size + 1) := by simp only [List.length_append, be32s_len, sb_len, List.length_cons, List.length_nil]; omega
    rw [h1]
    unfold padN pad4
    omega
theorem repsB_len (l : List Rep) (h : l.all repOk = true) : (repsB l).length = 24 * l.length := by
  induction l with
  | nil => rfl
  | cons x l ih =>
    simp only [List.all_cons, Bool.and_eq_true] at h
    have h1 : repsB (x :: l) = repB x ++ repsB l := by simp [repsB]
    have h2 : (repB x).length = 24 := by
      have := of_decide_eq_true h.1
      unfold repB
      rw [if_pos this, Rep.bytes_len]
    rw [h1, List.length_append, ih h.2, h2, List.length_cons]
    omega
/-- No list of a packet is too long (of those that are written). -/
structure Pkt.Short1 (p : Pkt) : Prop where
  reports : p.reports.l.length ≤ 2147483647
  ext : p.ext.l.length ≤ 2147483647
  chunks : p.chunks.l.length ≤ 2147483647
  sources : p.sources.l.length ≤ 2147483647
  data : p.data.l.length ≤ 2147483647
  pairs : p.pairs.l.length ≤ 2147483647
  slices : p.slices.l.length ≤ 2147483647
  entries : p.entries.l.length ≤ 2147483647
  blocks : p.blocks.l.length ≤ 2147483647
  items : ∀ x ∈ p.chunks.l, x.items.l.length ≤ 2147483647
  mets : ∀ x ∈ p.blocks.l, x.mets.l.length ≤ 2147483647
/-- No part of a packet is too long. -/
structure Pkt.Small (p : Pkt) : Prop where
  short : p.Short1
  text : p.text.size ≤ 2147483647
  texts : ∀ x ∈ p.chunks.l, ∀ i ∈ x.items.l, i.text.size ≤ 2147483647
  chunksL : chunksLen p.chunks.l ≤ 549755813888
  blosL : blosLen p.blocks.l ≤ 549755813888
  pairs1 : p.pairs.l.length ≤ 2147483646
  slices1 : p.slices.l.length ≤ 2147483646
  entries1 : p.entries.l.length ≤ 2147483646
end Go.Proofs.YtmmfpgoodfgkbaaGreat
