/-
  THE WALK of the law's turn of a packet into the thin package's: the same numbers and texts, the lists in new memory. Condition: fewer than 2^31 elements in each list.
-/
import Derived.Test.YtmmfpgoodfgkbaaGreatMStep
import Derived.Test.YtmmfpgoodfgkbaaGreatInRows
import Derived.Test.YtmmfpgoodfgkbaaGreatMPkt
namespace Go.Proofs.YtmmfpgoodfgkbaaGreat
open Go Go.RowKit
set_option linter.unusedVariables false

def giv (p : Pkt) (v7 v9 v14 v15 v16 v18 v24 v25 : Value) : Array Value := #[.int .i64 p.kind, .int .u32 p.sender, .int .u32 p.media, .int .u64 p.ntp, .int .u32 p.rtp, .int .u32 p.packets, .int .u32 p.octets, v7, .slice p.ext.A (p.ext.l.length : Nat) p.ext.c, v9, .slice p.sources.A (p.sources.l.length : Nat) p.sources.c, .string p.text, .int .u8 p.sub, .slice p.data.A (p.data.l.length : Nat) p.data.c, v14, v15, v16, .int .u32 p.bits, v18, .int .u32 p.time, .int .u16 p.base, .int .u16 p.count, .int .u32 p.ref, .int .u8 p.fb, v24, v25, .bool p.hpad, .int .u8 p.hcount, .int .u8 p.htype, .int .u16 p.hlen]
structure Pkt.Same (p q : Pkt) : Prop where
  kind : q.kind = p.kind
  sender : q.sender = p.sender
  media : q.media = p.media
  ntp : q.ntp = p.ntp
  rtp : q.rtp = p.rtp
  packets : q.packets = p.packets
  octets : q.octets = p.octets
  reports : q.reports.l = p.reports.l
  ext : q.ext = p.ext
  chunks : q.chunks.l.map Chunk.bare = p.chunks.l.map Chunk.bare
  sources : q.sources = p.sources
  text : q.text = p.text
  sub : q.sub = p.sub
  data : q.data = p.data
  pairs : q.pairs.l = p.pairs.l
  slices : q.slices.l = p.slices.l
  entries : q.entries.l = p.entries.l
  bits : q.bits = p.bits
  blocks : q.blocks.l.map Blo.bare = p.blocks.l.map Blo.bare
  time : q.time = p.time
structure Pkt.Short (p : Pkt) : Prop where
  reports : p.reports.l.length ≤ 2147483647
  ext : p.ext.l.length ≤ 2147483647
  chunks : p.chunks.l.length ≤ 2147483647
  sources : p.sources.l.length ≤ 2147483647
  data : p.data.l.length ≤ 2147483647
  pairs : p.pairs.l.length ≤ 2147483647
  slices : p.slices.l.length ≤ 2147483647
  entries : p.entries.l.length ≤ 2147483647
  blocks : p.blocks.l.length ≤ 2147483647
  stats : p.stats.l.length ≤ 2147483647
  deltas : p.deltas.l.length ≤ 2147483647
  items : ∀ x ∈ p.chunks.l, x.items.l.length ≤ 2147483647
  mets : ∀ x ∈ p.blocks.l, x.mets.l.length ≤ 2147483647
abbrev ckItems (B : Nat) (l : List Chunk) : Pc := .ck (ckRs B 95 2 (fun x : Chunk => x.items.val) (fun x => x.items.l.flatMap Item.cells) (fun x => x.items.l.length) l)
theorem stp_items {olds : Nat → Prop} {w0 w : World} {L : PL} {B : Nat} {l : List Chunk} (h : Stp olds w0 w (lookM (den olds w0 L))) (k k2 : Nat) (x : Chunk) (hne : k ≠ k2) (hk : lookP L k = some (ckItems B l) := by kernel_rfl) (hk2 : lookP L k2 = some (.row B 95 2 x.items.val x.items.l.length (x.items.l.flatMap Item.cells)) := by kernel_rfl) : Stp olds w0 w (lookM (den olds w0 ((k, some (ckItems B (l ++ [x]))) :: (k2, none) :: L))) :=
  Stp.merge h k k2 x (by rw [lookM_den, hk]; rfl) (by rw [lookM_den, hk2]; rfl) hne
theorem own_items {olds : Nat → Prop} {w0 w : World} {L : PL} {B : Nat} {l : List Chunk} (h : Stp olds w0 w (lookM (den olds w0 L))) (k : Nat) (x : Chunk) (hx : x ∈ l) (hk : lookP L k = some (ckItems B l) := by kernel_rfl) : w.ownsRow B 95 2 x.items.val x.items.l.length (x.items.l.flatMap Item.cells) := (show (Pc.den olds w0 (ckItems B l)).ok w from h.ok k _ (by rw [lookM_den, hk]; rfl)) x hx
theorem stp_items0 {olds : Nat → Prop} {w0 w : World} {L : PL} (h : Stp olds w0 w (lookM (den olds w0 L))) (k B : Nat) : Stp olds w0 w (lookM (den olds w0 ((k, some (ckItems B [])) :: L))) := ckRs_nil h k B 95 2 _ _ _
abbrev ckMets (B : Nat) (l : List Blo) : Pc := .ck (ckRs B 113 3 (fun x : Blo => x.mets.val) (fun x => x.mets.l.flatMap Met.cells) (fun x => x.mets.l.length) l)
theorem stp_mets {olds : Nat → Prop} {w0 w : World} {L : PL} {B : Nat} {l : List Blo} (h : Stp olds w0 w (lookM (den olds w0 L))) (k k2 : Nat) (x : Blo) (hne : k ≠ k2) (hk : lookP L k = some (ckMets B l) := by kernel_rfl) (hk2 : lookP L k2 = some (.row B 113 3 x.mets.val x.mets.l.length (x.mets.l.flatMap Met.cells)) := by kernel_rfl) : Stp olds w0 w (lookM (den olds w0 ((k, some (ckMets B (l ++ [x]))) :: (k2, none) :: L))) :=
  Stp.merge h k k2 x (by rw [lookM_den, hk]; rfl) (by rw [lookM_den, hk2]; rfl) hne
theorem own_mets {olds : Nat → Prop} {w0 w : World} {L : PL} {B : Nat} {l : List Blo} (h : Stp olds w0 w (lookM (den olds w0 L))) (k : Nat) (x : Blo) (hx : x ∈ l) (hk : lookP L k = some (ckMets B l) := by kernel_rfl) : w.ownsRow B 113 3 x.mets.val x.mets.l.length (x.mets.l.flatMap Met.cells) := (show (Pc.den olds w0 (ckMets B l)).ok w from h.ok k _ (by rw [lookM_den, hk]; rfl)) x hx
theorem stp_mets0 {olds : Nat → Prop} {w0 w : World} {L : PL} (h : Stp olds w0 w (lookM (den olds w0 L))) (k B : Nat) : Stp olds w0 w (lookM (den olds w0 ((k, some (ckMets B [])) :: L))) := ckRs_nil h k B 113 3 _ _ _

end Go.Proofs.YtmmfpgoodfgkbaaGreat
