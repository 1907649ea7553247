/-
  A LIST READ IN SOME BLOCKS: what stays of it as long as they stay. No condition.
-/
import Derived.Test.YtmmfpgoodfgkbaaGreatKit
import Derived.Test.YtmmfpgoodfgkbaaGreatMPkt
namespace Go.Proofs.YtmmfpgoodfgkbaaGreat
open Go Go.RowKit
set_option linter.unusedVariables false

def InRows (w : World) (B C size : Nat) (A : Option Addr) (n : Nat) (xs : List Value) : Prop :=
  xs.length = n * size ∧ (0 < n → ∃ ad, A = some ad ∧ B ≤ ad.block ∧ ad.block < C ∧ ∀ j u, xs[j]? = some u → w.cell? (ad.add j) = some u)
theorem InRows.reads {w : World} {B C size n : Nat} {A : Option Addr} {xs : List Value} (h : InRows w B C size A n xs) : Reads w C size A n xs :=
  ⟨h.1, fun hn => by obtain ⟨ad, e, _, h2, h3⟩ := h.2 hn; exact ⟨ad, e, h2, h3⟩⟩
theorem InRows.readsH {w : World} {B C D size n : Nat} {A : Option Addr} {xs : List Value} (h : InRows w B C size A n xs) (hl : ∀ g, B ≤ g ∧ g < C → g < D) : Reads w D size A n xs :=
  ⟨h.1, fun hn => by obtain ⟨ad, e, h1, h2, h3⟩ := h.2 hn; exact ⟨ad, e, hl _ ⟨h1, h2⟩, h3⟩⟩
theorem InRows.st {w w' : World} {B C size n : Nat} {A : Option Addr} {xs : List Value} (h : InRows w B C size A n xs) (hk : ∀ g, B ≤ g ∧ g < C → w'.heap[g]? = w.heap[g]?) : InRows w' B C size A n xs :=
  ⟨h.1, fun hn => by
    obtain ⟨ad, e, h1, h2, h3⟩ := h.2 hn
    exact ⟨ad, e, h1, h2, fun j u hu => (World.cell?_of_block (by rw [block_of_add]; exact hk _ ⟨h1, h2⟩)).trans (h3 j u hu)⟩⟩
theorem InRows.of_own {w : World} {base size n c : Nat} {e : TypeId} {A : Option Addr} {xs : List Value} (h : w.ownsRow base e size (.slice A n c) n xs) : InRows w base w.heap.size size A n xs := by
  refine ⟨h.1, fun hn => ?_⟩
  obtain ⟨g, cap, hv, hb, hlt⟩ := h.form hn
  have hA : A = some ⟨g, 0, none⟩ := by injection hv
  subst hA
  exact ⟨_, rfl, hb, hlt, h.cells (g := g) rfl⟩
theorem InRows.wide {w : World} {B C B' D size n : Nat} {A : Option Addr} {xs : List Value} (h : InRows w B C size A n xs) (hl : ∀ g, B ≤ g ∧ g < C → B' ≤ g ∧ g < D) : InRows w B' D size A n xs :=
  ⟨h.1, fun hn => by obtain ⟨ad, e, h1, h2, h3⟩ := h.2 hn; exact ⟨ad, e, (hl _ ⟨h1, h2⟩).1, (hl _ ⟨h1, h2⟩).2, h3⟩⟩
structure Pkt.NewIn (q : Pkt) (w : World) (B C : Nat) : Prop where
  reports : InRows w B C 7 q.reports.A q.reports.l.length (q.reports.l.flatMap Rep.cells)
  chunks : InRows w B C 2 q.chunks.A q.chunks.l.length (q.chunks.l.flatMap Chunk.cells)
  items : ∀ x ∈ q.chunks.l, InRows w B C 2 x.items.A x.items.l.length (x.items.l.flatMap Item.cells)
  pairs : InRows w B C 2 q.pairs.A q.pairs.l.length (q.pairs.l.flatMap Pair.cells)
  slices : InRows w B C 3 q.slices.A q.slices.l.length (q.slices.l.flatMap Slc.cells)
  entries : InRows w B C 2 q.entries.A q.entries.l.length (q.entries.l.flatMap Ent.cells)
  blocks : InRows w B C 3 q.blocks.A q.blocks.l.length (q.blocks.l.flatMap Blo.cells)
  mets : ∀ x ∈ q.blocks.l, InRows w B C 3 x.mets.A x.mets.l.length (x.mets.l.flatMap Met.cells)
  stats : InRows w B C 5 q.stats.A q.stats.l.length (q.stats.l.flatMap Sta.cells)
  deltas : InRows w B C 2 q.deltas.A q.deltas.l.length (q.deltas.l.flatMap Dlt.cells)
theorem Pkt.NewIn.st {q : Pkt} {w w' : World} {B C : Nat} (h : q.NewIn w B C) (hk : ∀ g, B ≤ g ∧ g < C → w'.heap[g]? = w.heap[g]?) : q.NewIn w' B C :=
  ⟨h.reports.st hk, h.chunks.st hk, fun x hx => (h.items x hx).st hk, h.pairs.st hk, h.slices.st hk, h.entries.st hk, h.blocks.st hk, fun x hx => (h.mets x hx).st hk, h.stats.st hk, h.deltas.st hk⟩
theorem Pkt.NewIn.lies {p q : Pkt} {w : World} {B C D : Nat} (h : q.NewIn w B C) (hD : C ≤ D) (hp : p.Lies w D) (he : q.ext = p.ext) (hs : q.sources = p.sources) (hd : q.data = p.data) (ht : q.stats.l = p.stats.l) : q.Lies w D :=
  ⟨h.reports.reads.more hD, by rw [he]; exact hp.ext, h.chunks.reads.more hD, fun x hx => (h.items x hx).reads.more hD, by rw [hs]; exact hp.sources, by rw [hd]; exact hp.data, h.pairs.reads.more hD, h.slices.reads.more hD, h.entries.reads.more hD, h.blocks.reads.more hD, fun x hx => (h.mets x hx).reads.more hD, h.stats.reads.more hD, by rw [ht]; exact hp.lists, h.deltas.reads.more hD⟩
end Go.Proofs.YtmmfpgoodfgkbaaGreat
