/-
  THE WALK of the thin package's header of a packet, for each kind. Condition: the kind; what the packet's slices read as; no part is too long.
-/
import Derived.Test.YtmmfpgoodfgkbaaGreatDoorHeaderOf
import Derived.Test.YtmmfpgoodfgkbaaGreatDoorBuiltN
import Derived.Test.YtmmfpgoodfgkbaaGreatDoorBuiltW
import Derived.Test.YtmmfpgoodfgkbaaGreatDoorLegalA
namespace Go.Proofs.YtmmfpgoodfgkbaaGreatDoor
open Go Go.RowKit
set_option linter.unusedVariables false

theorem bare_chunks {l2 l : List Chunk} (h : l2.map Chunk.bare = l.map Chunk.bare) : l2.length = l.length ∧ chunksLen l2 = chunksLen l ∧ ∀ n, (∀ x ∈ l, x.items.l.length ≤ n) → ∀ x ∈ l2, x.items.l.length ≤ n := by
  have e : ∀ l : List Chunk, chunksLen l = ((l.map Chunk.bare).map fun x => chunkLen x.2).sum := fun l => by simp [chunksLen, Chunk.bare, Function.comp_def]
  refine ⟨by simpa using congrArg List.length h, by rw [e, e, h], fun n hn x hx => ?_⟩
  have hm : x.bare ∈ l.map Chunk.bare := h ▸ List.mem_map_of_mem hx
  obtain ⟨y, hy, hb⟩ := List.mem_map.1 hm
  have := hn y hy
  have e2 : y.items.l = x.items.l := congrArg Prod.snd hb
  rwa [e2] at this
theorem bare_blos {l2 l : List Blo} (h : l2.map Blo.bare = l.map Blo.bare) : l2.length = l.length ∧ blosLen l2 = blosLen l ∧ ∀ n, (∀ x ∈ l, x.mets.l.length ≤ n) → ∀ x ∈ l2, x.mets.l.length ≤ n := by
  have e : ∀ l : List Blo, blosLen l = ((l.map Blo.bare).map fun x => bloLen x.2.2.length).sum := fun l => by simp [blosLen, Blo.bare, Function.comp_def]
  refine ⟨by simpa using congrArg List.length h, by rw [e, e, h], fun n hn x hx => ?_⟩
  have hm : x.bare ∈ l.map Blo.bare := h ▸ List.mem_map_of_mem hx
  obtain ⟨y, hy, hb⟩ := List.mem_map.1 hm
  have := hn y hy
  have e2 : y.mets.l = x.mets.l := congrArg (fun z => z.2.2) hb
  rwa [e2] at this
theorem hdrK_1 (q : Pkt) (w : World) (hk : q.kind = 1) (h : q.Lies w w.heap.size) (hS : q.Small) :
    Calls Tryz.prog 22 #[.agg q.cells] w fun e w' => ∃ g, e = .returned (.iface 79 (.pointer (some ⟨g, 0, none⟩))) ∧ Below w.heap.size w w' ∧ Calls Tryz.prog 24 #[.pointer (some ⟨g, 0, none⟩)] w' fun e w3 => e = .returned (.agg (hdrA ((q.reports.l.length : Int) % 256) 200 (28 + 24 * q.reports.l.length + q.ext.l.length + pad4 q.ext.l.length))) ∧ Below w'.heap.size w' w3 :=
  (built_1 q w hk h.reports hS.short.reports h.ext hS.short.ext).mono fun e w' ⟨g, v1, c1, v2, c2, he, hb, _, ho1, ho2, hB⟩ => ⟨g, he, hB, srhdr_any g w' _ v1 v2 q.reports.l c1 q.ext.l.length c2 _ _ _ _ _ hb (reads_of_own ho1) hS.short.reports hS.short.ext⟩
theorem headerOf_1 (q : Pkt) (w : World) (hk : q.kind = 1) (h : q.Lies w w.heap.size) (hS : q.Small) :
    Calls Tryz.prog 8 #[.agg q.cells] w fun e w' => e = .returned (.tuple #[.agg (hdrA ((q.reports.l.length : Int) % 256) 200 (28 + 24 * q.reports.l.length + q.ext.l.length + pad4 q.ext.l.length)), .bool true]) ∧ Below w.heap.size w w' :=
  headerOf_true q _ _ _ w fun w1 g0 g1 h0 h1 hne hb0 hb1 hB => headerClo_SenderReport q g0 g1 w.heap.size _ _ _ w1 h0 h1 hne hb0 hb1 fun w' hw' => hdrK_1 q w' hk ((h.below (hB.trans hw')).more (hB.trans hw').size) hS
theorem hdrK_2 (q : Pkt) (w : World) (hk : q.kind = 2) (h : q.Lies w w.heap.size) (hS : q.Small) :
    Calls Tryz.prog 22 #[.agg q.cells] w fun e w' => ∃ g, e = .returned (.iface 85 (.pointer (some ⟨g, 0, none⟩))) ∧ Below w.heap.size w w' ∧ Calls Tryz.prog 25 #[.pointer (some ⟨g, 0, none⟩)] w' fun e w3 => e = .returned (.agg (hdrA ((q.reports.l.length : Int) % 256) 201 (8 + 24 * q.reports.l.length + q.ext.l.length + pad4 q.ext.l.length))) ∧ Below w'.heap.size w' w3 :=
  (built_2 q w hk h.reports hS.short.reports h.ext hS.short.ext).mono fun e w' ⟨g, v1, c1, v2, c2, he, hb, _, ho1, ho2, hB⟩ => ⟨g, he, hB, rrhdr_any g w' _ v1 v2 q.reports.l c1 q.ext.l.length c2 _ hb (reads_of_own ho1) hS.short.reports hS.short.ext⟩
theorem headerOf_2 (q : Pkt) (w : World) (hk : q.kind = 2) (h : q.Lies w w.heap.size) (hS : q.Small) :
    Calls Tryz.prog 8 #[.agg q.cells] w fun e w' => e = .returned (.tuple #[.agg (hdrA ((q.reports.l.length : Int) % 256) 201 (8 + 24 * q.reports.l.length + q.ext.l.length + pad4 q.ext.l.length)), .bool true]) ∧ Below w.heap.size w w' :=
  headerOf_true q _ _ _ w fun w1 g0 g1 h0 h1 hne hb0 hb1 hB => headerClo_ReceiverReport q g0 g1 w.heap.size _ _ _ w1 h0 h1 hne hb0 hb1 fun w' hw' => hdrK_2 q w' hk ((h.below (hB.trans hw')).more (hB.trans hw').size) hS
theorem hdrK_3 (q : Pkt) (w : World) (hk : q.kind = 3) (h : q.Lies w w.heap.size) (hS : q.Small) :
    Calls Tryz.prog 22 #[.agg q.cells] w fun e w' => ∃ g, e = .returned (.iface 86 (.pointer (some ⟨g, 0, none⟩))) ∧ Below w.heap.size w w' ∧ Calls Tryz.prog 26 #[.pointer (some ⟨g, 0, none⟩)] w' fun e w3 => e = .returned (.agg (hdrA ((q.chunks.l.length : Int) % 256) 202 (4 + chunksLen q.chunks.l))) ∧ Below w'.heap.size w' w3 :=
  (built_3 q w hk h.chunks hS.short.chunks h.items hS.short.items).mono fun e w' ⟨g, A, c, l2, hbare, he, _, hB, hb, hr, hri⟩ => ⟨g, he, hB, by
    obtain ⟨e1, e2, e3⟩ := bare_chunks hbare
    have := sdhdr_any g w' _ A l2 c hb hr hri (by rw [e1]; exact hS.short.chunks) (e3 _ hS.short.items) (by rw [e2]; exact hS.chunksL)
    rwa [e1, e2] at this⟩
theorem headerOf_3 (q : Pkt) (w : World) (hk : q.kind = 3) (h : q.Lies w w.heap.size) (hS : q.Small) :
    Calls Tryz.prog 8 #[.agg q.cells] w fun e w' => e = .returned (.tuple #[.agg (hdrA ((q.chunks.l.length : Int) % 256) 202 (4 + chunksLen q.chunks.l)), .bool true]) ∧ Below w.heap.size w w' :=
  headerOf_true q _ _ _ w fun w1 g0 g1 h0 h1 hne hb0 hb1 hB => headerClo_SourceDescription q g0 g1 w.heap.size _ _ _ w1 h0 h1 hne hb0 hb1 fun w' hw' => hdrK_3 q w' hk ((h.below (hB.trans hw')).more (hB.trans hw').size) hS
theorem hdrK_4 (q : Pkt) (w : World) (hk : q.kind = 4) (h : q.Lies w w.heap.size) (hS : q.Small) :
    Calls Tryz.prog 22 #[.agg q.cells] w fun e w' => ∃ g, e = .returned (.iface 87 (.pointer (some ⟨g, 0, none⟩))) ∧ Below w.heap.size w w' ∧ Calls Tryz.prog 27 #[.pointer (some ⟨g, 0, none⟩)] w' fun e w3 => e = .returned (.agg (hdrA ((q.sources.l.length : Int) % 256) 203 (byeLen q.sources.l.length q.text.size + pad4 (byeLen q.sources.l.length q.text.size)))) ∧ Below w'.heap.size w' w3 :=
  (built_4 q w hk h.sources hS.short.sources).mono fun e w' ⟨g, v1, c1, he, hb, _, ho1, hB⟩ => ⟨g, he, hB, byehdr_any g w' _ v1 q.sources.l.length c1 _ hb hS.short.sources hS.text⟩
theorem headerOf_4 (q : Pkt) (w : World) (hk : q.kind = 4) (h : q.Lies w w.heap.size) (hS : q.Small) :
    Calls Tryz.prog 8 #[.agg q.cells] w fun e w' => e = .returned (.tuple #[.agg (hdrA ((q.sources.l.length : Int) % 256) 203 (byeLen q.sources.l.length q.text.size + pad4 (byeLen q.sources.l.length q.text.size))), .bool true]) ∧ Below w.heap.size w w' :=
  headerOf_true q _ _ _ w fun w1 g0 g1 h0 h1 hne hb0 hb1 hB => headerClo_Goodbye q g0 g1 w.heap.size _ _ _ w1 h0 h1 hne hb0 hb1 fun w' hw' => hdrK_4 q w' hk ((h.below (hB.trans hw')).more (hB.trans hw').size) hS
theorem hdrK_6 (q : Pkt) (w : World) (hk : q.kind = 6) (h : q.Lies w w.heap.size) (hS : q.Small) :
    Calls Tryz.prog 22 #[.agg q.cells] w fun e w' => ∃ g, e = .returned (.iface 88 (.pointer (some ⟨g, 0, none⟩))) ∧ Below w.heap.size w w' ∧ Calls Tryz.prog 28 #[.pointer (some ⟨g, 0, none⟩)] w' fun e w3 => e = .returned (.agg (hdrA (1) 205 (12 + 4 * q.pairs.l.length))) ∧ Below w'.heap.size w' w3 :=
  (builtL_6 q w hk h.pairs hS.pairs1).mono fun e w' ⟨g, v, he, hb, _, hown, hB⟩ => ⟨g, he, hB, by
    obtain ⟨A, c, rfl⟩ := own_form hown
    exact nackhdr_any g w' _ A _ c _ _ hb hS.short.pairs⟩
theorem headerOf_6 (q : Pkt) (w : World) (hk : q.kind = 6) (h : q.Lies w w.heap.size) (hS : q.Small) :
    Calls Tryz.prog 8 #[.agg q.cells] w fun e w' => e = .returned (.tuple #[.agg (hdrA (1) 205 (12 + 4 * q.pairs.l.length)), .bool true]) ∧ Below w.heap.size w w' :=
  headerOf_true q _ _ _ w fun w1 g0 g1 h0 h1 hne hb0 hb1 hB => headerClo_TransportLayerNack q g0 g1 w.heap.size _ _ _ w1 h0 h1 hne hb0 hb1 fun w' hw' => hdrK_6 q w' hk ((h.below (hB.trans hw')).more (hB.trans hw').size) hS
theorem hdrK_7 (q : Pkt) (w : World) (hk : q.kind = 7) (h : q.Lies w w.heap.size) (hS : q.Small) :
    Calls Tryz.prog 22 #[.agg q.cells] w fun e w' => ∃ g, e = .returned (.iface 89 (.pointer (some ⟨g, 0, none⟩))) ∧ Below w.heap.size w w' ∧ Calls Tryz.prog 29 #[.pointer (some ⟨g, 0, none⟩)] w' fun e w3 => e = .returned (.agg (hdrA (5) 205 (12))) ∧ Below w'.heap.size w' w3 :=
  (built_7 q w hk).mono fun e w' ⟨g, he, hb, _, hB⟩ => ⟨g, he, hB, rrrhdr_any g w' _ _ _ hb⟩
theorem headerOf_7 (q : Pkt) (w : World) (hk : q.kind = 7) (h : q.Lies w w.heap.size) (hS : q.Small) :
    Calls Tryz.prog 8 #[.agg q.cells] w fun e w' => e = .returned (.tuple #[.agg (hdrA (5) 205 (12)), .bool true]) ∧ Below w.heap.size w w' :=
  headerOf_true q _ _ _ w fun w1 g0 g1 h0 h1 hne hb0 hb1 hB => headerClo_RapidResynchronizationRequest q g0 g1 w.heap.size _ _ _ w1 h0 h1 hne hb0 hb1 fun w' hw' => hdrK_7 q w' hk ((h.below (hB.trans hw')).more (hB.trans hw').size) hS
theorem hdrK_8 (q : Pkt) (w : World) (hk : q.kind = 8) (h : q.Lies w w.heap.size) (hS : q.Small) :
    Calls Tryz.prog 22 #[.agg q.cells] w fun e w' => ∃ g, e = .returned (.iface 90 (.pointer (some ⟨g, 0, none⟩))) ∧ Below w.heap.size w w' ∧ Calls Tryz.prog 30 #[.pointer (some ⟨g, 0, none⟩)] w' fun e w3 => e = .returned (.agg (hdrA (11) 205 (12 + blosLen q.blocks.l))) ∧ Below w'.heap.size w' w3 :=
  (built_8 q w hk h.blocks hS.short.blocks h.mets hS.short.mets).mono fun e w' ⟨g, A, c, l2, hbare, he, _, hB, hb, hr, hri⟩ => ⟨g, he, hB, by
    obtain ⟨e1, e2, e3⟩ := bare_blos hbare
    have := cchdr_any g w' _ A l2 c _ _ hb hr (by rw [e1]; exact hS.short.blocks) (e3 _ hS.short.mets) (by rw [e2]; have := hS.blosL; omega)
    rwa [e2] at this⟩
theorem headerOf_8 (q : Pkt) (w : World) (hk : q.kind = 8) (h : q.Lies w w.heap.size) (hS : q.Small) :
    Calls Tryz.prog 8 #[.agg q.cells] w fun e w' => e = .returned (.tuple #[.agg (hdrA (11) 205 (12 + blosLen q.blocks.l)), .bool true]) ∧ Below w.heap.size w w' :=
  headerOf_true q _ _ _ w fun w1 g0 g1 h0 h1 hne hb0 hb1 hB => headerClo_CCFeedbackReport q g0 g1 w.heap.size _ _ _ w1 h0 h1 hne hb0 hb1 fun w' hw' => hdrK_8 q w' hk ((h.below (hB.trans hw')).more (hB.trans hw').size) hS
theorem hdrK_9 (q : Pkt) (w : World) (hk : q.kind = 9) (h : q.Lies w w.heap.size) (hS : q.Small) :
    Calls Tryz.prog 22 #[.agg q.cells] w fun e w' => ∃ g, e = .returned (.iface 91 (.pointer (some ⟨g, 0, none⟩))) ∧ Below w.heap.size w w' ∧ Calls Tryz.prog 31 #[.pointer (some ⟨g, 0, none⟩)] w' fun e w3 => e = .returned (.agg (hdrA (1) 206 (12))) ∧ Below w'.heap.size w' w3 :=
  (built_9 q w hk).mono fun e w' ⟨g, he, hb, _, hB⟩ => ⟨g, he, hB, plihdr_any g w' _ _ _ hb⟩
theorem headerOf_9 (q : Pkt) (w : World) (hk : q.kind = 9) (h : q.Lies w w.heap.size) (hS : q.Small) :
    Calls Tryz.prog 8 #[.agg q.cells] w fun e w' => e = .returned (.tuple #[.agg (hdrA (1) 206 (12)), .bool true]) ∧ Below w.heap.size w w' :=
  headerOf_true q _ _ _ w fun w1 g0 g1 h0 h1 hne hb0 hb1 hB => headerClo_PictureLossIndication q g0 g1 w.heap.size _ _ _ w1 h0 h1 hne hb0 hb1 fun w' hw' => hdrK_9 q w' hk ((h.below (hB.trans hw')).more (hB.trans hw').size) hS
theorem hdrK_10 (q : Pkt) (w : World) (hk : q.kind = 10) (h : q.Lies w w.heap.size) (hS : q.Small) :
    Calls Tryz.prog 22 #[.agg q.cells] w fun e w' => ∃ g, e = .returned (.iface 92 (.pointer (some ⟨g, 0, none⟩))) ∧ Below w.heap.size w w' ∧ Calls Tryz.prog 32 #[.pointer (some ⟨g, 0, none⟩)] w' fun e w3 => e = .returned (.agg (hdrA (2) 206 (12 + 4 * q.slices.l.length))) ∧ Below w'.heap.size w' w3 :=
  (builtL_10 q w hk h.slices hS.slices1).mono fun e w' ⟨g, v, he, hb, _, hown, hB⟩ => ⟨g, he, hB, by
    obtain ⟨A, c, rfl⟩ := own_form hown
    exact slihdr_any g w' _ A _ c _ _ hb hS.short.slices⟩
theorem headerOf_10 (q : Pkt) (w : World) (hk : q.kind = 10) (h : q.Lies w w.heap.size) (hS : q.Small) :
    Calls Tryz.prog 8 #[.agg q.cells] w fun e w' => e = .returned (.tuple #[.agg (hdrA (2) 206 (12 + 4 * q.slices.l.length)), .bool true]) ∧ Below w.heap.size w w' :=
  headerOf_true q _ _ _ w fun w1 g0 g1 h0 h1 hne hb0 hb1 hB => headerClo_SliceLossIndication q g0 g1 w.heap.size _ _ _ w1 h0 h1 hne hb0 hb1 fun w' hw' => hdrK_10 q w' hk ((h.below (hB.trans hw')).more (hB.trans hw').size) hS
theorem hdrK_11 (q : Pkt) (w : World) (hk : q.kind = 11) (h : q.Lies w w.heap.size) (hS : q.Small) :
    Calls Tryz.prog 22 #[.agg q.cells] w fun e w' => ∃ g, e = .returned (.iface 93 (.pointer (some ⟨g, 0, none⟩))) ∧ Below w.heap.size w w' ∧ Calls Tryz.prog 33 #[.pointer (some ⟨g, 0, none⟩)] w' fun e w3 => e = .returned (.agg (hdrA (4) 206 (12 + 8 * q.entries.l.length))) ∧ Below w'.heap.size w' w3 :=
  (builtL_11 q w hk h.entries hS.entries1).mono fun e w' ⟨g, v, he, hb, _, hown, hB⟩ => ⟨g, he, hB, by
    obtain ⟨A, c, rfl⟩ := own_form hown
    exact firhdr_any g w' _ A _ c _ _ hb hS.short.entries⟩
theorem headerOf_11 (q : Pkt) (w : World) (hk : q.kind = 11) (h : q.Lies w w.heap.size) (hS : q.Small) :
    Calls Tryz.prog 8 #[.agg q.cells] w fun e w' => e = .returned (.tuple #[.agg (hdrA (4) 206 (12 + 8 * q.entries.l.length)), .bool true]) ∧ Below w.heap.size w w' :=
  headerOf_true q _ _ _ w fun w1 g0 g1 h0 h1 hne hb0 hb1 hB => headerClo_FullIntraRequest q g0 g1 w.heap.size _ _ _ w1 h0 h1 hne hb0 hb1 fun w' hw' => hdrK_11 q w' hk ((h.below (hB.trans hw')).more (hB.trans hw').size) hS
theorem hdrK_12 (q : Pkt) (w : World) (hk : q.kind = 12) (h : q.Lies w w.heap.size) (hS : q.Small) :
    Calls Tryz.prog 22 #[.agg q.cells] w fun e w' => ∃ g, e = .returned (.iface 94 (.pointer (some ⟨g, 0, none⟩))) ∧ Below w.heap.size w w' ∧ Calls Tryz.prog 34 #[.pointer (some ⟨g, 0, none⟩)] w' fun e w3 => e = .returned (.agg (hdrA (15) 206 (20 + 4 * q.sources.l.length))) ∧ Below w'.heap.size w' w3 :=
  (built_12 q w hk h.sources hS.short.sources).mono fun e w' ⟨g, v1, c1, he, hb, _, ho1, hB⟩ => ⟨g, he, hB, rembhdr_any g w' _ v1 q.sources.l.length c1 _ _ rfl rfl hb hS.short.sources⟩
theorem headerOf_12 (q : Pkt) (w : World) (hk : q.kind = 12) (h : q.Lies w w.heap.size) (hS : q.Small) :
    Calls Tryz.prog 8 #[.agg q.cells] w fun e w' => e = .returned (.tuple #[.agg (hdrA (15) 206 (20 + 4 * q.sources.l.length)), .bool true]) ∧ Below w.heap.size w w' :=
  headerOf_true q _ _ _ w fun w1 g0 g1 h0 h1 hne hb0 hb1 hB => headerClo_ReceiverEstimatedMaximumBitrate q g0 g1 w.heap.size _ _ _ w1 h0 h1 hne hb0 hb1 fun w' hw' => hdrK_12 q w' hk ((h.below (hB.trans hw')).more (hB.trans hw').size) hS
theorem headerOf_5 (q : Pkt) (w : World) (hk : q.kind = 5) (h : q.Lies w w.heap.size) (hS : q.Small) :
    Calls Tryz.prog 8 #[.agg q.cells] w fun e w' => e = .returned (.tuple #[.agg hdrZ, .bool false]) ∧ Below w.heap.size w w' :=
  headerOf_false q w fun w1 g0 g1 h0 h1 hne hb0 hb1 hB => headerClo_App q g0 g1 w.heap.size w1 h0 h1 hne hb0 hb1 fun w' hw' => by
    have hx := hB.trans hw'
    exact (built_5 q w' hk ((h.data.below hx).more hx.size) hS.short.data).mono fun e w2 ⟨g, v1, c1, he, hb, _, ho1, hB⟩ => ⟨g, he, hB⟩
end Go.Proofs.YtmmfpgoodfgkbaaGreatDoor
