/-
  THE WALK of the law's look at a packet, for every kind that can be written. Condition: the packet's slices read as lists; the numbers fit their kinds; no part is too long.
-/
import Derived.Test.YtmmfpgoodfgkbaaGreatLens
import Derived.Test.YtmmfpgoodfgkbaaGreatLegalAny
import Derived.Test.YtmmfpgoodfgkbaaGreatCompact
import Derived.Test.YtmmfpgoodfgkbaaGreatForms
import Derived.Test.YtmmfpgoodfgkbaaGreatForms12
namespace Go.Proofs.YtmmfpgoodfgkbaaGreat
open Go Go.RowKit
set_option linter.unusedVariables false

theorem legalA_1 (p : Pkt) (w : World) (hk : p.kind = 1) (h : p.Lies w w.heap.size) (hO : p.Ok3) (hS : p.Small) :
    Calls Tryz.prog 8 #[.agg p.cells] w (Legal w p (⟨p.kind, p.sender, 0, p.ntp, p.rtp, p.packets, p.octets, p.reports, p.ext, Sl.nil, Sl.nil, ByteArray.empty, 0, Sl.nil, Sl.nil, Sl.nil, Sl.nil, 0, Sl.nil, 0, 0, 0, 0, 0, Sl.nil, Sl.nil, false, 0, 0, 0⟩ : Pkt) (((p.reports.l.length : Nat) : Int) % 32) 200 (be32 p.sender ++ be32 (p.ntp / 4294967296) ++ be32 (p.ntp % 4294967296) ++ be32 p.rtp ++ be32 p.packets ++ be32 p.octets ++ repsB p.reports.l ++ p.ext.l) ((decide (((p.reports.l.length : Nat) : Int) ≤ 31) && p.reports.l.all repOk) && (((p.ext.l.length : Nat) : Int).tmod 4 == 0))) :=
  legal_any p _ w (((p.reports.l.length : Nat) : Int) % 32) 200 _ _ (fun w' hw => formatOne_any p w' 1 (((p.reports.l.length : Nat) : Int) % 32) 200 _ _ (by rw [hk]; rfl) (by decide) (by decide) (by omega) (by omega) (by have h1 := repsB_le p.reports.l; have h2 := hS.short.reports; have h3 := hS.short.ext; simp only [List.length_append, be32_len]; omega) fun w'' hw2 => by
      have hw' : Below w.heap.size w w'' := hw.trans (hw2.mono hw.size)
      exact form_1 p w'' hk hO.ok2.s0 hO.ok2.s1 hO.ok2.m0 hO.ok2.m1 ((h.reports.below hw').more hw'.size) hS.short.reports hO.reports ((h.ext.below hw').more hw'.size) hS.short.ext hO.ntp.1 hO.ntp.2 hO.rtp hO.packets hO.octets)
    (fun w' hw => compact_1 p w' hk)

theorem legalA_2 (p : Pkt) (w : World) (hk : p.kind = 2) (h : p.Lies w w.heap.size) (hO : p.Ok3) (hS : p.Small) :
    Calls Tryz.prog 8 #[.agg p.cells] w (Legal w p (⟨p.kind, p.sender, 0, 0, 0, 0, 0, p.reports, p.ext, Sl.nil, Sl.nil, ByteArray.empty, 0, Sl.nil, Sl.nil, Sl.nil, Sl.nil, 0, Sl.nil, 0, 0, 0, 0, 0, Sl.nil, Sl.nil, false, 0, 0, 0⟩ : Pkt) (((p.reports.l.length : Nat) : Int) % 32) 201 (be32 p.sender ++ repsB p.reports.l ++ p.ext.l) ((decide (((p.reports.l.length : Nat) : Int) ≤ 31) && p.reports.l.all repOk) && (((p.ext.l.length : Nat) : Int).tmod 4 == 0))) :=
  legal_any p _ w (((p.reports.l.length : Nat) : Int) % 32) 201 _ _ (fun w' hw => formatOne_any p w' 2 (((p.reports.l.length : Nat) : Int) % 32) 201 _ _ (by rw [hk]; rfl) (by decide) (by decide) (by omega) (by omega) (by have h1 := repsB_le p.reports.l; have h2 := hS.short.reports; have h3 := hS.short.ext; simp only [List.length_append, be32_len]; omega) fun w'' hw2 => by
      have hw' : Below w.heap.size w w'' := hw.trans (hw2.mono hw.size)
      exact form_2 p w'' hk hO.ok2.s0 hO.ok2.s1 hO.ok2.m0 hO.ok2.m1 ((h.reports.below hw').more hw'.size) hS.short.reports hO.reports ((h.ext.below hw').more hw'.size) hS.short.ext)
    (fun w' hw => compact_2 p w' hk)

theorem legalA_3 (p : Pkt) (w : World) (hk : p.kind = 3) (h : p.Lies w w.heap.size) (hO : p.Ok3) (hS : p.Small) :
    Calls Tryz.prog 8 #[.agg p.cells] w (Legal w p (⟨p.kind, 0, 0, 0, 0, 0, 0, Sl.nil, Sl.nil, p.chunks, Sl.nil, ByteArray.empty, 0, Sl.nil, Sl.nil, Sl.nil, Sl.nil, 0, Sl.nil, 0, 0, 0, 0, 0, Sl.nil, Sl.nil, false, 0, 0, 0⟩ : Pkt) (((p.chunks.l.length : Nat) : Int) % 32) 202 (chunksB p.chunks.l) (decide (((p.chunks.l.length : Nat) : Int) ≤ 31) && p.chunks.l.all chunkOk)) :=
  legal_any p _ w (((p.chunks.l.length : Nat) : Int) % 32) 202 _ _ (fun w' hw => formatOne_any p w' 3 (((p.chunks.l.length : Nat) : Int) % 32) 202 _ _ (by rw [hk]; rfl) (by decide) (by decide) (by omega) (by omega) (by rw [chunksB_len]; have := hS.chunksL; omega) fun w'' hw2 => by
      have hw' : Below w.heap.size w w'' := hw.trans (hw2.mono hw.size)
      exact form_3 p w'' hk hO.ok2.s0 hO.ok2.s1 hO.ok2.m0 hO.ok2.m1 ((h.chunks.below hw').more hw'.size) hS.short.chunks (fun x hx => ((h.items x hx).below hw').more hw'.size) (fun x hx => ⟨(hO.chunks x hx).1, (hO.chunks x hx).2.1, hS.short.items x hx, fun i hi => hS.texts x hx i hi⟩) (by rw [chunksB_len]; have := hS.chunksL; omega))
    (fun w' hw => compact_3 p w' hk)

theorem legalA_4 (p : Pkt) (w : World) (hk : p.kind = 4) (h : p.Lies w w.heap.size) (hO : p.Ok3) (hS : p.Small) :
    Calls Tryz.prog 8 #[.agg p.cells] w (Legal w p (⟨p.kind, 0, 0, 0, 0, 0, 0, Sl.nil, Sl.nil, Sl.nil, p.sources, p.text, 0, Sl.nil, Sl.nil, Sl.nil, Sl.nil, 0, Sl.nil, 0, 0, 0, 0, 0, Sl.nil, Sl.nil, false, 0, 0, 0⟩ : Pkt) (((p.sources.l.length % 32 : Nat) : Int)) 203 (byeB p.sources.l p.text) (decide ((p.sources.l.length : Int) ≤ 31) && decide ((p.text.size : Int) ≤ 255))) :=
  legal_any p _ w (((p.sources.l.length % 32 : Nat) : Int)) 203 _ _ (fun w' hw => formatOne_any p w' 4 (((p.sources.l.length % 32 : Nat) : Int)) 203 _ _ (by rw [hk]; rfl) (by decide) (by decide) (by omega) (by omega) (by have h1 := byeB_len p.sources.l p.text; have h2 := hS.short.sources; have h3 := hS.text; have h4 := pad4_le (byeLen p.sources.l.length p.text.size); have h5 : byeLen p.sources.l.length p.text.size ≤ 4 + 4 * p.sources.l.length + p.text.size + 1 := (by unfold byeLen; split <;> omega); omega) fun w'' hw2 => by
      have hw' : Below w.heap.size w w'' := hw.trans (hw2.mono hw.size)
      exact form_4 p w'' hk hO.ok2.s0 hO.ok2.s1 hO.ok2.m0 hO.ok2.m1 ((h.sources.below hw').more hw'.size) hS.short.sources hO.sources hS.text)
    (fun w' hw => compact_4 p w' hk)

theorem legalA_5 (p : Pkt) (w : World) (hk : p.kind = 5) (h : p.Lies w w.heap.size) (hO : p.Ok3) (hS : p.Small) :
    Calls Tryz.prog 8 #[.agg p.cells] w (Legal w p (⟨p.kind, p.sender, 0, 0, 0, 0, 0, Sl.nil, Sl.nil, Sl.nil, Sl.nil, p.text, p.sub, p.data, Sl.nil, Sl.nil, Sl.nil, 0, Sl.nil, 0, 0, 0, 0, 0, Sl.nil, Sl.nil, false, 0, 0, 0⟩ : Pkt) (p.sub % 32) 204 (be32 p.sender ++ sb p.text ++ p.data.l) (((decide ((p.sub : Int) ≤ 31) && ((p.text.size : Int) == 4)) && (((p.data.l.length : Nat) : Int).tmod 4 == 0)) && decide (((p.data.l.length : Nat) : Int) ≤ 65520))) :=
  legal_any p _ w (p.sub % 32) 204 _ _ (fun w' hw => formatOne_any p w' 5 (p.sub % 32) 204 _ _ (by rw [hk]; rfl) (by decide) (by decide) (by have := hO.sub; omega) (by have := hO.sub; omega) (by have h2 := hS.short.data; have h3 := hS.text; simp only [List.length_append, be32_len, sb_len]; omega) fun w'' hw2 => by
      have hw' : Below w.heap.size w w'' := hw.trans (hw2.mono hw.size)
      exact form_5 p w'' hk hO.ok2.s0 hO.ok2.s1 hO.ok2.m0 hO.ok2.m1 hO.sub.1 hO.sub.2 ((h.data.below hw').more hw'.size) hS.short.data hS.text)
    (fun w' hw => compact_5 p w' hk)

theorem legalA_6 (p : Pkt) (w : World) (hk : p.kind = 6) (h : p.Lies w w.heap.size) (hO : p.Ok3) (hS : p.Small) :
    Calls Tryz.prog 8 #[.agg p.cells] w (Legal w p (⟨p.kind, p.sender, p.media, 0, 0, 0, 0, Sl.nil, Sl.nil, Sl.nil, Sl.nil, ByteArray.empty, 0, Sl.nil, p.pairs, Sl.nil, Sl.nil, 0, Sl.nil, 0, 0, 0, 0, 0, Sl.nil, Sl.nil, false, 0, 0, 0⟩ : Pkt) (1) 205 (be32 p.sender ++ be32 p.media ++ pairsB p.pairs.l) (decide (0 < p.pairs.l.length) && decide (((p.pairs.l.length : Nat) : Int) ≤ 253))) :=
  legal_any p _ w (1) 205 _ _ (fun w' hw => formatOne_any p w' 6 (1) 205 _ _ (by rw [hk]; rfl) (by decide) (by decide) (by decide) (by decide) (by have h2 := hS.short.pairs; simp only [List.length_append, be32_len, pairsB_len]; omega) fun w'' hw2 => by
      have hw' : Below w.heap.size w w'' := hw.trans (hw2.mono hw.size)
      exact form_6 p w'' hk hO.ok2.s0 hO.ok2.s1 hO.ok2.m0 hO.ok2.m1 ((h.pairs.below hw').more hw'.size) hS.short.pairs hO.ok2.pairs)
    (fun w' hw => compact_6 p w' hk)

theorem legalA_7 (p : Pkt) (w : World) (hk : p.kind = 7) (h : p.Lies w w.heap.size) (hO : p.Ok3) (hS : p.Small) :
    Calls Tryz.prog 8 #[.agg p.cells] w (Legal w p (⟨p.kind, p.sender, p.media, 0, 0, 0, 0, Sl.nil, Sl.nil, Sl.nil, Sl.nil, ByteArray.empty, 0, Sl.nil, Sl.nil, Sl.nil, Sl.nil, 0, Sl.nil, 0, 0, 0, 0, 0, Sl.nil, Sl.nil, false, 0, 0, 0⟩ : Pkt) (5) 205 (be32 p.sender ++ be32 p.media) true) :=
  legal_any p _ w (5) 205 _ _ (fun w' hw => formatOne_any p w' 7 (5) 205 _ _ (by rw [hk]; rfl) (by decide) (by decide) (by decide) (by decide) (by simp [be32_len]) fun w'' hw2 => by
      have hw' : Below w.heap.size w w'' := hw.trans (hw2.mono hw.size)
      exact form_7 p w'' hk hO.ok2.s0 hO.ok2.s1 hO.ok2.m0 hO.ok2.m1 )
    (fun w' hw => compact_7 p w' hk)

theorem legalA_8 (p : Pkt) (w : World) (hk : p.kind = 8) (h : p.Lies w w.heap.size) (hO : p.Ok3) (hS : p.Small) :
    Calls Tryz.prog 8 #[.agg p.cells] w (Legal w p (⟨p.kind, p.sender, 0, 0, 0, 0, 0, Sl.nil, Sl.nil, Sl.nil, Sl.nil, ByteArray.empty, 0, Sl.nil, Sl.nil, Sl.nil, Sl.nil, 0, p.blocks, p.time, 0, 0, 0, 0, Sl.nil, Sl.nil, false, 0, 0, 0⟩ : Pkt) (11) 205 (blosB (be32 p.sender) p.blocks.l ++ be32 p.time) (decide (0 < p.blocks.l.length) && p.blocks.l.all bloOk)) :=
  legal_any p _ w (11) 205 _ _ (fun w' hw => formatOne_any p w' 8 (11) 205 _ _ (by rw [hk]; rfl) (by decide) (by decide) (by decide) (by decide) (by rw [List.length_append, blosB_len _ _ (by rw [be32_len])]; have := hS.blosL; simp only [be32_len]; omega) fun w'' hw2 => by
      have hw' : Below w.heap.size w w'' := hw.trans (hw2.mono hw.size)
      exact form_8 p w'' hk hO.ok2.s0 hO.ok2.s1 hO.ok2.m0 hO.ok2.m1 hO.time.1 hO.time.2 ((h.blocks.below hw').more hw'.size) hS.short.blocks (fun x hx => ((h.mets x hx).below hw').more hw'.size) (fun x hx => ⟨(hO.blocks x hx).1, (hO.blocks x hx).2.1, (hO.blocks x hx).2.2.1, (hO.blocks x hx).2.2.2.1, hS.short.mets x hx, (hO.blocks x hx).2.2.2.2⟩) (by rw [blosB_len _ _ (by rw [be32_len])]; have := hS.blosL; rw [be32_len]; omega))
    (fun w' hw => compact_8 p w' hk)

theorem legalA_9 (p : Pkt) (w : World) (hk : p.kind = 9) (h : p.Lies w w.heap.size) (hO : p.Ok3) (hS : p.Small) :
    Calls Tryz.prog 8 #[.agg p.cells] w (Legal w p (⟨p.kind, p.sender, p.media, 0, 0, 0, 0, Sl.nil, Sl.nil, Sl.nil, Sl.nil, ByteArray.empty, 0, Sl.nil, Sl.nil, Sl.nil, Sl.nil, 0, Sl.nil, 0, 0, 0, 0, 0, Sl.nil, Sl.nil, false, 0, 0, 0⟩ : Pkt) (1) 206 (be32 p.sender ++ be32 p.media) true) :=
  legal_any p _ w (1) 206 _ _ (fun w' hw => formatOne_any p w' 9 (1) 206 _ _ (by rw [hk]; rfl) (by decide) (by decide) (by decide) (by decide) (by simp [be32_len]) fun w'' hw2 => by
      have hw' : Below w.heap.size w w'' := hw.trans (hw2.mono hw.size)
      exact form_9 p w'' hk hO.ok2.s0 hO.ok2.s1 hO.ok2.m0 hO.ok2.m1 )
    (fun w' hw => compact_9 p w' hk)

theorem legalA_10 (p : Pkt) (w : World) (hk : p.kind = 10) (h : p.Lies w w.heap.size) (hO : p.Ok3) (hS : p.Small) :
    Calls Tryz.prog 8 #[.agg p.cells] w (Legal w p (⟨p.kind, p.sender, p.media, 0, 0, 0, 0, Sl.nil, Sl.nil, Sl.nil, Sl.nil, ByteArray.empty, 0, Sl.nil, Sl.nil, p.slices, Sl.nil, 0, Sl.nil, 0, 0, 0, 0, 0, Sl.nil, Sl.nil, false, 0, 0, 0⟩ : Pkt) (2) 206 (be32 p.sender ++ be32 p.media ++ slcsB p.slices.l) ((decide (0 < p.slices.l.length) && decide (((p.slices.l.length : Nat) : Int) ≤ 253)) && p.slices.l.all slcOk)) :=
  legal_any p _ w (2) 206 _ _ (fun w' hw => formatOne_any p w' 10 (2) 206 _ _ (by rw [hk]; rfl) (by decide) (by decide) (by decide) (by decide) (by have h2 := hS.short.slices; simp only [List.length_append, be32_len, slcsB_len]; omega) fun w'' hw2 => by
      have hw' : Below w.heap.size w w'' := hw.trans (hw2.mono hw.size)
      exact form_10 p w'' hk hO.ok2.s0 hO.ok2.s1 hO.ok2.m0 hO.ok2.m1 ((h.slices.below hw').more hw'.size) hS.short.slices hO.ok2.slices)
    (fun w' hw => compact_10 p w' hk)

theorem legalA_11 (p : Pkt) (w : World) (hk : p.kind = 11) (h : p.Lies w w.heap.size) (hO : p.Ok3) (hS : p.Small) :
    Calls Tryz.prog 8 #[.agg p.cells] w (Legal w p (⟨p.kind, p.sender, p.media, 0, 0, 0, 0, Sl.nil, Sl.nil, Sl.nil, Sl.nil, ByteArray.empty, 0, Sl.nil, Sl.nil, Sl.nil, p.entries, 0, Sl.nil, 0, 0, 0, 0, 0, Sl.nil, Sl.nil, false, 0, 0, 0⟩ : Pkt) (4) 206 (be32 p.sender ++ be32 p.media ++ entsB p.entries.l) (decide (0 < p.entries.l.length))) :=
  legal_any p _ w (4) 206 _ _ (fun w' hw => formatOne_any p w' 11 (4) 206 _ _ (by rw [hk]; rfl) (by decide) (by decide) (by decide) (by decide) (by have h2 := hS.short.entries; simp only [List.length_append, be32_len, entsB_len]; omega) fun w'' hw2 => by
      have hw' : Below w.heap.size w w'' := hw.trans (hw2.mono hw.size)
      exact form_11 p w'' hk hO.ok2.s0 hO.ok2.s1 hO.ok2.m0 hO.ok2.m1 ((h.entries.below hw').more hw'.size) hS.short.entries (fun x hx => ⟨(hO.entries x hx).1, (hO.entries x hx).2.1⟩))
    (fun w' hw => compact_11 p w' hk)

theorem legalA_12 (p : Pkt) (w : World) (hk : p.kind = 12) (h : p.Lies w w.heap.size) (hO : p.Ok3) (hS : p.Small) :
    Calls Tryz.prog 8 #[.agg p.cells] w (Legal w p (⟨p.kind, p.sender, 0, 0, 0, 0, 0, Sl.nil, Sl.nil, Sl.nil, p.sources, ByteArray.empty, 0, Sl.nil, Sl.nil, Sl.nil, Sl.nil, p.bits, Sl.nil, 0, 0, 0, 0, 0, Sl.nil, Sl.nil, false, 0, 0, 0⟩ : Pkt) (15) 206 (be32 p.sender ++ be32 0 ++ [82, 69, 77, 66, (p.sources.l.length : Int) % 256, mantV p.bits.toNat / 65536 % 256, mantV p.bits.toNat / 256 % 256, mantV p.bits.toNat % 256] ++ p.sources.l.flatMap be32) (mantF p.bits.toNat && decide (((p.sources.l.length : Nat) : Int) ≤ 255))) :=
  legal_any p _ w (15) 206 _ _ (fun w' hw => formatOne_any p w' 12 (15) 206 _ _ (by rw [hk]; rfl) (by decide) (by decide) (by decide) (by decide) (by have h2 := hS.short.sources; simp only [List.length_append, be32_len, be32s_len, List.length_cons, List.length_nil]; omega) fun w'' hw2 => by
      have hw' : Below w.heap.size w w'' := hw.trans (hw2.mono hw.size)
      exact form_12 p w'' hk hO.ok2.s0 hO.ok2.s1 hO.ok2.m0 hO.ok2.m1 hO.bits.1 hO.bits.2 ((h.sources.below hw').more hw'.size) hS.short.sources hO.sources)
    (fun w' hw => compact_12 p w' hk)

end Go.Proofs.YtmmfpgoodfgkbaaGreat
