/-
  The law on the header of a packet returns true, kind by kind. Condition: the packet's slices read as lists; the numbers fit their kinds; no part is too long.
-/
import Derived.Test.YtmmfpgoodfgkbaaGreatDoorLawH
import Derived.Test.YtmmfpgoodfgkbaaGreatDoorLegalA
import Derived.Test.YtmmfpgoodfgkbaaGreatDoorForms
namespace Go.Proofs.YtmmfpgoodfgkbaaGreatDoor
open Go Go.RowKit
set_option linter.unusedVariables false

theorem all_chunks {l2 l : List Chunk} (h : l2.map Chunk.bare = l.map Chunk.bare) (P : List Item → Prop) (hp : ∀ x ∈ l, P x.items.l) : ∀ x ∈ l2, P x.items.l := fun x hx => by
  have hm : x.bare ∈ l.map Chunk.bare := h ▸ List.mem_map_of_mem hx
  obtain ⟨y, hy, hb⟩ := List.mem_map.1 hm
  have e2 : y.items.l = x.items.l := congrArg Prod.snd hb
  exact e2 ▸ hp y hy
theorem Pkt.Small.same {p q : Pkt} (h : Pkt.Same p q) (hs : p.Small) : q.Small := by
  obtain ⟨c1, c2, c3⟩ := bare_chunks h.chunks
  obtain ⟨b1, b2, b3⟩ := bare_blos h.blocks
  exact ⟨⟨by rw [h.reports]; exact hs.short.reports, by rw [h.ext]; exact hs.short.ext, by rw [c1]; exact hs.short.chunks, by rw [h.sources]; exact hs.short.sources, by rw [h.data]; exact hs.short.data, by rw [h.pairs]; exact hs.short.pairs, by rw [h.slices]; exact hs.short.slices, by rw [h.entries]; exact hs.short.entries, by rw [b1]; exact hs.short.blocks, c3 _ hs.short.items, b3 _ hs.short.mets⟩,
    by rw [h.text]; exact hs.text, all_chunks h.chunks (fun l => ∀ i ∈ l, i.text.size ≤ 2147483647) hs.texts, by rw [c2]; exact hs.chunksL, by rw [b2]; exact hs.blosL, by rw [h.pairs]; exact hs.pairs1, by rw [h.slices]; exact hs.slices1, by rw [h.entries]; exact hs.entries1⟩
theorem tmod4 {n : Nat} (h : (((n : Nat) : Int).tmod 4 == 0) = true) : n % 4 = 0 := by
  have h5 : ((n : Nat) : Int).tmod 4 = 0 := by simpa using h
  rw [Int.tmod_eq_emod_of_nonneg (by omega)] at h5
  omega

theorem lawH_1 (p : Pkt) (w : World) (hk : p.kind = 1) (h : p.Lies w w.heap.size) (hO : p.Ok3) (hS : p.Small) :
    Calls Tryz.prog 3 #[.agg p.cells] w fun e w' => e = .returned (.bool true) ∧ Below w.heap.size w w' :=
  law_kind p (⟨p.kind, p.sender, 0, p.ntp, p.rtp, p.packets, p.octets, p.reports, p.ext, Sl.nil, Sl.nil, ByteArray.empty, 0, Sl.nil, Sl.nil, Sl.nil, Sl.nil, 0, Sl.nil, 0, 0, 0, 0, 0, Sl.nil, Sl.nil, false, 0, 0, 0⟩ : Pkt) (((p.reports.l.length : Nat) : Int) % 32) 200 (be32 p.sender ++ be32 (p.ntp / 4294967296) ++ be32 (p.ntp % 4294967296) ++ be32 p.rtp ++ be32 p.packets ++ be32 p.octets ++ repsB p.reports.l ++ p.ext.l) ((decide (((p.reports.l.length : Nat) : Int) ≤ 31) && p.reports.l.all repOk) && (((p.ext.l.length : Nat) : Int).tmod 4 == 0)) w h ⟨h.reports, h.ext, Reads.none_, (fun x hx => by cases hx), Reads.none_, Reads.none_, Reads.none_, Reads.none_, Reads.none_, Reads.none_, (fun x hx => by cases hx), Reads.none_, (fun x hx => by cases hx), Reads.none_⟩ ⟨hS.short.reports, hS.short.ext, (Nat.zero_le _), (Nat.zero_le _), (Nat.zero_le _), (Nat.zero_le _), (Nat.zero_le _), (Nat.zero_le _), (Nat.zero_le _), (Nat.zero_le _), (Nat.zero_le _), (fun x hx => by cases hx), (fun x hx => by cases hx)⟩ (show (p.kind == 0) = false by rw [hk]; rfl) (by omega) (by omega) (by decide) (fun w' hw => legalA_1 p w' hk ((h.below hw).more hw.size) hO hS) fun hok q w' hsame hql => by
    have hsm : q.Small := Pkt.Small.same hsame ⟨⟨hS.short.reports, hS.short.ext, (Nat.zero_le _), (Nat.zero_le _), (Nat.zero_le _), (Nat.zero_le _), (Nat.zero_le _), (Nat.zero_le _), (Nat.zero_le _), (fun x hx => by cases hx), (fun x hx => by cases hx)⟩, (Nat.zero_le _), (fun x hx => by cases hx), (Nat.zero_le _), (Nat.zero_le _), (Nat.zero_le _), (Nat.zero_le _), (Nat.zero_le _)⟩
    have hh := headerOf_1 q w' (hsame.kind.trans hk) hql hsm
    simp only [Bool.and_eq_true, decide_eq_true_eq] at hok
    obtain ⟨⟨h31, hrep⟩, hx4⟩ := hok
    have h4 := tmod4 hx4
    have hr := repsB_len _ hrep
    have hl : q.reports.l.length = p.reports.l.length := congrArg List.length hsame.reports
    have he : q.ext.l.length = p.ext.l.length := by rw [hsame.ext]
    have e1 : (q.reports.l.length : Int) % 256 = ((p.reports.l.length : Nat) : Int) % 32 := by rw [hl]; omega
    have e2 : 28 + 24 * q.reports.l.length + q.ext.l.length + pad4 q.ext.l.length = 4 + (be32 p.sender ++ be32 (p.ntp / 4294967296) ++ be32 (p.ntp % 4294967296) ++ be32 p.rtp ++ be32 p.packets ++ be32 p.octets ++ repsB p.reports.l ++ p.ext.l).length := by rw [hl, he]; simp only [List.length_append, be32_len, hr]; unfold pad4; omega
    rw [e1, e2] at hh
    exact hh

theorem lawH_2 (p : Pkt) (w : World) (hk : p.kind = 2) (h : p.Lies w w.heap.size) (hO : p.Ok3) (hS : p.Small) :
    Calls Tryz.prog 3 #[.agg p.cells] w fun e w' => e = .returned (.bool true) ∧ Below w.heap.size w w' :=
  law_kind p (⟨p.kind, p.sender, 0, 0, 0, 0, 0, p.reports, p.ext, Sl.nil, Sl.nil, ByteArray.empty, 0, Sl.nil, Sl.nil, Sl.nil, Sl.nil, 0, Sl.nil, 0, 0, 0, 0, 0, Sl.nil, Sl.nil, false, 0, 0, 0⟩ : Pkt) (((p.reports.l.length : Nat) : Int) % 32) 201 (be32 p.sender ++ repsB p.reports.l ++ p.ext.l) ((decide (((p.reports.l.length : Nat) : Int) ≤ 31) && p.reports.l.all repOk) && (((p.ext.l.length : Nat) : Int).tmod 4 == 0)) w h ⟨h.reports, h.ext, Reads.none_, (fun x hx => by cases hx), Reads.none_, Reads.none_, Reads.none_, Reads.none_, Reads.none_, Reads.none_, (fun x hx => by cases hx), Reads.none_, (fun x hx => by cases hx), Reads.none_⟩ ⟨hS.short.reports, hS.short.ext, (Nat.zero_le _), (Nat.zero_le _), (Nat.zero_le _), (Nat.zero_le _), (Nat.zero_le _), (Nat.zero_le _), (Nat.zero_le _), (Nat.zero_le _), (Nat.zero_le _), (fun x hx => by cases hx), (fun x hx => by cases hx)⟩ (show (p.kind == 0) = false by rw [hk]; rfl) (by omega) (by omega) (by decide) (fun w' hw => legalA_2 p w' hk ((h.below hw).more hw.size) hO hS) fun hok q w' hsame hql => by
    have hsm : q.Small := Pkt.Small.same hsame ⟨⟨hS.short.reports, hS.short.ext, (Nat.zero_le _), (Nat.zero_le _), (Nat.zero_le _), (Nat.zero_le _), (Nat.zero_le _), (Nat.zero_le _), (Nat.zero_le _), (fun x hx => by cases hx), (fun x hx => by cases hx)⟩, (Nat.zero_le _), (fun x hx => by cases hx), (Nat.zero_le _), (Nat.zero_le _), (Nat.zero_le _), (Nat.zero_le _), (Nat.zero_le _)⟩
    have hh := headerOf_2 q w' (hsame.kind.trans hk) hql hsm
    simp only [Bool.and_eq_true, decide_eq_true_eq] at hok
    obtain ⟨⟨h31, hrep⟩, hx4⟩ := hok
    have h4 := tmod4 hx4
    have hr := repsB_len _ hrep
    have hl : q.reports.l.length = p.reports.l.length := congrArg List.length hsame.reports
    have he : q.ext.l.length = p.ext.l.length := by rw [hsame.ext]
    have e1 : (q.reports.l.length : Int) % 256 = ((p.reports.l.length : Nat) : Int) % 32 := by rw [hl]; omega
    have e2 : 8 + 24 * q.reports.l.length + q.ext.l.length + pad4 q.ext.l.length = 4 + (be32 p.sender ++ repsB p.reports.l ++ p.ext.l).length := by rw [hl, he]; simp only [List.length_append, be32_len, hr]; unfold pad4; omega
    rw [e1, e2] at hh
    exact hh

theorem lawH_3 (p : Pkt) (w : World) (hk : p.kind = 3) (h : p.Lies w w.heap.size) (hO : p.Ok3) (hS : p.Small) :
    Calls Tryz.prog 3 #[.agg p.cells] w fun e w' => e = .returned (.bool true) ∧ Below w.heap.size w w' :=
  law_kind p (⟨p.kind, 0, 0, 0, 0, 0, 0, Sl.nil, Sl.nil, p.chunks, Sl.nil, ByteArray.empty, 0, Sl.nil, Sl.nil, Sl.nil, Sl.nil, 0, Sl.nil, 0, 0, 0, 0, 0, Sl.nil, Sl.nil, false, 0, 0, 0⟩ : Pkt) (((p.chunks.l.length : Nat) : Int) % 32) 202 (chunksB p.chunks.l) (decide (((p.chunks.l.length : Nat) : Int) ≤ 31) && p.chunks.l.all chunkOk) w h ⟨Reads.none_, Reads.none_, h.chunks, h.items, Reads.none_, Reads.none_, Reads.none_, Reads.none_, Reads.none_, Reads.none_, (fun x hx => by cases hx), Reads.none_, (fun x hx => by cases hx), Reads.none_⟩ ⟨(Nat.zero_le _), (Nat.zero_le _), hS.short.chunks, (Nat.zero_le _), (Nat.zero_le _), (Nat.zero_le _), (Nat.zero_le _), (Nat.zero_le _), (Nat.zero_le _), (Nat.zero_le _), (Nat.zero_le _), hS.short.items, (fun x hx => by cases hx)⟩ (show (p.kind == 0) = false by rw [hk]; rfl) (by omega) (by omega) (by decide) (fun w' hw => legalA_3 p w' hk ((h.below hw).more hw.size) hO hS) fun hok q w' hsame hql => by
    have hsm : q.Small := Pkt.Small.same hsame ⟨⟨(Nat.zero_le _), (Nat.zero_le _), hS.short.chunks, (Nat.zero_le _), (Nat.zero_le _), (Nat.zero_le _), (Nat.zero_le _), (Nat.zero_le _), (Nat.zero_le _), hS.short.items, (fun x hx => by cases hx)⟩, (Nat.zero_le _), hS.texts, hS.chunksL, (Nat.zero_le _), (Nat.zero_le _), (Nat.zero_le _), (Nat.zero_le _)⟩
    have hh := headerOf_3 q w' (hsame.kind.trans hk) hql hsm
    simp only [Bool.and_eq_true, decide_eq_true_eq] at hok
    obtain ⟨h31, _⟩ := hok
    obtain ⟨hl, hc, _⟩ := bare_chunks hsame.chunks
    replace hl : q.chunks.l.length = p.chunks.l.length := hl
    replace hc : chunksLen q.chunks.l = chunksLen p.chunks.l := hc
    have e1 : (q.chunks.l.length : Int) % 256 = ((p.chunks.l.length : Nat) : Int) % 32 := by rw [hl]; omega
    have e2 : 4 + chunksLen q.chunks.l = 4 + (chunksB p.chunks.l).length := by rw [hc, chunksB_len]
    rw [e1, e2] at hh
    exact hh

theorem lawH_4 (p : Pkt) (w : World) (hk : p.kind = 4) (h : p.Lies w w.heap.size) (hO : p.Ok3) (hS : p.Small) :
    Calls Tryz.prog 3 #[.agg p.cells] w fun e w' => e = .returned (.bool true) ∧ Below w.heap.size w w' :=
  law_kind p (⟨p.kind, 0, 0, 0, 0, 0, 0, Sl.nil, Sl.nil, Sl.nil, p.sources, p.text, 0, Sl.nil, Sl.nil, Sl.nil, Sl.nil, 0, Sl.nil, 0, 0, 0, 0, 0, Sl.nil, Sl.nil, false, 0, 0, 0⟩ : Pkt) (((p.sources.l.length % 32 : Nat) : Int)) 203 (byeB p.sources.l p.text) (decide ((p.sources.l.length : Int) ≤ 31) && decide ((p.text.size : Int) ≤ 255)) w h ⟨Reads.none_, Reads.none_, Reads.none_, (fun x hx => by cases hx), h.sources, Reads.none_, Reads.none_, Reads.none_, Reads.none_, Reads.none_, (fun x hx => by cases hx), Reads.none_, (fun x hx => by cases hx), Reads.none_⟩ ⟨(Nat.zero_le _), (Nat.zero_le _), (Nat.zero_le _), hS.short.sources, (Nat.zero_le _), (Nat.zero_le _), (Nat.zero_le _), (Nat.zero_le _), (Nat.zero_le _), (Nat.zero_le _), (Nat.zero_le _), (fun x hx => by cases hx), (fun x hx => by cases hx)⟩ (show (p.kind == 0) = false by rw [hk]; rfl) (by omega) (by omega) (by decide) (fun w' hw => legalA_4 p w' hk ((h.below hw).more hw.size) hO hS) fun hok q w' hsame hql => by
    have hsm : q.Small := Pkt.Small.same hsame ⟨⟨(Nat.zero_le _), (Nat.zero_le _), (Nat.zero_le _), hS.short.sources, (Nat.zero_le _), (Nat.zero_le _), (Nat.zero_le _), (Nat.zero_le _), (Nat.zero_le _), (fun x hx => by cases hx), (fun x hx => by cases hx)⟩, hS.text, (fun x hx => by cases hx), (Nat.zero_le _), (Nat.zero_le _), (Nat.zero_le _), (Nat.zero_le _), (Nat.zero_le _)⟩
    have hh := headerOf_4 q w' (hsame.kind.trans hk) hql hsm
    simp only [Bool.and_eq_true, decide_eq_true_eq] at hok
    obtain ⟨h31, _⟩ := hok
    have hl : q.sources.l.length = p.sources.l.length := by rw [hsame.sources]
    have ht : q.text = p.text := hsame.text
    have hy := byeB_len p.sources.l p.text
    have e1 : (q.sources.l.length : Int) % 256 = ((p.sources.l.length % 32 : Nat) : Int) := by rw [hl]; omega
    have e2 : byeLen q.sources.l.length q.text.size + pad4 (byeLen q.sources.l.length q.text.size) = 4 + (byeB p.sources.l p.text).length := by rw [hl, ht]; omega
    rw [e1, e2] at hh
    exact hh

theorem lawH_5 (p : Pkt) (w : World) (hk : p.kind = 5) (h : p.Lies w w.heap.size) (hO : p.Ok3) (hS : p.Small) :
    Calls Tryz.prog 3 #[.agg p.cells] w fun e w' => e = .returned (.bool true) ∧ Below w.heap.size w w' :=
  law_app p (⟨p.kind, p.sender, 0, 0, 0, 0, 0, Sl.nil, Sl.nil, Sl.nil, Sl.nil, p.text, p.sub, p.data, Sl.nil, Sl.nil, Sl.nil, 0, Sl.nil, 0, 0, 0, 0, 0, Sl.nil, Sl.nil, false, 0, 0, 0⟩ : Pkt) (p.sub % 32) 204 (be32 p.sender ++ sb p.text ++ p.data.l) (((decide ((p.sub : Int) ≤ 31) && ((p.text.size : Int) == 4)) && (((p.data.l.length : Nat) : Int).tmod 4 == 0)) && decide (((p.data.l.length : Nat) : Int) ≤ 65520)) w h ⟨Reads.none_, Reads.none_, Reads.none_, (fun x hx => by cases hx), Reads.none_, h.data, Reads.none_, Reads.none_, Reads.none_, Reads.none_, (fun x hx => by cases hx), Reads.none_, (fun x hx => by cases hx), Reads.none_⟩ ⟨(Nat.zero_le _), (Nat.zero_le _), (Nat.zero_le _), (Nat.zero_le _), hS.short.data, (Nat.zero_le _), (Nat.zero_le _), (Nat.zero_le _), (Nat.zero_le _), (Nat.zero_le _), (Nat.zero_le _), (fun x hx => by cases hx), (fun x hx => by cases hx)⟩ (show (p.kind == 0) = false by rw [hk]; rfl) (by have := hO.sub; omega) (by have := hO.sub; omega) (by decide) (fun w' hw => legalA_5 p w' hk ((h.below hw).more hw.size) hO hS) fun hok q w' hsame hql => by
    have hsm : q.Small := Pkt.Small.same hsame ⟨⟨(Nat.zero_le _), (Nat.zero_le _), (Nat.zero_le _), (Nat.zero_le _), hS.short.data, (Nat.zero_le _), (Nat.zero_le _), (Nat.zero_le _), (Nat.zero_le _), (fun x hx => by cases hx), (fun x hx => by cases hx)⟩, hS.text, (fun x hx => by cases hx), (Nat.zero_le _), (Nat.zero_le _), (Nat.zero_le _), (Nat.zero_le _), (Nat.zero_le _)⟩
    have hh := headerOf_5 q w' (hsame.kind.trans hk) hql hsm
    exact hh

theorem lawH_6 (p : Pkt) (w : World) (hk : p.kind = 6) (h : p.Lies w w.heap.size) (hO : p.Ok3) (hS : p.Small) :
    Calls Tryz.prog 3 #[.agg p.cells] w fun e w' => e = .returned (.bool true) ∧ Below w.heap.size w w' :=
  law_kind p (⟨p.kind, p.sender, p.media, 0, 0, 0, 0, Sl.nil, Sl.nil, Sl.nil, Sl.nil, ByteArray.empty, 0, Sl.nil, p.pairs, Sl.nil, Sl.nil, 0, Sl.nil, 0, 0, 0, 0, 0, Sl.nil, Sl.nil, false, 0, 0, 0⟩ : Pkt) (1) 205 (be32 p.sender ++ be32 p.media ++ pairsB p.pairs.l) (decide (0 < p.pairs.l.length) && decide (((p.pairs.l.length : Nat) : Int) ≤ 253)) w h ⟨Reads.none_, Reads.none_, Reads.none_, (fun x hx => by cases hx), Reads.none_, Reads.none_, h.pairs, Reads.none_, Reads.none_, Reads.none_, (fun x hx => by cases hx), Reads.none_, (fun x hx => by cases hx), Reads.none_⟩ ⟨(Nat.zero_le _), (Nat.zero_le _), (Nat.zero_le _), (Nat.zero_le _), (Nat.zero_le _), hS.short.pairs, (Nat.zero_le _), (Nat.zero_le _), (Nat.zero_le _), (Nat.zero_le _), (Nat.zero_le _), (fun x hx => by cases hx), (fun x hx => by cases hx)⟩ (show (p.kind == 0) = false by rw [hk]; rfl) (by decide) (by decide) (by decide) (fun w' hw => legalA_6 p w' hk ((h.below hw).more hw.size) hO hS) fun hok q w' hsame hql => by
    have hsm : q.Small := Pkt.Small.same hsame ⟨⟨(Nat.zero_le _), (Nat.zero_le _), (Nat.zero_le _), (Nat.zero_le _), (Nat.zero_le _), hS.short.pairs, (Nat.zero_le _), (Nat.zero_le _), (Nat.zero_le _), (fun x hx => by cases hx), (fun x hx => by cases hx)⟩, (Nat.zero_le _), (fun x hx => by cases hx), (Nat.zero_le _), (Nat.zero_le _), hS.pairs1, (Nat.zero_le _), (Nat.zero_le _)⟩
    have hh := headerOf_6 q w' (hsame.kind.trans hk) hql hsm
    have hl : q.pairs.l.length = p.pairs.l.length := congrArg List.length hsame.pairs
    have e2 : 12 + 4 * q.pairs.l.length = 4 + (be32 p.sender ++ be32 p.media ++ pairsB p.pairs.l).length := by rw [hl]; simp only [List.length_append, be32_len, pairsB_len]; omega
    rw [e2] at hh
    exact hh

theorem lawH_7 (p : Pkt) (w : World) (hk : p.kind = 7) (h : p.Lies w w.heap.size) (hO : p.Ok3) (hS : p.Small) :
    Calls Tryz.prog 3 #[.agg p.cells] w fun e w' => e = .returned (.bool true) ∧ Below w.heap.size w w' :=
  law_kind p (⟨p.kind, p.sender, p.media, 0, 0, 0, 0, Sl.nil, Sl.nil, Sl.nil, Sl.nil, ByteArray.empty, 0, Sl.nil, Sl.nil, Sl.nil, Sl.nil, 0, Sl.nil, 0, 0, 0, 0, 0, Sl.nil, Sl.nil, false, 0, 0, 0⟩ : Pkt) (5) 205 (be32 p.sender ++ be32 p.media) true w h ⟨Reads.none_, Reads.none_, Reads.none_, (fun x hx => by cases hx), Reads.none_, Reads.none_, Reads.none_, Reads.none_, Reads.none_, Reads.none_, (fun x hx => by cases hx), Reads.none_, (fun x hx => by cases hx), Reads.none_⟩ ⟨(Nat.zero_le _), (Nat.zero_le _), (Nat.zero_le _), (Nat.zero_le _), (Nat.zero_le _), (Nat.zero_le _), (Nat.zero_le _), (Nat.zero_le _), (Nat.zero_le _), (Nat.zero_le _), (Nat.zero_le _), (fun x hx => by cases hx), (fun x hx => by cases hx)⟩ (show (p.kind == 0) = false by rw [hk]; rfl) (by decide) (by decide) (by decide) (fun w' hw => legalA_7 p w' hk ((h.below hw).more hw.size) hO hS) fun hok q w' hsame hql => by
    have hsm : q.Small := Pkt.Small.same hsame ⟨⟨(Nat.zero_le _), (Nat.zero_le _), (Nat.zero_le _), (Nat.zero_le _), (Nat.zero_le _), (Nat.zero_le _), (Nat.zero_le _), (Nat.zero_le _), (Nat.zero_le _), (fun x hx => by cases hx), (fun x hx => by cases hx)⟩, (Nat.zero_le _), (fun x hx => by cases hx), (Nat.zero_le _), (Nat.zero_le _), (Nat.zero_le _), (Nat.zero_le _), (Nat.zero_le _)⟩
    have hh := headerOf_7 q w' (hsame.kind.trans hk) hql hsm
    have e2 : 12 = 4 + (be32 p.sender ++ be32 p.media).length := by simp [be32_len]
    rw [e2] at hh
    exact hh

theorem lawH_8 (p : Pkt) (w : World) (hk : p.kind = 8) (h : p.Lies w w.heap.size) (hO : p.Ok3) (hS : p.Small) :
    Calls Tryz.prog 3 #[.agg p.cells] w fun e w' => e = .returned (.bool true) ∧ Below w.heap.size w w' :=
  law_kind p (⟨p.kind, p.sender, 0, 0, 0, 0, 0, Sl.nil, Sl.nil, Sl.nil, Sl.nil, ByteArray.empty, 0, Sl.nil, Sl.nil, Sl.nil, Sl.nil, 0, p.blocks, p.time, 0, 0, 0, 0, Sl.nil, Sl.nil, false, 0, 0, 0⟩ : Pkt) (11) 205 (blosB (be32 p.sender) p.blocks.l ++ be32 p.time) (decide (0 < p.blocks.l.length) && p.blocks.l.all bloOk) w h ⟨Reads.none_, Reads.none_, Reads.none_, (fun x hx => by cases hx), Reads.none_, Reads.none_, Reads.none_, Reads.none_, Reads.none_, h.blocks, h.mets, Reads.none_, (fun x hx => by cases hx), Reads.none_⟩ ⟨(Nat.zero_le _), (Nat.zero_le _), (Nat.zero_le _), (Nat.zero_le _), (Nat.zero_le _), (Nat.zero_le _), (Nat.zero_le _), (Nat.zero_le _), hS.short.blocks, (Nat.zero_le _), (Nat.zero_le _), (fun x hx => by cases hx), hS.short.mets⟩ (show (p.kind == 0) = false by rw [hk]; rfl) (by decide) (by decide) (by decide) (fun w' hw => legalA_8 p w' hk ((h.below hw).more hw.size) hO hS) fun hok q w' hsame hql => by
    have hsm : q.Small := Pkt.Small.same hsame ⟨⟨(Nat.zero_le _), (Nat.zero_le _), (Nat.zero_le _), (Nat.zero_le _), (Nat.zero_le _), (Nat.zero_le _), (Nat.zero_le _), (Nat.zero_le _), hS.short.blocks, (fun x hx => by cases hx), hS.short.mets⟩, (Nat.zero_le _), (fun x hx => by cases hx), (Nat.zero_le _), hS.blosL, (Nat.zero_le _), (Nat.zero_le _), (Nat.zero_le _)⟩
    have hh := headerOf_8 q w' (hsame.kind.trans hk) hql hsm
    obtain ⟨_, hc, _⟩ := bare_blos hsame.blocks
    replace hc : blosLen q.blocks.l = blosLen p.blocks.l := hc
    have hb := blosB_len p.blocks.l (be32 p.sender) (by rw [be32_len])
    have e2 : 12 + blosLen q.blocks.l = 4 + (blosB (be32 p.sender) p.blocks.l ++ be32 p.time).length := by rw [hc, List.length_append, hb]; simp only [be32_len]; omega
    rw [e2] at hh
    exact hh

theorem lawH_9 (p : Pkt) (w : World) (hk : p.kind = 9) (h : p.Lies w w.heap.size) (hO : p.Ok3) (hS : p.Small) :
    Calls Tryz.prog 3 #[.agg p.cells] w fun e w' => e = .returned (.bool true) ∧ Below w.heap.size w w' :=
  law_kind p (⟨p.kind, p.sender, p.media, 0, 0, 0, 0, Sl.nil, Sl.nil, Sl.nil, Sl.nil, ByteArray.empty, 0, Sl.nil, Sl.nil, Sl.nil, Sl.nil, 0, Sl.nil, 0, 0, 0, 0, 0, Sl.nil, Sl.nil, false, 0, 0, 0⟩ : Pkt) (1) 206 (be32 p.sender ++ be32 p.media) true w h ⟨Reads.none_, Reads.none_, Reads.none_, (fun x hx => by cases hx), Reads.none_, Reads.none_, Reads.none_, Reads.none_, Reads.none_, Reads.none_, (fun x hx => by cases hx), Reads.none_, (fun x hx => by cases hx), Reads.none_⟩ ⟨(Nat.zero_le _), (Nat.zero_le _), (Nat.zero_le _), (Nat.zero_le _), (Nat.zero_le _), (Nat.zero_le _), (Nat.zero_le _), (Nat.zero_le _), (Nat.zero_le _), (Nat.zero_le _), (Nat.zero_le _), (fun x hx => by cases hx), (fun x hx => by cases hx)⟩ (show (p.kind == 0) = false by rw [hk]; rfl) (by decide) (by decide) (by decide) (fun w' hw => legalA_9 p w' hk ((h.below hw).more hw.size) hO hS) fun hok q w' hsame hql => by
    have hsm : q.Small := Pkt.Small.same hsame ⟨⟨(Nat.zero_le _), (Nat.zero_le _), (Nat.zero_le _), (Nat.zero_le _), (Nat.zero_le _), (Nat.zero_le _), (Nat.zero_le _), (Nat.zero_le _), (Nat.zero_le _), (fun x hx => by cases hx), (fun x hx => by cases hx)⟩, (Nat.zero_le _), (fun x hx => by cases hx), (Nat.zero_le _), (Nat.zero_le _), (Nat.zero_le _), (Nat.zero_le _), (Nat.zero_le _)⟩
    have hh := headerOf_9 q w' (hsame.kind.trans hk) hql hsm
    have e2 : 12 = 4 + (be32 p.sender ++ be32 p.media).length := by simp [be32_len]
    rw [e2] at hh
    exact hh

theorem lawH_10 (p : Pkt) (w : World) (hk : p.kind = 10) (h : p.Lies w w.heap.size) (hO : p.Ok3) (hS : p.Small) :
    Calls Tryz.prog 3 #[.agg p.cells] w fun e w' => e = .returned (.bool true) ∧ Below w.heap.size w w' :=
  law_kind p (⟨p.kind, p.sender, p.media, 0, 0, 0, 0, Sl.nil, Sl.nil, Sl.nil, Sl.nil, ByteArray.empty, 0, Sl.nil, Sl.nil, p.slices, Sl.nil, 0, Sl.nil, 0, 0, 0, 0, 0, Sl.nil, Sl.nil, false, 0, 0, 0⟩ : Pkt) (2) 206 (be32 p.sender ++ be32 p.media ++ slcsB p.slices.l) ((decide (0 < p.slices.l.length) && decide (((p.slices.l.length : Nat) : Int) ≤ 253)) && p.slices.l.all slcOk) w h ⟨Reads.none_, Reads.none_, Reads.none_, (fun x hx => by cases hx), Reads.none_, Reads.none_, Reads.none_, h.slices, Reads.none_, Reads.none_, (fun x hx => by cases hx), Reads.none_, (fun x hx => by cases hx), Reads.none_⟩ ⟨(Nat.zero_le _), (Nat.zero_le _), (Nat.zero_le _), (Nat.zero_le _), (Nat.zero_le _), (Nat.zero_le _), hS.short.slices, (Nat.zero_le _), (Nat.zero_le _), (Nat.zero_le _), (Nat.zero_le _), (fun x hx => by cases hx), (fun x hx => by cases hx)⟩ (show (p.kind == 0) = false by rw [hk]; rfl) (by decide) (by decide) (by decide) (fun w' hw => legalA_10 p w' hk ((h.below hw).more hw.size) hO hS) fun hok q w' hsame hql => by
    have hsm : q.Small := Pkt.Small.same hsame ⟨⟨(Nat.zero_le _), (Nat.zero_le _), (Nat.zero_le _), (Nat.zero_le _), (Nat.zero_le _), (Nat.zero_le _), hS.short.slices, (Nat.zero_le _), (Nat.zero_le _), (fun x hx => by cases hx), (fun x hx => by cases hx)⟩, (Nat.zero_le _), (fun x hx => by cases hx), (Nat.zero_le _), (Nat.zero_le _), (Nat.zero_le _), hS.slices1, (Nat.zero_le _)⟩
    have hh := headerOf_10 q w' (hsame.kind.trans hk) hql hsm
    have hl : q.slices.l.length = p.slices.l.length := congrArg List.length hsame.slices
    have e2 : 12 + 4 * q.slices.l.length = 4 + (be32 p.sender ++ be32 p.media ++ slcsB p.slices.l).length := by rw [hl]; simp only [List.length_append, be32_len, slcsB_len]; omega
    rw [e2] at hh
    exact hh

theorem lawH_11 (p : Pkt) (w : World) (hk : p.kind = 11) (h : p.Lies w w.heap.size) (hO : p.Ok3) (hS : p.Small) :
    Calls Tryz.prog 3 #[.agg p.cells] w fun e w' => e = .returned (.bool true) ∧ Below w.heap.size w w' :=
  law_kind p (⟨p.kind, p.sender, p.media, 0, 0, 0, 0, Sl.nil, Sl.nil, Sl.nil, Sl.nil, ByteArray.empty, 0, Sl.nil, Sl.nil, Sl.nil, p.entries, 0, Sl.nil, 0, 0, 0, 0, 0, Sl.nil, Sl.nil, false, 0, 0, 0⟩ : Pkt) (4) 206 (be32 p.sender ++ be32 p.media ++ entsB p.entries.l) (decide (0 < p.entries.l.length)) w h ⟨Reads.none_, Reads.none_, Reads.none_, (fun x hx => by cases hx), Reads.none_, Reads.none_, Reads.none_, Reads.none_, h.entries, Reads.none_, (fun x hx => by cases hx), Reads.none_, (fun x hx => by cases hx), Reads.none_⟩ ⟨(Nat.zero_le _), (Nat.zero_le _), (Nat.zero_le _), (Nat.zero_le _), (Nat.zero_le _), (Nat.zero_le _), (Nat.zero_le _), hS.short.entries, (Nat.zero_le _), (Nat.zero_le _), (Nat.zero_le _), (fun x hx => by cases hx), (fun x hx => by cases hx)⟩ (show (p.kind == 0) = false by rw [hk]; rfl) (by decide) (by decide) (by decide) (fun w' hw => legalA_11 p w' hk ((h.below hw).more hw.size) hO hS) fun hok q w' hsame hql => by
    have hsm : q.Small := Pkt.Small.same hsame ⟨⟨(Nat.zero_le _), (Nat.zero_le _), (Nat.zero_le _), (Nat.zero_le _), (Nat.zero_le _), (Nat.zero_le _), (Nat.zero_le _), hS.short.entries, (Nat.zero_le _), (fun x hx => by cases hx), (fun x hx => by cases hx)⟩, (Nat.zero_le _), (fun x hx => by cases hx), (Nat.zero_le _), (Nat.zero_le _), (Nat.zero_le _), (Nat.zero_le _), hS.entries1⟩
    have hh := headerOf_11 q w' (hsame.kind.trans hk) hql hsm
    have hl : q.entries.l.length = p.entries.l.length := congrArg List.length hsame.entries
    have e2 : 12 + 8 * q.entries.l.length = 4 + (be32 p.sender ++ be32 p.media ++ entsB p.entries.l).length := by rw [hl]; simp only [List.length_append, be32_len, entsB_len]; omega
    rw [e2] at hh
    exact hh

theorem lawH_12 (p : Pkt) (w : World) (hk : p.kind = 12) (h : p.Lies w w.heap.size) (hO : p.Ok3) (hS : p.Small) :
    Calls Tryz.prog 3 #[.agg p.cells] w fun e w' => e = .returned (.bool true) ∧ Below w.heap.size w w' :=
  law_kind p (⟨p.kind, p.sender, 0, 0, 0, 0, 0, Sl.nil, Sl.nil, Sl.nil, p.sources, ByteArray.empty, 0, Sl.nil, Sl.nil, Sl.nil, Sl.nil, p.bits, Sl.nil, 0, 0, 0, 0, 0, Sl.nil, Sl.nil, false, 0, 0, 0⟩ : Pkt) (15) 206 (be32 p.sender ++ be32 0 ++ [82, 69, 77, 66, (p.sources.l.length : Int) % 256, mantV p.bits.toNat / 65536 % 256, mantV p.bits.toNat / 256 % 256, mantV p.bits.toNat % 256] ++ p.sources.l.flatMap be32) (mantF p.bits.toNat && decide (((p.sources.l.length : Nat) : Int) ≤ 255)) w h ⟨Reads.none_, Reads.none_, Reads.none_, (fun x hx => by cases hx), h.sources, Reads.none_, Reads.none_, Reads.none_, Reads.none_, Reads.none_, (fun x hx => by cases hx), Reads.none_, (fun x hx => by cases hx), Reads.none_⟩ ⟨(Nat.zero_le _), (Nat.zero_le _), (Nat.zero_le _), hS.short.sources, (Nat.zero_le _), (Nat.zero_le _), (Nat.zero_le _), (Nat.zero_le _), (Nat.zero_le _), (Nat.zero_le _), (Nat.zero_le _), (fun x hx => by cases hx), (fun x hx => by cases hx)⟩ (show (p.kind == 0) = false by rw [hk]; rfl) (by decide) (by decide) (by decide) (fun w' hw => legalA_12 p w' hk ((h.below hw).more hw.size) hO hS) fun hok q w' hsame hql => by
    have hsm : q.Small := Pkt.Small.same hsame ⟨⟨(Nat.zero_le _), (Nat.zero_le _), (Nat.zero_le _), hS.short.sources, (Nat.zero_le _), (Nat.zero_le _), (Nat.zero_le _), (Nat.zero_le _), (Nat.zero_le _), (fun x hx => by cases hx), (fun x hx => by cases hx)⟩, (Nat.zero_le _), (fun x hx => by cases hx), (Nat.zero_le _), (Nat.zero_le _), (Nat.zero_le _), (Nat.zero_le _), (Nat.zero_le _)⟩
    have hh := headerOf_12 q w' (hsame.kind.trans hk) hql hsm
    have hl : q.sources.l.length = p.sources.l.length := by rw [hsame.sources]
    have e2 : 20 + 4 * q.sources.l.length = 4 + (be32 p.sender ++ be32 0 ++ [82, 69, 77, 66, (p.sources.l.length : Int) % 256, mantV p.bits.toNat / 65536 % 256, mantV p.bits.toNat / 256 % 256, mantV p.bits.toNat % 256] ++ p.sources.l.flatMap be32).length := by rw [hl]; simp only [List.length_append, be32_len, be32s_len, List.length_cons, List.length_nil]; omega
    rw [e2] at hh
    exact hh

theorem lawH_off (p : Pkt) (w : World) (hk : p.kind < 0 ∨ 13 < p.kind) (h : p.Lies w w.heap.size) :
    Calls Tryz.prog 3 #[.agg p.cells] w fun e w' => e = .returned (.bool true) ∧ Below w.heap.size w w' :=
  law_none p w h fun w' hw => (legal_none p w' fun w2 hw2 => by
    rcases hk with hk | hk
    · exact formatOne_neg p w2 hk
    · exact formatOne_big p w2 hk).mono fun e w3 ⟨he, hB⟩ => ⟨p, none, 0, 0, false, he, (fun h => by cases h), hB⟩
theorem lawH_13 (p : Pkt) (w : World) (hk : p.kind = 13) (h : p.Lies w w.heap.size) (hO : p.Ok3) :
    Calls Tryz.prog 3 #[.agg p.cells] w fun e w' => e = .returned (.bool true) ∧ Below w.heap.size w w' :=
  law_none p w h fun w' hw => (legal_none p w' fun w2 hw2 => (formatOne_any p w2 13 15 205 [] false (by rw [hk]; rfl) (by decide) (by decide) (by decide) (by decide) (by decide) fun w3 hw3 => form_13 p w3 hk hO.ok2.s0 hO.ok2.s1 hO.ok2.m0 hO.ok2.m1).mono fun e w3 hf => by
      rcases hf with ⟨h1, _⟩ | ⟨_, he, hB⟩
      · cases h1
      · exact ⟨he, hB⟩).mono fun e w3 ⟨he, hB⟩ => ⟨p, none, 0, 0, false, he, (fun h => by cases h), hB⟩
theorem lawH_0 (p : Pkt) (w : World) (hk : p.kind = 0) (h : p.Lies w w.heap.size) (hO : p.Ok3) (hS : p.Small) :
    Calls Tryz.prog 3 #[.agg p.cells] w fun e w' => e = .returned (.bool true) ∧ Below w.heap.size w w' :=
  law_none p w h fun w' hw => (legal_raw p { Pkt.zero with data := p.data } w' (fun w2 hw2 => formatOne_raw p w2 hk ((h.data.below (hw.trans (hw2.mono hw.size))).more (hw.trans (hw2.mono hw.size)).size) hO hS.short.data) fun w2 hw2 => compact_0 p w2 hk).mono fun e w3 ⟨hB, he⟩ => by
    rcases he with he | ⟨_, he⟩
    · exact ⟨p, none, 0, 0, false, he, (fun h => by cases h), hB⟩
    · exact ⟨_, _, _, _, true, he, (fun _ => rfl), hB⟩
theorem lawH_any (p : Pkt) (w : World) (h : p.Lies w w.heap.size) (hO : p.Ok3) (hS : p.Small) :
    Calls Tryz.prog 3 #[.agg p.cells] w fun e w' => e = .returned (.bool true) ∧ Below w.heap.size w w' := by
  by_cases h1 : p.kind = 1
  · exact lawH_1 p w h1 h hO hS
  by_cases h2 : p.kind = 2
  · exact lawH_2 p w h2 h hO hS
  by_cases h3 : p.kind = 3
  · exact lawH_3 p w h3 h hO hS
  by_cases h4 : p.kind = 4
  · exact lawH_4 p w h4 h hO hS
  by_cases h5 : p.kind = 5
  · exact lawH_5 p w h5 h hO hS
  by_cases h6 : p.kind = 6
  · exact lawH_6 p w h6 h hO hS
  by_cases h7 : p.kind = 7
  · exact lawH_7 p w h7 h hO hS
  by_cases h8 : p.kind = 8
  · exact lawH_8 p w h8 h hO hS
  by_cases h9 : p.kind = 9
  · exact lawH_9 p w h9 h hO hS
  by_cases h10 : p.kind = 10
  · exact lawH_10 p w h10 h hO hS
  by_cases h11 : p.kind = 11
  · exact lawH_11 p w h11 h hO hS
  by_cases h12 : p.kind = 12
  · exact lawH_12 p w h12 h hO hS
  by_cases h13 : p.kind = 13
  · exact lawH_13 p w h13 h hO
  by_cases h0 : p.kind = 0
  · exact lawH_0 p w h0 h hO hS
  exact lawH_off p w (by omega) h
end Go.Proofs.YtmmfpgoodfgkbaaGreatDoor
