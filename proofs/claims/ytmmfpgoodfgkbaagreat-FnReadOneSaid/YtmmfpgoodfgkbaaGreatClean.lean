/-
  THE PLAIN LAW of keys: a packet's key looks at its contents alone. No condition.
-/
import Derived.Test.YtmmfpgoodfgkbaaGreatMDesc
import Derived.Test.YtmmfpgoodfgkbaaGreatKey
import Derived.Test.YtmmfpgoodfgkbaaGreatPlainL
import Derived.Test.YtmmfpgoodfgkbaaGreatPktVal
namespace Go.Proofs.YtmmfpgoodfgkbaaGreat
open Go Go.RowKit
set_option linter.unusedVariables false
set_option linter.unusedSimpArgs false

theorem Pkt.Lies.moreC {p : Pkt} {w : World} {B B' : Nat} (h : p.Lies w B) (hB : B ≤ B') : p.Lies w B' :=
  ⟨Reads.more h.reports hB, Reads.more h.ext hB, Reads.more h.chunks hB, fun x hx => Reads.more (h.items x hx) hB, Reads.more h.sources hB, Reads.more h.data hB, Reads.more h.pairs hB, Reads.more h.slices hB, Reads.more h.entries hB, Reads.more h.blocks hB, fun x hx => Reads.more (h.mets x hx) hB, Reads.more h.stats hB, fun x hx => Reads.more (h.lists x hx) hB, Reads.more h.deltas hB⟩
def Pkt.clean (p : Pkt) : Pkt :=
  ⟨p.kind, p.sender, p.media, p.ntp, p.rtp, p.packets, p.octets, ⟨none, 0, p.reports.l⟩, ⟨none, 0, p.ext.l⟩, ⟨none, 0, p.chunks.l.map Chunk.cln⟩, ⟨none, 0, p.sources.l⟩, p.text, p.sub, ⟨none, 0, p.data.l⟩, ⟨none, 0, p.pairs.l⟩, ⟨none, 0, p.slices.l⟩, ⟨none, 0, p.entries.l⟩, p.bits, ⟨none, 0, p.blocks.l.map Blo.cln⟩, p.time, p.base, p.count, p.ref, p.fb, ⟨none, 0, p.stats.l.map Sta.cln⟩, ⟨none, 0, p.deltas.l⟩, false, 0, 0, 0⟩
theorem keyB_clean (p : Pkt) : keyB p.clean = keyB p := by
  have h1 : (p.chunks.l.map Chunk.cln).flatMap kChunk = p.chunks.l.flatMap kChunk := by rw [List.flatMap_map]; rfl
  have h2 : (p.blocks.l.map Blo.cln).flatMap kBlo = p.blocks.l.flatMap kBlo := by rw [List.flatMap_map]; rfl
  have h3 : (p.stats.l.map Sta.cln).flatMap kSta = p.stats.l.flatMap kSta := by rw [List.flatMap_map]; rfl
  simp only [keyB, kA22, kA21, kA20, kA19, kA18, kA17, kA16, kA15, kA14, kA13, kA12, kA11, kA10, kA9, kA8, kA7, kA6, kA5, kA4, kA3, kA2, kA1, Pkt.clean, h1, h2, h3, List.length_map]
theorem clean_same {p q : Pkt} (h : Pkt.Same p q) (h2 : q.stats.l = p.stats.l ∧ q.deltas.l = p.deltas.l ∧ q.base = p.base ∧ q.count = p.count ∧ q.ref = p.ref ∧ q.fb = p.fb) : q.clean = p.clean := by
  have e1 : q.chunks.l.map Chunk.cln = p.chunks.l.map Chunk.cln := by
    have := congrArg (fun l => l.map fun x : Int × List Item => (⟨x.1, ⟨none, 0, x.2⟩⟩ : Chunk)) h.chunks
    simp only [List.map_map] at this
    exact this
  have e2 : q.blocks.l.map Blo.cln = p.blocks.l.map Blo.cln := by
    have := congrArg (fun l => l.map fun x : Int × Int × List Met => (⟨x.1, x.2.1, ⟨none, 0, x.2.2⟩⟩ : Blo)) h.blocks
    simp only [List.map_map] at this
    exact this
  simp only [Pkt.clean, e1, e2, h.kind, h.sender, h.media, h.ntp, h.rtp, h.packets, h.octets, h.reports, h.ext, h.sources, h.text, h.sub, h.data, h.pairs, h.slices, h.entries, h.bits, h.time, h2.1, h2.2.1, h2.2.2.1, h2.2.2.2.1, h2.2.2.2.2.1, h2.2.2.2.2.2]
structure OkC (C : Pkt) : Prop where
  short : C.Short
  lists : ∀ x ∈ C.stats.l, x.list.l.length ≤ 2147483647
  ext : Byts C.ext.l
  data : Byts C.data.l
  key : (keyB C).length ≤ 549755813888
theorem OkC.of {q : Pkt} (h : OkC q.clean) : OkC q := by
  refine ⟨⟨h.short.reports, h.short.ext, by have := h.short.chunks; simpa [Pkt.clean] using this, h.short.sources, h.short.data, h.short.pairs, h.short.slices, h.short.entries, by have := h.short.blocks; simpa [Pkt.clean] using this, by have := h.short.stats; simpa [Pkt.clean] using this, h.short.deltas, fun x hx => h.short.items x.cln (List.mem_map_of_mem hx), fun x hx => h.short.mets x.cln (List.mem_map_of_mem hx)⟩, fun x hx => h.lists x.cln (List.mem_map_of_mem hx), h.ext, h.data, by rw [← keyB_clean]; exact h.key⟩
theorem key_of {q C : Pkt} (w : World) (hC : q.clean = C) (hk : OkC C) (h : q.Lies w w.heap.size) :
    Calls Tryz.prog 19 #[.agg q.cells] w fun e w' => e = .returned (.string (strB (keyB C))) ∧ Below w.heap.size w w' := by
  subst hC
  rw [keyB_clean]
  have h2 := hk.of
  exact key_any q w h h2.short h2.lists h2.ext h2.data h2.key
theorem plainL_of {q C : Pkt} (w : World) (hC : q.clean = C) (hk : OkC C) (h : q.Lies w w.heap.size) :
    Calls Tryz.prog 20 #[.agg q.cells] w fun e w' => ∃ r : Pkt, e = .returned (.agg r.cells) ∧ r.clean = C ∧ r.NewIn w' w.heap.size w'.heap.size ∧ (r.ext = q.ext ∧ r.sources = q.sources ∧ r.data = q.data ∧ r.stats.l = q.stats.l) ∧ Below w.heap.size w w' := by
  subst hC
  refine (plain_in q w h hk.of.short).mono ?_
  rintro e w' ⟨r, hs, rfl, hN, h2, hB⟩
  exact ⟨r, rfl, clean_same hs h2, hN, ⟨hs.ext, hs.sources, hs.data, h2.1⟩, hB⟩
theorem Pkt.NewIn.liesH {p q : Pkt} {w : World} {B C D : Nat} (h : q.NewIn w B C) (hl : ∀ g, B ≤ g ∧ g < C → g < D) (hp : p.Lies w D) (he : q.ext = p.ext) (hs : q.sources = p.sources) (hd : q.data = p.data) (ht : q.stats.l = p.stats.l) : q.Lies w D :=
  ⟨h.reports.readsH hl, by rw [he]; exact hp.ext, h.chunks.readsH hl, fun x hx => (h.items x hx).readsH hl, by rw [hs]; exact hp.sources, by rw [hd]; exact hp.data, h.pairs.readsH hl, h.slices.readsH hl, h.entries.readsH hl, h.blocks.readsH hl, fun x hx => (h.mets x hx).readsH hl, h.stats.readsH hl, by rw [ht]; exact hp.lists, h.deltas.readsH hl⟩
def ckK (C q : Pkt) (x : Pay) : Ck := ⟨fun y => x.g ≤ y ∧ y < x.c, fun w => (dP x.v).NewIn w x.g x.c ∧ (dP x.v).clean = C ∧ (dP x.v).ext = q.ext ∧ (dP x.v).sources = q.sources ∧ (dP x.v).data = q.data ∧ (dP x.v).stats.l = q.stats.l, fun w w' hk h => ⟨h.1.st hk, h.2⟩⟩
section
variable {w0 : World}
theorem cu_plainL {q C : Pkt} {ps : List (Option Pc)} (k : Nat) (hC : q.clean = C) (hk : OkC C) (hq : q.Lies w0 w0.heap.size) (L : PL) (w : World) (_ : ps = ([] ++ [k]).map (lookP L)) (hS : Stp (fun _ => False) w0 w (restr ([] ++ [k]) (lookM (den (fun _ => False) w0 L)))) :
    Calls Tryz.prog 20 #[.agg q.cells] w fun e w' => ∃ x : Pay, e = .returned (.agg (dP x.v).cells) ∧ Stp (blksOf (lookM (den (fun _ => False) w0 L)) [k]) w w' (lookM (den (fun _ => False) w0 (zipW [k] [some (.ck (ckK C q x))]))) := by
  refine (plainL_of w hC hk ((hq.below hS.below).moreC hS.size)).mono ?_
  rintro e w' ⟨r, rfl, h1, h2, h3, hB⟩
  refine ⟨⟨w.heap.size, w'.heap.size, vP r, none⟩, by rw [dP_v], ?_⟩
  exact stp_make (c' := .ck (ckK C q ⟨w.heap.size, w'.heap.size, vP r, none⟩)) hB ⟨by rw [dP_v]; exact h2, by rw [dP_v]; exact h1, by rw [dP_v]; exact h3⟩ fun y hy => ⟨hy.2, hy.1⟩
theorem cu_keyC {q C : Pkt} (j : Nat) (x : Pay) (hk : OkC C) (hq : q.Lies w0 w0.heap.size) (L : PL) (w : World) (hps : [some (.ck (ckK C q x))] = ([j] ++ []).map (lookP L)) (hS : Stp (fun _ => False) w0 w (restr ([j] ++ []) (lookM (den (fun _ => False) w0 L)))) :
    Calls Tryz.prog 19 #[.agg (dP x.v).cells] w fun e w' => ∃ y : Pay, e = .returned (.string (strB (keyB C))) ∧ Stp (blksOf (lookM (den (fun _ => False) w0 L)) []) w w' (lookM (den (fun _ => False) w0 (zipW [] []))) := by
  simp only [List.append_nil, List.map_cons, List.map_nil, List.cons.injEq] at hps
  have hl1 : lookM (den (fun _ => False) w0 L) j = some (ckK C q x) := by rw [lookM_den, ← hps.1]; rfl
  have r1 : restr ([j] ++ []) (lookM (den (fun _ => False) w0 L)) j = some (ckK C q x) := by simp [restr, hasN, hl1]
  have h1 := hS.ok j _ r1
  refine (key_of w h1.2.1 hk (h1.1.liesH (fun g hg => (hS.lt j _ r1 g hg).1) ((hq.below hS.below).moreC hS.size) h1.2.2.1 h1.2.2.2.1 h1.2.2.2.2.1 h1.2.2.2.2.2)).mono ?_
  rintro e w' ⟨rfl, hB⟩
  exact ⟨pay0, rfl, stp_of_below hB⟩
theorem cu_key0 {q C : Pkt} (hC : q.clean = C) (hk : OkC C) (hq : q.Lies w0 w0.heap.size) (L : PL) (w : World) (hps : [] = ([] ++ []).map (lookP L)) (hS : Stp (fun _ => False) w0 w (restr ([] ++ []) (lookM (den (fun _ => False) w0 L)))) :
    Calls Tryz.prog 19 #[.agg q.cells] w fun e w' => ∃ y : Pay, e = .returned (.string (strB (keyB C))) ∧ Stp (blksOf (lookM (den (fun _ => False) w0 L)) []) w w' (lookM (den (fun _ => False) w0 (zipW [] []))) :=
  (key_of w hC hk ((hq.below hS.below).moreC hS.size)).mono fun e w' ⟨he, hB⟩ => ⟨pay0, he, stp_of_below hB⟩
end
end Go.Proofs.YtmmfpgoodfgkbaaGreat
