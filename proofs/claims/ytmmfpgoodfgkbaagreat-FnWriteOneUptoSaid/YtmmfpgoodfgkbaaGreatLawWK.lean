/-
  The law on the writing of one packet returns true, kind by kind. Condition: the packet's slices read as lists; the numbers fit their kinds; no part is too long.
-/
import Derived.Test.YtmmfpgoodfgkbaaGreatWrK
import Derived.Test.YtmmfpgoodfgkbaaGreatLegalRaw
import Derived.Test.YtmmfpgoodfgkbaaGreatFmtRaw
namespace Go.Proofs.YtmmfpgoodfgkbaaGreat
open Go Go.RowKit
set_option linter.unusedVariables false

theorem rawsize_any (A : Option Addr) (n c : Nat) (w : World) : Calls Tryz.prog 210 #[.slice A n c] w fun e w' => e = .returned (.int .i64 (n : Nat)) ∧ Below w.heap.size w w' := by
  refine go_in Tryz.func210 rfl Tryz.ntmps210 [.slice A (n : Nat) c] fun a hE => ?_
  have hS := stp_in w
  refine rg hE hS [pu] (fun _ => kp [(2, .int .i64 0)]) (fun _ => kP []) fun _ a u hE hS => ?_
  refine rg hE hS [pu, pu, pu] (fun _ => kp [(2, .int .i64 (n : Nat))]) (fun _ => kP []) fun _ a u hE hS => ?_
  refine wp_ret ?_
  exact ret1 hE Tryz.results210 (.int .i64 (n : Nat)) ⟨rfl, hS.below⟩
theorem wr_0 (p q : Pkt) (w : World) (hS : p.Small) (hsame : Pkt.Same { Pkt.zero with data := p.data } q) (hql : q.Lies w w.heap.size) :
    Calls Tryz.prog 29 #[.agg q.cells] w (Built w p.data.l) := by
  have kq : q.kind = 0 := hsame.kind
  have sd : q.data.l = p.data.l := congrArg Sl.l (show q.data = p.data from hsame.data)
  refine (built_0 q w kq hql.data (by rw [sd]; exact hS.short.data)).mono fun e w2 ⟨g, v1, c1, he, hb, hg, ho1, hB⟩ => ?_
  subst he
  simp only [sd] at hb ho1
  refine ⟨_, rfl, fun w3 hw => ?_, hB⟩
  have hb3 : Blk w3 g 202 #[.slice v1 p.data.l.length c1] := (hw g ⟨hg, hb.lt⟩).trans hb
  have hr := (InRows.of_own ho1).st hw
  have hm : Calls Tryz.prog 209 #[.slice v1 p.data.l.length c1] w3 (MarB w.heap.size w2.heap.size w3 p.data.l) := (mar_0 (.slice v1 p.data.l.length c1) w3).mono fun e w4 ⟨he, hB4⟩ => ⟨v1, c1, he, fun hn => by
    obtain ⟨ad, e2, h1, h2, h3⟩ := hr.2 hn
    refine ⟨ad, e2, .inl ⟨h1, h2⟩, fun j u hu => ?_⟩
    have h4 := h3 j u hu
    have hl := cell_lt h4
    exact (hB4.cell (by rwa [block_of_add] at hl ⊢)).trans h4, hB4⟩
  refine ⟨invk_val (P := Tryz.prog) (T := 202) (f := 209) (by decide) (by kernel_rfl) Tryz.underlying203 (by kernel_rfl) (fun _ _ => by kernel_rfl) hb3 (kr hm), ?_⟩
  exact invk_val (P := Tryz.prog) (T := 202) (f := 210) (by decide) (by kernel_rfl) Tryz.underlying203 (by kernel_rfl) (fun _ _ => by kernel_rfl) hb3 (kr (rawsize_any v1 p.data.l.length c1 w3))
theorem lawW_1 (p : Pkt) (w : World) (hk : p.kind = 1) (h : p.Lies w w.heap.size) (hO : p.Ok3) (hS : p.Small) :
    Calls Tryz.prog 5 #[.agg p.cells] w fun e w' => e = .returned (.bool true) ∧ Below w.heap.size w w' :=
  law_write p ((⟨p.kind, p.sender, 0, p.ntp, p.rtp, p.packets, p.octets, p.reports, p.ext, Sl.nil, Sl.nil, ByteArray.empty, 0, Sl.nil, Sl.nil, Sl.nil, Sl.nil, 0, Sl.nil, 0, 0, 0, 0, 0, Sl.nil, Sl.nil, false, 0, 0, 0⟩ : Pkt)) (hdrB (((p.reports.l.length : Nat) : Int) % 32) 200 ((((be32 p.sender ++ be32 (p.ntp / 4294967296) ++ be32 (p.ntp % 4294967296) ++ be32 p.rtp ++ be32 p.packets ++ be32 p.octets ++ repsB p.reports.l ++ p.ext.l).length : Nat) : Int) / 4) ++ (be32 p.sender ++ be32 (p.ntp / 4294967296) ++ be32 (p.ntp % 4294967296) ++ be32 p.rtp ++ be32 p.packets ++ be32 p.octets ++ repsB p.reports.l ++ p.ext.l)) ((((decide (((p.reports.l.length : Nat) : Int) ≤ 31) && p.reports.l.all repOk) && (((p.ext.l.length : Nat) : Int).tmod 4 == 0))) = true) w h ⟨h.reports, h.ext, Reads.none_, (fun x hx => by cases hx), Reads.none_, Reads.none_, Reads.none_, Reads.none_, Reads.none_, Reads.none_, (fun x hx => by cases hx), Reads.none_, (fun x hx => by cases hx), Reads.none_⟩ ⟨hS.short.reports, hS.short.ext, (Nat.zero_le _), (Nat.zero_le _), (Nat.zero_le _), (Nat.zero_le _), (Nat.zero_le _), (Nat.zero_le _), (Nat.zero_le _), (Nat.zero_le _), (Nat.zero_le _), (fun x hx => by cases hx), (fun x hx => by cases hx)⟩ (fun w' hw => (legalA_1 p w' hk ((h.below hw).more hw.size) hO hS).mono fun e w2 hl => hl.toR) fun hok hle q w' hsame hql => wr_1 p q w' hk hO hS hok (by rw [hdrB4] at hle; exact hle) hsame hql
theorem lawW_2 (p : Pkt) (w : World) (hk : p.kind = 2) (h : p.Lies w w.heap.size) (hO : p.Ok3) (hS : p.Small) :
    Calls Tryz.prog 5 #[.agg p.cells] w fun e w' => e = .returned (.bool true) ∧ Below w.heap.size w w' :=
  law_write p ((⟨p.kind, p.sender, 0, 0, 0, 0, 0, p.reports, p.ext, Sl.nil, Sl.nil, ByteArray.empty, 0, Sl.nil, Sl.nil, Sl.nil, Sl.nil, 0, Sl.nil, 0, 0, 0, 0, 0, Sl.nil, Sl.nil, false, 0, 0, 0⟩ : Pkt)) (hdrB (((p.reports.l.length : Nat) : Int) % 32) 201 ((((be32 p.sender ++ repsB p.reports.l ++ p.ext.l).length : Nat) : Int) / 4) ++ (be32 p.sender ++ repsB p.reports.l ++ p.ext.l)) ((((decide (((p.reports.l.length : Nat) : Int) ≤ 31) && p.reports.l.all repOk) && (((p.ext.l.length : Nat) : Int).tmod 4 == 0))) = true) w h ⟨h.reports, h.ext, Reads.none_, (fun x hx => by cases hx), Reads.none_, Reads.none_, Reads.none_, Reads.none_, Reads.none_, Reads.none_, (fun x hx => by cases hx), Reads.none_, (fun x hx => by cases hx), Reads.none_⟩ ⟨hS.short.reports, hS.short.ext, (Nat.zero_le _), (Nat.zero_le _), (Nat.zero_le _), (Nat.zero_le _), (Nat.zero_le _), (Nat.zero_le _), (Nat.zero_le _), (Nat.zero_le _), (Nat.zero_le _), (fun x hx => by cases hx), (fun x hx => by cases hx)⟩ (fun w' hw => (legalA_2 p w' hk ((h.below hw).more hw.size) hO hS).mono fun e w2 hl => hl.toR) fun hok hle q w' hsame hql => wr_2 p q w' hk hO hS hok (by rw [hdrB4] at hle; exact hle) hsame hql
theorem lawW_3 (p : Pkt) (w : World) (hk : p.kind = 3) (h : p.Lies w w.heap.size) (hO : p.Ok3) (hS : p.Small) :
    Calls Tryz.prog 5 #[.agg p.cells] w fun e w' => e = .returned (.bool true) ∧ Below w.heap.size w w' :=
  law_write p ((⟨p.kind, 0, 0, 0, 0, 0, 0, Sl.nil, Sl.nil, p.chunks, Sl.nil, ByteArray.empty, 0, Sl.nil, Sl.nil, Sl.nil, Sl.nil, 0, Sl.nil, 0, 0, 0, 0, 0, Sl.nil, Sl.nil, false, 0, 0, 0⟩ : Pkt)) (hdrB (((p.chunks.l.length : Nat) : Int) % 32) 202 ((((chunksB p.chunks.l).length : Nat) : Int) / 4) ++ (chunksB p.chunks.l)) (((decide (((p.chunks.l.length : Nat) : Int) ≤ 31) && p.chunks.l.all chunkOk)) = true) w h ⟨Reads.none_, Reads.none_, h.chunks, h.items, Reads.none_, Reads.none_, Reads.none_, Reads.none_, Reads.none_, Reads.none_, (fun x hx => by cases hx), Reads.none_, (fun x hx => by cases hx), Reads.none_⟩ ⟨(Nat.zero_le _), (Nat.zero_le _), hS.short.chunks, (Nat.zero_le _), (Nat.zero_le _), (Nat.zero_le _), (Nat.zero_le _), (Nat.zero_le _), (Nat.zero_le _), (Nat.zero_le _), (Nat.zero_le _), hS.short.items, (fun x hx => by cases hx)⟩ (fun w' hw => (legalA_3 p w' hk ((h.below hw).more hw.size) hO hS).mono fun e w2 hl => hl.toR) fun hok hle q w' hsame hql => wr_3 p q w' hk hO hS hok (by rw [hdrB4] at hle; exact hle) hsame hql
theorem lawW_4 (p : Pkt) (w : World) (hk : p.kind = 4) (h : p.Lies w w.heap.size) (hO : p.Ok3) (hS : p.Small) :
    Calls Tryz.prog 5 #[.agg p.cells] w fun e w' => e = .returned (.bool true) ∧ Below w.heap.size w w' :=
  law_write p ((⟨p.kind, 0, 0, 0, 0, 0, 0, Sl.nil, Sl.nil, Sl.nil, p.sources, p.text, 0, Sl.nil, Sl.nil, Sl.nil, Sl.nil, 0, Sl.nil, 0, 0, 0, 0, 0, Sl.nil, Sl.nil, false, 0, 0, 0⟩ : Pkt)) (hdrB (((p.sources.l.length % 32 : Nat) : Int)) 203 ((((byeB p.sources.l p.text).length : Nat) : Int) / 4) ++ (byeB p.sources.l p.text)) (((decide ((p.sources.l.length : Int) ≤ 31) && decide ((p.text.size : Int) ≤ 255))) = true) w h ⟨Reads.none_, Reads.none_, Reads.none_, (fun x hx => by cases hx), h.sources, Reads.none_, Reads.none_, Reads.none_, Reads.none_, Reads.none_, (fun x hx => by cases hx), Reads.none_, (fun x hx => by cases hx), Reads.none_⟩ ⟨(Nat.zero_le _), (Nat.zero_le _), (Nat.zero_le _), hS.short.sources, (Nat.zero_le _), (Nat.zero_le _), (Nat.zero_le _), (Nat.zero_le _), (Nat.zero_le _), (Nat.zero_le _), (Nat.zero_le _), (fun x hx => by cases hx), (fun x hx => by cases hx)⟩ (fun w' hw => (legalA_4 p w' hk ((h.below hw).more hw.size) hO hS).mono fun e w2 hl => hl.toR) fun hok hle q w' hsame hql => wr_4 p q w' hk hO hS hok (by rw [hdrB4] at hle; exact hle) hsame hql
theorem lawW_5 (p : Pkt) (w : World) (hk : p.kind = 5) (h : p.Lies w w.heap.size) (hO : p.Ok3) (hS : p.Small) :
    Calls Tryz.prog 5 #[.agg p.cells] w fun e w' => e = .returned (.bool true) ∧ Below w.heap.size w w' :=
  law_write p ((⟨p.kind, p.sender, 0, 0, 0, 0, 0, Sl.nil, Sl.nil, Sl.nil, Sl.nil, p.text, p.sub, p.data, Sl.nil, Sl.nil, Sl.nil, 0, Sl.nil, 0, 0, 0, 0, 0, Sl.nil, Sl.nil, false, 0, 0, 0⟩ : Pkt)) (hdrB (p.sub % 32) 204 ((((be32 p.sender ++ sb p.text ++ p.data.l).length : Nat) : Int) / 4) ++ (be32 p.sender ++ sb p.text ++ p.data.l)) (((((decide ((p.sub : Int) ≤ 31) && ((p.text.size : Int) == 4)) && (((p.data.l.length : Nat) : Int).tmod 4 == 0)) && decide (((p.data.l.length : Nat) : Int) ≤ 65520))) = true) w h ⟨Reads.none_, Reads.none_, Reads.none_, (fun x hx => by cases hx), Reads.none_, h.data, Reads.none_, Reads.none_, Reads.none_, Reads.none_, (fun x hx => by cases hx), Reads.none_, (fun x hx => by cases hx), Reads.none_⟩ ⟨(Nat.zero_le _), (Nat.zero_le _), (Nat.zero_le _), (Nat.zero_le _), hS.short.data, (Nat.zero_le _), (Nat.zero_le _), (Nat.zero_le _), (Nat.zero_le _), (Nat.zero_le _), (Nat.zero_le _), (fun x hx => by cases hx), (fun x hx => by cases hx)⟩ (fun w' hw => (legalA_5 p w' hk ((h.below hw).more hw.size) hO hS).mono fun e w2 hl => hl.toR) fun hok hle q w' hsame hql => wr_5 p q w' hk hO hS hok (by rw [hdrB4] at hle; exact hle) hsame hql
theorem lawW_6 (p : Pkt) (w : World) (hk : p.kind = 6) (h : p.Lies w w.heap.size) (hO : p.Ok3) (hS : p.Small) :
    Calls Tryz.prog 5 #[.agg p.cells] w fun e w' => e = .returned (.bool true) ∧ Below w.heap.size w w' :=
  law_write p ((⟨p.kind, p.sender, p.media, 0, 0, 0, 0, Sl.nil, Sl.nil, Sl.nil, Sl.nil, ByteArray.empty, 0, Sl.nil, p.pairs, Sl.nil, Sl.nil, 0, Sl.nil, 0, 0, 0, 0, 0, Sl.nil, Sl.nil, false, 0, 0, 0⟩ : Pkt)) (hdrB (1) 205 ((((be32 p.sender ++ be32 p.media ++ pairsB p.pairs.l).length : Nat) : Int) / 4) ++ (be32 p.sender ++ be32 p.media ++ pairsB p.pairs.l)) (((decide (0 < p.pairs.l.length) && decide (((p.pairs.l.length : Nat) : Int) ≤ 253))) = true) w h ⟨Reads.none_, Reads.none_, Reads.none_, (fun x hx => by cases hx), Reads.none_, Reads.none_, h.pairs, Reads.none_, Reads.none_, Reads.none_, (fun x hx => by cases hx), Reads.none_, (fun x hx => by cases hx), Reads.none_⟩ ⟨(Nat.zero_le _), (Nat.zero_le _), (Nat.zero_le _), (Nat.zero_le _), (Nat.zero_le _), hS.short.pairs, (Nat.zero_le _), (Nat.zero_le _), (Nat.zero_le _), (Nat.zero_le _), (Nat.zero_le _), (fun x hx => by cases hx), (fun x hx => by cases hx)⟩ (fun w' hw => (legalA_6 p w' hk ((h.below hw).more hw.size) hO hS).mono fun e w2 hl => hl.toR) fun hok hle q w' hsame hql => wr_6 p q w' hk hO hS hok (by rw [hdrB4] at hle; exact hle) hsame hql
theorem lawW_7 (p : Pkt) (w : World) (hk : p.kind = 7) (h : p.Lies w w.heap.size) (hO : p.Ok3) (hS : p.Small) :
    Calls Tryz.prog 5 #[.agg p.cells] w fun e w' => e = .returned (.bool true) ∧ Below w.heap.size w w' :=
  law_write p ((⟨p.kind, p.sender, p.media, 0, 0, 0, 0, Sl.nil, Sl.nil, Sl.nil, Sl.nil, ByteArray.empty, 0, Sl.nil, Sl.nil, Sl.nil, Sl.nil, 0, Sl.nil, 0, 0, 0, 0, 0, Sl.nil, Sl.nil, false, 0, 0, 0⟩ : Pkt)) (hdrB (5) 205 ((((be32 p.sender ++ be32 p.media).length : Nat) : Int) / 4) ++ (be32 p.sender ++ be32 p.media)) ((true) = true) w h ⟨Reads.none_, Reads.none_, Reads.none_, (fun x hx => by cases hx), Reads.none_, Reads.none_, Reads.none_, Reads.none_, Reads.none_, Reads.none_, (fun x hx => by cases hx), Reads.none_, (fun x hx => by cases hx), Reads.none_⟩ ⟨(Nat.zero_le _), (Nat.zero_le _), (Nat.zero_le _), (Nat.zero_le _), (Nat.zero_le _), (Nat.zero_le _), (Nat.zero_le _), (Nat.zero_le _), (Nat.zero_le _), (Nat.zero_le _), (Nat.zero_le _), (fun x hx => by cases hx), (fun x hx => by cases hx)⟩ (fun w' hw => (legalA_7 p w' hk ((h.below hw).more hw.size) hO hS).mono fun e w2 hl => hl.toR) fun hok hle q w' hsame hql => wr_7 p q w' hk hO hS hok (by rw [hdrB4] at hle; exact hle) hsame hql
theorem lawW_8 (p : Pkt) (w : World) (hk : p.kind = 8) (h : p.Lies w w.heap.size) (hO : p.Ok3) (hS : p.Small) :
    Calls Tryz.prog 5 #[.agg p.cells] w fun e w' => e = .returned (.bool true) ∧ Below w.heap.size w w' :=
  law_write p ((⟨p.kind, p.sender, 0, 0, 0, 0, 0, Sl.nil, Sl.nil, Sl.nil, Sl.nil, ByteArray.empty, 0, Sl.nil, Sl.nil, Sl.nil, Sl.nil, 0, p.blocks, p.time, 0, 0, 0, 0, Sl.nil, Sl.nil, false, 0, 0, 0⟩ : Pkt)) (hdrB (11) 205 ((((blosB (be32 p.sender) p.blocks.l ++ be32 p.time).length : Nat) : Int) / 4) ++ (blosB (be32 p.sender) p.blocks.l ++ be32 p.time)) (((decide (0 < p.blocks.l.length) && p.blocks.l.all bloOk)) = true) w h ⟨Reads.none_, Reads.none_, Reads.none_, (fun x hx => by cases hx), Reads.none_, Reads.none_, Reads.none_, Reads.none_, Reads.none_, h.blocks, h.mets, Reads.none_, (fun x hx => by cases hx), Reads.none_⟩ ⟨(Nat.zero_le _), (Nat.zero_le _), (Nat.zero_le _), (Nat.zero_le _), (Nat.zero_le _), (Nat.zero_le _), (Nat.zero_le _), (Nat.zero_le _), hS.short.blocks, (Nat.zero_le _), (Nat.zero_le _), (fun x hx => by cases hx), hS.short.mets⟩ (fun w' hw => (legalA_8 p w' hk ((h.below hw).more hw.size) hO hS).mono fun e w2 hl => hl.toR) fun hok hle q w' hsame hql => wr_8 p q w' hk hO hS hok (by rw [hdrB4] at hle; exact hle) hsame hql
theorem lawW_9 (p : Pkt) (w : World) (hk : p.kind = 9) (h : p.Lies w w.heap.size) (hO : p.Ok3) (hS : p.Small) :
    Calls Tryz.prog 5 #[.agg p.cells] w fun e w' => e = .returned (.bool true) ∧ Below w.heap.size w w' :=
  law_write p ((⟨p.kind, p.sender, p.media, 0, 0, 0, 0, Sl.nil, Sl.nil, Sl.nil, Sl.nil, ByteArray.empty, 0, Sl.nil, Sl.nil, Sl.nil, Sl.nil, 0, Sl.nil, 0, 0, 0, 0, 0, Sl.nil, Sl.nil, false, 0, 0, 0⟩ : Pkt)) (hdrB (1) 206 ((((be32 p.sender ++ be32 p.media).length : Nat) : Int) / 4) ++ (be32 p.sender ++ be32 p.media)) ((true) = true) w h ⟨Reads.none_, Reads.none_, Reads.none_, (fun x hx => by cases hx), Reads.none_, Reads.none_, Reads.none_, Reads.none_, Reads.none_, Reads.none_, (fun x hx => by cases hx), Reads.none_, (fun x hx => by cases hx), Reads.none_⟩ ⟨(Nat.zero_le _), (Nat.zero_le _), (Nat.zero_le _), (Nat.zero_le _), (Nat.zero_le _), (Nat.zero_le _), (Nat.zero_le _), (Nat.zero_le _), (Nat.zero_le _), (Nat.zero_le _), (Nat.zero_le _), (fun x hx => by cases hx), (fun x hx => by cases hx)⟩ (fun w' hw => (legalA_9 p w' hk ((h.below hw).more hw.size) hO hS).mono fun e w2 hl => hl.toR) fun hok hle q w' hsame hql => wr_9 p q w' hk hO hS hok (by rw [hdrB4] at hle; exact hle) hsame hql
theorem lawW_10 (p : Pkt) (w : World) (hk : p.kind = 10) (h : p.Lies w w.heap.size) (hO : p.Ok3) (hS : p.Small) :
    Calls Tryz.prog 5 #[.agg p.cells] w fun e w' => e = .returned (.bool true) ∧ Below w.heap.size w w' :=
  law_write p ((⟨p.kind, p.sender, p.media, 0, 0, 0, 0, Sl.nil, Sl.nil, Sl.nil, Sl.nil, ByteArray.empty, 0, Sl.nil, Sl.nil, p.slices, Sl.nil, 0, Sl.nil, 0, 0, 0, 0, 0, Sl.nil, Sl.nil, false, 0, 0, 0⟩ : Pkt)) (hdrB (2) 206 ((((be32 p.sender ++ be32 p.media ++ slcsB p.slices.l).length : Nat) : Int) / 4) ++ (be32 p.sender ++ be32 p.media ++ slcsB p.slices.l)) ((((decide (0 < p.slices.l.length) && decide (((p.slices.l.length : Nat) : Int) ≤ 253)) && p.slices.l.all slcOk)) = true) w h ⟨Reads.none_, Reads.none_, Reads.none_, (fun x hx => by cases hx), Reads.none_, Reads.none_, Reads.none_, h.slices, Reads.none_, Reads.none_, (fun x hx => by cases hx), Reads.none_, (fun x hx => by cases hx), Reads.none_⟩ ⟨(Nat.zero_le _), (Nat.zero_le _), (Nat.zero_le _), (Nat.zero_le _), (Nat.zero_le _), (Nat.zero_le _), hS.short.slices, (Nat.zero_le _), (Nat.zero_le _), (Nat.zero_le _), (Nat.zero_le _), (fun x hx => by cases hx), (fun x hx => by cases hx)⟩ (fun w' hw => (legalA_10 p w' hk ((h.below hw).more hw.size) hO hS).mono fun e w2 hl => hl.toR) fun hok hle q w' hsame hql => wr_10 p q w' hk hO hS hok (by rw [hdrB4] at hle; exact hle) hsame hql
theorem lawW_11 (p : Pkt) (w : World) (hk : p.kind = 11) (h : p.Lies w w.heap.size) (hO : p.Ok3) (hS : p.Small) :
    Calls Tryz.prog 5 #[.agg p.cells] w fun e w' => e = .returned (.bool true) ∧ Below w.heap.size w w' :=
  law_write p ((⟨p.kind, p.sender, p.media, 0, 0, 0, 0, Sl.nil, Sl.nil, Sl.nil, Sl.nil, ByteArray.empty, 0, Sl.nil, Sl.nil, Sl.nil, p.entries, 0, Sl.nil, 0, 0, 0, 0, 0, Sl.nil, Sl.nil, false, 0, 0, 0⟩ : Pkt)) (hdrB (4) 206 ((((be32 p.sender ++ be32 p.media ++ entsB p.entries.l).length : Nat) : Int) / 4) ++ (be32 p.sender ++ be32 p.media ++ entsB p.entries.l)) (((decide (0 < p.entries.l.length))) = true) w h ⟨Reads.none_, Reads.none_, Reads.none_, (fun x hx => by cases hx), Reads.none_, Reads.none_, Reads.none_, Reads.none_, h.entries, Reads.none_, (fun x hx => by cases hx), Reads.none_, (fun x hx => by cases hx), Reads.none_⟩ ⟨(Nat.zero_le _), (Nat.zero_le _), (Nat.zero_le _), (Nat.zero_le _), (Nat.zero_le _), (Nat.zero_le _), (Nat.zero_le _), hS.short.entries, (Nat.zero_le _), (Nat.zero_le _), (Nat.zero_le _), (fun x hx => by cases hx), (fun x hx => by cases hx)⟩ (fun w' hw => (legalA_11 p w' hk ((h.below hw).more hw.size) hO hS).mono fun e w2 hl => hl.toR) fun hok hle q w' hsame hql => wr_11 p q w' hk hO hS hok (by rw [hdrB4] at hle; exact hle) hsame hql
theorem lawW_12 (p : Pkt) (w : World) (hk : p.kind = 12) (h : p.Lies w w.heap.size) (hO : p.Ok3) (hS : p.Small) :
    Calls Tryz.prog 5 #[.agg p.cells] w fun e w' => e = .returned (.bool true) ∧ Below w.heap.size w w' :=
  law_write p ((⟨p.kind, p.sender, 0, 0, 0, 0, 0, Sl.nil, Sl.nil, Sl.nil, p.sources, ByteArray.empty, 0, Sl.nil, Sl.nil, Sl.nil, Sl.nil, p.bits, Sl.nil, 0, 0, 0, 0, 0, Sl.nil, Sl.nil, false, 0, 0, 0⟩ : Pkt)) (hdrB (15) 206 ((((be32 p.sender ++ be32 0 ++ [82, 69, 77, 66, (p.sources.l.length : Int) % 256, mantV p.bits.toNat / 65536 % 256, mantV p.bits.toNat / 256 % 256, mantV p.bits.toNat % 256] ++ p.sources.l.flatMap be32).length : Nat) : Int) / 4) ++ (be32 p.sender ++ be32 0 ++ [82, 69, 77, 66, (p.sources.l.length : Int) % 256, mantV p.bits.toNat / 65536 % 256, mantV p.bits.toNat / 256 % 256, mantV p.bits.toNat % 256] ++ p.sources.l.flatMap be32)) (((mantF p.bits.toNat && decide (((p.sources.l.length : Nat) : Int) ≤ 255))) = true) w h ⟨Reads.none_, Reads.none_, Reads.none_, (fun x hx => by cases hx), h.sources, Reads.none_, Reads.none_, Reads.none_, Reads.none_, Reads.none_, (fun x hx => by cases hx), Reads.none_, (fun x hx => by cases hx), Reads.none_⟩ ⟨(Nat.zero_le _), (Nat.zero_le _), (Nat.zero_le _), hS.short.sources, (Nat.zero_le _), (Nat.zero_le _), (Nat.zero_le _), (Nat.zero_le _), (Nat.zero_le _), (Nat.zero_le _), (Nat.zero_le _), (fun x hx => by cases hx), (fun x hx => by cases hx)⟩ (fun w' hw => (legalA_12 p w' hk ((h.below hw).more hw.size) hO hS).mono fun e w2 hl => hl.toR) fun hok hle q w' hsame hql => wr_12 p q w' hk hO hS hok (by rw [hdrB4] at hle; exact hle) hsame hql
theorem law_never (p : Pkt) (w : World) (h : p.Lies w w.heap.size) (hleg : ∀ w', Below w.heap.size w w' → Calls Tryz.prog 8 #[.agg p.cells] w' fun e w'' => e = .returned (.tuple #[.agg p.cells, .slice none 0 0, .bool false]) ∧ Below w'.heap.size w' w'') :
    Calls Tryz.prog 5 #[.agg p.cells] w fun e w' => e = .returned (.bool true) ∧ Below w.heap.size w w' :=
  law_write p Pkt.zero [] False w h ⟨Reads.none_, Reads.none_, Reads.none_, (fun x hx => by cases hx), Reads.none_, Reads.none_, Reads.none_, Reads.none_, Reads.none_, Reads.none_, (fun x hx => by cases hx), Reads.none_, (fun x hx => by cases hx), Reads.none_⟩ ⟨(Nat.zero_le _), (Nat.zero_le _), (Nat.zero_le _), (Nat.zero_le _), (Nat.zero_le _), (Nat.zero_le _), (Nat.zero_le _), (Nat.zero_le _), (Nat.zero_le _), (Nat.zero_le _), (Nat.zero_le _), (fun x hx => by cases hx), (fun x hx => by cases hx)⟩ (fun w' hw => (hleg w' hw).mono fun e w2 hl => .inr hl) fun hf => hf.elim
theorem lawW_off (p : Pkt) (w : World) (hk : p.kind < 0 ∨ 13 < p.kind) (h : p.Lies w w.heap.size) :
    Calls Tryz.prog 5 #[.agg p.cells] w fun e w' => e = .returned (.bool true) ∧ Below w.heap.size w w' :=
  law_never p w h fun w' hw => legal_none p w' fun w2 hw2 => by
    rcases hk with hk | hk
    · exact formatOne_neg p w2 hk
    · exact formatOne_big p w2 hk
theorem lawW_13 (p : Pkt) (w : World) (hk : p.kind = 13) (h : p.Lies w w.heap.size) (hO : p.Ok3) :
    Calls Tryz.prog 5 #[.agg p.cells] w fun e w' => e = .returned (.bool true) ∧ Below w.heap.size w w' :=
  law_never p w h fun w' hw => legal_none p w' fun w2 hw2 => (formatOne_any p w2 13 15 205 [] false (by rw [hk]; rfl) (by decide) (by decide) (by decide) (by decide) (by decide) fun w3 hw3 => form_13 p w3 hk hO.ok2.s0 hO.ok2.s1 hO.ok2.m0 hO.ok2.m1).mono fun e w3 hf => by
      rcases hf with ⟨h1, _⟩ | ⟨_, he, hB⟩
      · cases h1
      · exact ⟨he, hB⟩
theorem lawW_0 (p : Pkt) (w : World) (hk : p.kind = 0) (h : p.Lies w w.heap.size) (hO : p.Ok3) (hS : p.Small) :
    Calls Tryz.prog 5 #[.agg p.cells] w fun e w' => e = .returned (.bool true) ∧ Below w.heap.size w w' :=
  law_write p { Pkt.zero with data := p.data } p.data.l True w h ⟨Reads.none_, Reads.none_, Reads.none_, (fun x hx => by cases hx), Reads.none_, h.data, Reads.none_, Reads.none_, Reads.none_, Reads.none_, (fun x hx => by cases hx), Reads.none_, (fun x hx => by cases hx), Reads.none_⟩ ⟨(Nat.zero_le _), (Nat.zero_le _), (Nat.zero_le _), (Nat.zero_le _), hS.short.data, (Nat.zero_le _), (Nat.zero_le _), (Nat.zero_le _), (Nat.zero_le _), (Nat.zero_le _), (Nat.zero_le _), (fun x hx => by cases hx), (fun x hx => by cases hx)⟩ (fun w' hw => (legal_raw p { Pkt.zero with data := p.data } w' (fun w2 hw2 => formatOne_raw p w2 hk ((h.data.below (hw.trans (hw2.mono hw.size))).more (hw.trans (hw2.mono hw.size)).size) hO hS.short.data) fun w2 hw2 => compact_0 p w2 hk).mono fun e w3 ⟨hB, he⟩ => by
    rcases he with he | ⟨hl, he⟩
    · exact .inr ⟨he, hB⟩
    · refine .inl ⟨trivial, hl, _, _, he, ?_, hB⟩
      have hw3 := hw.trans (hB.mono hw.size)
      have := (h.data.below hw3).more hw3.size
      unfold Sl.Lies at this
      rwa [u8c_flat] at this) fun _ hle q w' hsame hql => wr_0 p q w' hS hsame hql
theorem lawW_any (p : Pkt) (w : World) (h : p.Lies w w.heap.size) (hO : p.Ok3) (hS : p.Small) :
    Calls Tryz.prog 5 #[.agg p.cells] w fun e w' => e = .returned (.bool true) ∧ Below w.heap.size w w' := by
  by_cases h1 : p.kind = 1
  · exact lawW_1 p w h1 h hO hS
  by_cases h2 : p.kind = 2
  · exact lawW_2 p w h2 h hO hS
  by_cases h3 : p.kind = 3
  · exact lawW_3 p w h3 h hO hS
  by_cases h4 : p.kind = 4
  · exact lawW_4 p w h4 h hO hS
  by_cases h5 : p.kind = 5
  · exact lawW_5 p w h5 h hO hS
  by_cases h6 : p.kind = 6
  · exact lawW_6 p w h6 h hO hS
  by_cases h7 : p.kind = 7
  · exact lawW_7 p w h7 h hO hS
  by_cases h8 : p.kind = 8
  · exact lawW_8 p w h8 h hO hS
  by_cases h9 : p.kind = 9
  · exact lawW_9 p w h9 h hO hS
  by_cases h10 : p.kind = 10
  · exact lawW_10 p w h10 h hO hS
  by_cases h11 : p.kind = 11
  · exact lawW_11 p w h11 h hO hS
  by_cases h12 : p.kind = 12
  · exact lawW_12 p w h12 h hO hS
  by_cases h13 : p.kind = 13
  · exact lawW_13 p w h13 h hO
  by_cases h0 : p.kind = 0
  · exact lawW_0 p w h0 h hO hS
  exact lawW_off p w (by omega) h
end Go.Proofs.YtmmfpgoodfgkbaaGreat
