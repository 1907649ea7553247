/-
  FOR EVERY PACKET: what the law's look at it hands back, and that what is made of it writes just that. Condition: the numbers fit their kinds; no part is too long.
-/
import Derived.Test.YtmmfpgoodfgkbaaGreatWrK
import Derived.Test.YtmmfpgoodfgkbaaGreatFmtRaw
namespace Go.Proofs.YtmmfpgoodfgkbaaGreat
open Go Go.RowKit
set_option linter.unusedVariables false

structure PLaw (p c : Pkt) (bs : List Int) (D : Bool) : Prop where
  len : D = true → bs.length ≤ 131072
  yes : D = true → ∀ w B, B ≤ w.heap.size → p.Lies w B → Calls Tryz.prog 8 #[.agg p.cells] w fun e w' => ∃ A cap, e = .returned (.tuple #[.agg c.cells, .slice A bs.length cap, .bool true]) ∧ RowIn w' (fun g => g < B ∨ w.heap.size ≤ g) A bs ∧ Below w.heap.size w w'
  no : D = false → ∀ w, p.Lies w w.heap.size → Calls Tryz.prog 8 #[.agg p.cells] w fun e w' => e = .returned (.tuple #[.agg p.cells, .slice none 0 0, .bool false]) ∧ Below w.heap.size w w'
  lies : ∀ w B, p.Lies w B → c.Lies w B
  short : c.Short
  built : D = true → ∀ q w, Pkt.Same c q → q.Lies w w.heap.size → Calls Tryz.prog 29 #[.agg q.cells] w (Built w bs)
theorem pw_of {p c : Pkt} {count type : Int} {bs : List Int} {ok : Bool} (hleg : ∀ w, p.Lies w w.heap.size → Calls Tryz.prog 8 #[.agg p.cells] w (Legal w p c count type bs ok)) (hl : ∀ w B, p.Lies w B → c.Lies w B) (hs : c.Short)
    (hb : ok = true → 4 + bs.length ≤ 131072 → ∀ q w, Pkt.Same c q → q.Lies w w.heap.size → Calls Tryz.prog 29 #[.agg q.cells] w (Built w (hdrB count type (((bs.length : Nat) : Int) / 4) ++ bs))) :
    PLaw p c (hdrB count type (((bs.length : Nat) : Int) / 4) ++ bs) (ok && decide (4 + bs.length ≤ 131072)) := by
  have e4 := hdrB4 count type (((bs.length : Nat) : Int) / 4) bs
  have hD : ∀ {b}, (ok && decide (4 + bs.length ≤ 131072)) = b → (b = true → ok = true ∧ 4 + bs.length ≤ 131072) ∧ (b = false → ¬ (ok = true ∧ 4 + bs.length ≤ 131072)) := fun {b} h => by
    subst h
    cases ok <;> simp
  refine ⟨fun h => by rw [e4]; exact ((hD rfl).1 h).2, fun h w B hB hp => ?_, fun h w hp => ?_, hl, hs, fun h => hb ((hD rfl).1 h).1 ((hD rfl).1 h).2⟩
  · refine (hleg w (hp.more hB)).mono fun e w' hL => ?_
    obtain ⟨h1, h2⟩ := (hD rfl).1 h
    rcases hL with ⟨_, _, g, cap, he, ho, hBl⟩ | ⟨h3, _⟩
    · refine ⟨some ⟨g, 0, none⟩, cap, by rw [e4]; exact he, ?_, hBl⟩
      exact (RowIn.of_own ho).wide fun g hg => .inr hg
    · rcases h3 with h3 | h3
      · rw [h3] at h1; cases h1
      · omega
  · refine (hleg w hp).mono fun e w' hL => ?_
    have hn := (hD rfl).2 h
    rcases hL with ⟨h1, h2, _⟩ | ⟨_, he, hBl⟩
    · exact absurd ⟨h1, h2⟩ hn
    · exact ⟨he, hBl⟩
theorem pw_never {p : Pkt} (hleg : ∀ w, p.Lies w w.heap.size → Calls Tryz.prog 8 #[.agg p.cells] w fun e w' => e = .returned (.tuple #[.agg p.cells, .slice none 0 0, .bool false]) ∧ Below w.heap.size w w') : PLaw p Pkt.zero [] false :=
  ⟨(fun h => by cases h), (fun h => by cases h), fun _ => hleg, fun w B _ => ⟨Reads.none_, Reads.none_, Reads.none_, (fun x hx => by cases hx), Reads.none_, Reads.none_, Reads.none_, Reads.none_, Reads.none_, Reads.none_, (fun x hx => by cases hx), Reads.none_, (fun x hx => by cases hx), Reads.none_⟩, ⟨(Nat.zero_le _), (Nat.zero_le _), (Nat.zero_le _), (Nat.zero_le _), (Nat.zero_le _), (Nat.zero_le _), (Nat.zero_le _), (Nat.zero_le _), (Nat.zero_le _), (Nat.zero_le _), (Nat.zero_le _), (fun x hx => by cases hx), (fun x hx => by cases hx)⟩, (fun h => by cases h)⟩
theorem pw_1 (p : Pkt) (hk : p.kind = 1) (hO : p.Ok3) (hS : p.Small) : PLaw p ((⟨p.kind, p.sender, 0, p.ntp, p.rtp, p.packets, p.octets, p.reports, p.ext, Sl.nil, Sl.nil, ByteArray.empty, 0, Sl.nil, Sl.nil, Sl.nil, Sl.nil, 0, Sl.nil, 0, 0, 0, 0, 0, Sl.nil, Sl.nil, false, 0, 0, 0⟩ : Pkt)) (hdrB (((p.reports.l.length : Nat) : Int) % 32) 200 ((((be32 p.sender ++ be32 (p.ntp / 4294967296) ++ be32 (p.ntp % 4294967296) ++ be32 p.rtp ++ be32 p.packets ++ be32 p.octets ++ repsB p.reports.l ++ p.ext.l).length : Nat) : Int) / 4) ++ (be32 p.sender ++ be32 (p.ntp / 4294967296) ++ be32 (p.ntp % 4294967296) ++ be32 p.rtp ++ be32 p.packets ++ be32 p.octets ++ repsB p.reports.l ++ p.ext.l)) ((((decide (((p.reports.l.length : Nat) : Int) ≤ 31) && p.reports.l.all repOk) && (((p.ext.l.length : Nat) : Int).tmod 4 == 0))) && decide (4 + (be32 p.sender ++ be32 (p.ntp / 4294967296) ++ be32 (p.ntp % 4294967296) ++ be32 p.rtp ++ be32 p.packets ++ be32 p.octets ++ repsB p.reports.l ++ p.ext.l).length ≤ 131072)) :=
  pw_of (fun w h => legalA_1 p w hk h hO hS) (fun w B h => ⟨h.reports, h.ext, Reads.none_, (fun x hx => by cases hx), Reads.none_, Reads.none_, Reads.none_, Reads.none_, Reads.none_, Reads.none_, (fun x hx => by cases hx), Reads.none_, (fun x hx => by cases hx), Reads.none_⟩) ⟨hS.short.reports, hS.short.ext, (Nat.zero_le _), (Nat.zero_le _), (Nat.zero_le _), (Nat.zero_le _), (Nat.zero_le _), (Nat.zero_le _), (Nat.zero_le _), (Nat.zero_le _), (Nat.zero_le _), (fun x hx => by cases hx), (fun x hx => by cases hx)⟩ fun hok hle q w hs hq => wr_1 p q w hk hO hS hok hle hs hq
theorem pw_2 (p : Pkt) (hk : p.kind = 2) (hO : p.Ok3) (hS : p.Small) : PLaw p ((⟨p.kind, p.sender, 0, 0, 0, 0, 0, p.reports, p.ext, Sl.nil, Sl.nil, ByteArray.empty, 0, Sl.nil, Sl.nil, Sl.nil, Sl.nil, 0, Sl.nil, 0, 0, 0, 0, 0, Sl.nil, Sl.nil, false, 0, 0, 0⟩ : Pkt)) (hdrB (((p.reports.l.length : Nat) : Int) % 32) 201 ((((be32 p.sender ++ repsB p.reports.l ++ p.ext.l).length : Nat) : Int) / 4) ++ (be32 p.sender ++ repsB p.reports.l ++ p.ext.l)) ((((decide (((p.reports.l.length : Nat) : Int) ≤ 31) && p.reports.l.all repOk) && (((p.ext.l.length : Nat) : Int).tmod 4 == 0))) && decide (4 + (be32 p.sender ++ repsB p.reports.l ++ p.ext.l).length ≤ 131072)) :=
  pw_of (fun w h => legalA_2 p w hk h hO hS) (fun w B h => ⟨h.reports, h.ext, Reads.none_, (fun x hx => by cases hx), Reads.none_, Reads.none_, Reads.none_, Reads.none_, Reads.none_, Reads.none_, (fun x hx => by cases hx), Reads.none_, (fun x hx => by cases hx), Reads.none_⟩) ⟨hS.short.reports, hS.short.ext, (Nat.zero_le _), (Nat.zero_le _), (Nat.zero_le _), (Nat.zero_le _), (Nat.zero_le _), (Nat.zero_le _), (Nat.zero_le _), (Nat.zero_le _), (Nat.zero_le _), (fun x hx => by cases hx), (fun x hx => by cases hx)⟩ fun hok hle q w hs hq => wr_2 p q w hk hO hS hok hle hs hq
theorem pw_3 (p : Pkt) (hk : p.kind = 3) (hO : p.Ok3) (hS : p.Small) : PLaw p ((⟨p.kind, 0, 0, 0, 0, 0, 0, Sl.nil, Sl.nil, p.chunks, Sl.nil, ByteArray.empty, 0, Sl.nil, Sl.nil, Sl.nil, Sl.nil, 0, Sl.nil, 0, 0, 0, 0, 0, Sl.nil, Sl.nil, false, 0, 0, 0⟩ : Pkt)) (hdrB (((p.chunks.l.length : Nat) : Int) % 32) 202 ((((chunksB p.chunks.l).length : Nat) : Int) / 4) ++ (chunksB p.chunks.l)) (((decide (((p.chunks.l.length : Nat) : Int) ≤ 31) && p.chunks.l.all chunkOk)) && decide (4 + (chunksB p.chunks.l).length ≤ 131072)) :=
  pw_of (fun w h => legalA_3 p w hk h hO hS) (fun w B h => ⟨Reads.none_, Reads.none_, h.chunks, h.items, Reads.none_, Reads.none_, Reads.none_, Reads.none_, Reads.none_, Reads.none_, (fun x hx => by cases hx), Reads.none_, (fun x hx => by cases hx), Reads.none_⟩) ⟨(Nat.zero_le _), (Nat.zero_le _), hS.short.chunks, (Nat.zero_le _), (Nat.zero_le _), (Nat.zero_le _), (Nat.zero_le _), (Nat.zero_le _), (Nat.zero_le _), (Nat.zero_le _), (Nat.zero_le _), hS.short.items, (fun x hx => by cases hx)⟩ fun hok hle q w hs hq => wr_3 p q w hk hO hS hok hle hs hq
theorem pw_4 (p : Pkt) (hk : p.kind = 4) (hO : p.Ok3) (hS : p.Small) : PLaw p ((⟨p.kind, 0, 0, 0, 0, 0, 0, Sl.nil, Sl.nil, Sl.nil, p.sources, p.text, 0, Sl.nil, Sl.nil, Sl.nil, Sl.nil, 0, Sl.nil, 0, 0, 0, 0, 0, Sl.nil, Sl.nil, false, 0, 0, 0⟩ : Pkt)) (hdrB (((p.sources.l.length % 32 : Nat) : Int)) 203 ((((byeB p.sources.l p.text).length : Nat) : Int) / 4) ++ (byeB p.sources.l p.text)) (((decide ((p.sources.l.length : Int) ≤ 31) && decide ((p.text.size : Int) ≤ 255))) && decide (4 + (byeB p.sources.l p.text).length ≤ 131072)) :=
  pw_of (fun w h => legalA_4 p w hk h hO hS) (fun w B h => ⟨Reads.none_, Reads.none_, Reads.none_, (fun x hx => by cases hx), h.sources, Reads.none_, Reads.none_, Reads.none_, Reads.none_, Reads.none_, (fun x hx => by cases hx), Reads.none_, (fun x hx => by cases hx), Reads.none_⟩) ⟨(Nat.zero_le _), (Nat.zero_le _), (Nat.zero_le _), hS.short.sources, (Nat.zero_le _), (Nat.zero_le _), (Nat.zero_le _), (Nat.zero_le _), (Nat.zero_le _), (Nat.zero_le _), (Nat.zero_le _), (fun x hx => by cases hx), (fun x hx => by cases hx)⟩ fun hok hle q w hs hq => wr_4 p q w hk hO hS hok hle hs hq
theorem pw_5 (p : Pkt) (hk : p.kind = 5) (hO : p.Ok3) (hS : p.Small) : PLaw p ((⟨p.kind, p.sender, 0, 0, 0, 0, 0, Sl.nil, Sl.nil, Sl.nil, Sl.nil, p.text, p.sub, p.data, Sl.nil, Sl.nil, Sl.nil, 0, Sl.nil, 0, 0, 0, 0, 0, Sl.nil, Sl.nil, false, 0, 0, 0⟩ : Pkt)) (hdrB (p.sub % 32) 204 ((((be32 p.sender ++ sb p.text ++ p.data.l).length : Nat) : Int) / 4) ++ (be32 p.sender ++ sb p.text ++ p.data.l)) (((((decide ((p.sub : Int) ≤ 31) && ((p.text.size : Int) == 4)) && (((p.data.l.length : Nat) : Int).tmod 4 == 0)) && decide (((p.data.l.length : Nat) : Int) ≤ 65520))) && decide (4 + (be32 p.sender ++ sb p.text ++ p.data.l).length ≤ 131072)) :=
  pw_of (fun w h => legalA_5 p w hk h hO hS) (fun w B h => ⟨Reads.none_, Reads.none_, Reads.none_, (fun x hx => by cases hx), Reads.none_, h.data, Reads.none_, Reads.none_, Reads.none_, Reads.none_, (fun x hx => by cases hx), Reads.none_, (fun x hx => by cases hx), Reads.none_⟩) ⟨(Nat.zero_le _), (Nat.zero_le _), (Nat.zero_le _), (Nat.zero_le _), hS.short.data, (Nat.zero_le _), (Nat.zero_le _), (Nat.zero_le _), (Nat.zero_le _), (Nat.zero_le _), (Nat.zero_le _), (fun x hx => by cases hx), (fun x hx => by cases hx)⟩ fun hok hle q w hs hq => wr_5 p q w hk hO hS hok hle hs hq
theorem pw_6 (p : Pkt) (hk : p.kind = 6) (hO : p.Ok3) (hS : p.Small) : PLaw p ((⟨p.kind, p.sender, p.media, 0, 0, 0, 0, Sl.nil, Sl.nil, Sl.nil, Sl.nil, ByteArray.empty, 0, Sl.nil, p.pairs, Sl.nil, Sl.nil, 0, Sl.nil, 0, 0, 0, 0, 0, Sl.nil, Sl.nil, false, 0, 0, 0⟩ : Pkt)) (hdrB (1) 205 ((((be32 p.sender ++ be32 p.media ++ pairsB p.pairs.l).length : Nat) : Int) / 4) ++ (be32 p.sender ++ be32 p.media ++ pairsB p.pairs.l)) (((decide (0 < p.pairs.l.length) && decide (((p.pairs.l.length : Nat) : Int) ≤ 253))) && decide (4 + (be32 p.sender ++ be32 p.media ++ pairsB p.pairs.l).length ≤ 131072)) :=
  pw_of (fun w h => legalA_6 p w hk h hO hS) (fun w B h => ⟨Reads.none_, Reads.none_, Reads.none_, (fun x hx => by cases hx), Reads.none_, Reads.none_, h.pairs, Reads.none_, Reads.none_, Reads.none_, (fun x hx => by cases hx), Reads.none_, (fun x hx => by cases hx), Reads.none_⟩) ⟨(Nat.zero_le _), (Nat.zero_le _), (Nat.zero_le _), (Nat.zero_le _), (Nat.zero_le _), hS.short.pairs, (Nat.zero_le _), (Nat.zero_le _), (Nat.zero_le _), (Nat.zero_le _), (Nat.zero_le _), (fun x hx => by cases hx), (fun x hx => by cases hx)⟩ fun hok hle q w hs hq => wr_6 p q w hk hO hS hok hle hs hq
theorem pw_7 (p : Pkt) (hk : p.kind = 7) (hO : p.Ok3) (hS : p.Small) : PLaw p ((⟨p.kind, p.sender, p.media, 0, 0, 0, 0, Sl.nil, Sl.nil, Sl.nil, Sl.nil, ByteArray.empty, 0, Sl.nil, Sl.nil, Sl.nil, Sl.nil, 0, Sl.nil, 0, 0, 0, 0, 0, Sl.nil, Sl.nil, false, 0, 0, 0⟩ : Pkt)) (hdrB (5) 205 ((((be32 p.sender ++ be32 p.media).length : Nat) : Int) / 4) ++ (be32 p.sender ++ be32 p.media)) ((true) && decide (4 + (be32 p.sender ++ be32 p.media).length ≤ 131072)) :=
  pw_of (fun w h => legalA_7 p w hk h hO hS) (fun w B h => ⟨Reads.none_, Reads.none_, Reads.none_, (fun x hx => by cases hx), Reads.none_, Reads.none_, Reads.none_, Reads.none_, Reads.none_, Reads.none_, (fun x hx => by cases hx), Reads.none_, (fun x hx => by cases hx), Reads.none_⟩) ⟨(Nat.zero_le _), (Nat.zero_le _), (Nat.zero_le _), (Nat.zero_le _), (Nat.zero_le _), (Nat.zero_le _), (Nat.zero_le _), (Nat.zero_le _), (Nat.zero_le _), (Nat.zero_le _), (Nat.zero_le _), (fun x hx => by cases hx), (fun x hx => by cases hx)⟩ fun hok hle q w hs hq => wr_7 p q w hk hO hS hok hle hs hq
theorem pw_8 (p : Pkt) (hk : p.kind = 8) (hO : p.Ok3) (hS : p.Small) : PLaw p ((⟨p.kind, p.sender, 0, 0, 0, 0, 0, Sl.nil, Sl.nil, Sl.nil, Sl.nil, ByteArray.empty, 0, Sl.nil, Sl.nil, Sl.nil, Sl.nil, 0, p.blocks, p.time, 0, 0, 0, 0, Sl.nil, Sl.nil, false, 0, 0, 0⟩ : Pkt)) (hdrB (11) 205 ((((blosB (be32 p.sender) p.blocks.l ++ be32 p.time).length : Nat) : Int) / 4) ++ (blosB (be32 p.sender) p.blocks.l ++ be32 p.time)) (((decide (0 < p.blocks.l.length) && p.blocks.l.all bloOk)) && decide (4 + (blosB (be32 p.sender) p.blocks.l ++ be32 p.time).length ≤ 131072)) :=
  pw_of (fun w h => legalA_8 p w hk h hO hS) (fun w B h => ⟨Reads.none_, Reads.none_, Reads.none_, (fun x hx => by cases hx), Reads.none_, Reads.none_, Reads.none_, Reads.none_, Reads.none_, h.blocks, h.mets, Reads.none_, (fun x hx => by cases hx), Reads.none_⟩) ⟨(Nat.zero_le _), (Nat.zero_le _), (Nat.zero_le _), (Nat.zero_le _), (Nat.zero_le _), (Nat.zero_le _), (Nat.zero_le _), (Nat.zero_le _), hS.short.blocks, (Nat.zero_le _), (Nat.zero_le _), (fun x hx => by cases hx), hS.short.mets⟩ fun hok hle q w hs hq => wr_8 p q w hk hO hS hok hle hs hq
theorem pw_9 (p : Pkt) (hk : p.kind = 9) (hO : p.Ok3) (hS : p.Small) : PLaw p ((⟨p.kind, p.sender, p.media, 0, 0, 0, 0, Sl.nil, Sl.nil, Sl.nil, Sl.nil, ByteArray.empty, 0, Sl.nil, Sl.nil, Sl.nil, Sl.nil, 0, Sl.nil, 0, 0, 0, 0, 0, Sl.nil, Sl.nil, false, 0, 0, 0⟩ : Pkt)) (hdrB (1) 206 ((((be32 p.sender ++ be32 p.media).length : Nat) : Int) / 4) ++ (be32 p.sender ++ be32 p.media)) ((true) && decide (4 + (be32 p.sender ++ be32 p.media).length ≤ 131072)) :=
  pw_of (fun w h => legalA_9 p w hk h hO hS) (fun w B h => ⟨Reads.none_, Reads.none_, Reads.none_, (fun x hx => by cases hx), Reads.none_, Reads.none_, Reads.none_, Reads.none_, Reads.none_, Reads.none_, (fun x hx => by cases hx), Reads.none_, (fun x hx => by cases hx), Reads.none_⟩) ⟨(Nat.zero_le _), (Nat.zero_le _), (Nat.zero_le _), (Nat.zero_le _), (Nat.zero_le _), (Nat.zero_le _), (Nat.zero_le _), (Nat.zero_le _), (Nat.zero_le _), (Nat.zero_le _), (Nat.zero_le _), (fun x hx => by cases hx), (fun x hx => by cases hx)⟩ fun hok hle q w hs hq => wr_9 p q w hk hO hS hok hle hs hq
theorem pw_10 (p : Pkt) (hk : p.kind = 10) (hO : p.Ok3) (hS : p.Small) : PLaw p ((⟨p.kind, p.sender, p.media, 0, 0, 0, 0, Sl.nil, Sl.nil, Sl.nil, Sl.nil, ByteArray.empty, 0, Sl.nil, Sl.nil, p.slices, Sl.nil, 0, Sl.nil, 0, 0, 0, 0, 0, Sl.nil, Sl.nil, false, 0, 0, 0⟩ : Pkt)) (hdrB (2) 206 ((((be32 p.sender ++ be32 p.media ++ slcsB p.slices.l).length : Nat) : Int) / 4) ++ (be32 p.sender ++ be32 p.media ++ slcsB p.slices.l)) ((((decide (0 < p.slices.l.length) && decide (((p.slices.l.length : Nat) : Int) ≤ 253)) && p.slices.l.all slcOk)) && decide (4 + (be32 p.sender ++ be32 p.media ++ slcsB p.slices.l).length ≤ 131072)) :=
  pw_of (fun w h => legalA_10 p w hk h hO hS) (fun w B h => ⟨Reads.none_, Reads.none_, Reads.none_, (fun x hx => by cases hx), Reads.none_, Reads.none_, Reads.none_, h.slices, Reads.none_, Reads.none_, (fun x hx => by cases hx), Reads.none_, (fun x hx => by cases hx), Reads.none_⟩) ⟨(Nat.zero_le _), (Nat.zero_le _), (Nat.zero_le _), (Nat.zero_le _), (Nat.zero_le _), (Nat.zero_le _), hS.short.slices, (Nat.zero_le _), (Nat.zero_le _), (Nat.zero_le _), (Nat.zero_le _), (fun x hx => by cases hx), (fun x hx => by cases hx)⟩ fun hok hle q w hs hq => wr_10 p q w hk hO hS hok hle hs hq
theorem pw_11 (p : Pkt) (hk : p.kind = 11) (hO : p.Ok3) (hS : p.Small) : PLaw p ((⟨p.kind, p.sender, p.media, 0, 0, 0, 0, Sl.nil, Sl.nil, Sl.nil, Sl.nil, ByteArray.empty, 0, Sl.nil, Sl.nil, Sl.nil, p.entries, 0, Sl.nil, 0, 0, 0, 0, 0, Sl.nil, Sl.nil, false, 0, 0, 0⟩ : Pkt)) (hdrB (4) 206 ((((be32 p.sender ++ be32 p.media ++ entsB p.entries.l).length : Nat) : Int) / 4) ++ (be32 p.sender ++ be32 p.media ++ entsB p.entries.l)) (((decide (0 < p.entries.l.length))) && decide (4 + (be32 p.sender ++ be32 p.media ++ entsB p.entries.l).length ≤ 131072)) :=
  pw_of (fun w h => legalA_11 p w hk h hO hS) (fun w B h => ⟨Reads.none_, Reads.none_, Reads.none_, (fun x hx => by cases hx), Reads.none_, Reads.none_, Reads.none_, Reads.none_, h.entries, Reads.none_, (fun x hx => by cases hx), Reads.none_, (fun x hx => by cases hx), Reads.none_⟩) ⟨(Nat.zero_le _), (Nat.zero_le _), (Nat.zero_le _), (Nat.zero_le _), (Nat.zero_le _), (Nat.zero_le _), (Nat.zero_le _), hS.short.entries, (Nat.zero_le _), (Nat.zero_le _), (Nat.zero_le _), (fun x hx => by cases hx), (fun x hx => by cases hx)⟩ fun hok hle q w hs hq => wr_11 p q w hk hO hS hok hle hs hq
theorem pw_12 (p : Pkt) (hk : p.kind = 12) (hO : p.Ok3) (hS : p.Small) : PLaw p ((⟨p.kind, p.sender, 0, 0, 0, 0, 0, Sl.nil, Sl.nil, Sl.nil, p.sources, ByteArray.empty, 0, Sl.nil, Sl.nil, Sl.nil, Sl.nil, p.bits, Sl.nil, 0, 0, 0, 0, 0, Sl.nil, Sl.nil, false, 0, 0, 0⟩ : Pkt)) (hdrB (15) 206 ((((be32 p.sender ++ be32 0 ++ [82, 69, 77, 66, (p.sources.l.length : Int) % 256, mantV p.bits.toNat / 65536 % 256, mantV p.bits.toNat / 256 % 256, mantV p.bits.toNat % 256] ++ p.sources.l.flatMap be32).length : Nat) : Int) / 4) ++ (be32 p.sender ++ be32 0 ++ [82, 69, 77, 66, (p.sources.l.length : Int) % 256, mantV p.bits.toNat / 65536 % 256, mantV p.bits.toNat / 256 % 256, mantV p.bits.toNat % 256] ++ p.sources.l.flatMap be32)) (((mantF p.bits.toNat && decide (((p.sources.l.length : Nat) : Int) ≤ 255))) && decide (4 + (be32 p.sender ++ be32 0 ++ [82, 69, 77, 66, (p.sources.l.length : Int) % 256, mantV p.bits.toNat / 65536 % 256, mantV p.bits.toNat / 256 % 256, mantV p.bits.toNat % 256] ++ p.sources.l.flatMap be32).length ≤ 131072)) :=
  pw_of (fun w h => legalA_12 p w hk h hO hS) (fun w B h => ⟨Reads.none_, Reads.none_, Reads.none_, (fun x hx => by cases hx), h.sources, Reads.none_, Reads.none_, Reads.none_, Reads.none_, Reads.none_, (fun x hx => by cases hx), Reads.none_, (fun x hx => by cases hx), Reads.none_⟩) ⟨(Nat.zero_le _), (Nat.zero_le _), (Nat.zero_le _), hS.short.sources, (Nat.zero_le _), (Nat.zero_le _), (Nat.zero_le _), (Nat.zero_le _), (Nat.zero_le _), (Nat.zero_le _), (Nat.zero_le _), (fun x hx => by cases hx), (fun x hx => by cases hx)⟩ fun hok hle q w hs hq => wr_12 p q w hk hO hS hok hle hs hq
theorem pw_off (p : Pkt) (hk : p.kind < 0 ∨ 13 < p.kind) : PLaw p Pkt.zero [] false :=
  pw_never fun w h => legal_n p w none 0 0 false (.inl rfl) fun w2 hw2 => by
    rcases hk with hk | hk
    · exact formatOne_neg p w2 hk
    · exact formatOne_big p w2 hk
theorem pw_13 (p : Pkt) (hk : p.kind = 13) (hO : p.Ok3) : PLaw p Pkt.zero [] false :=
  pw_never fun w h => legal_n p w none 0 0 false (.inl rfl) fun w2 hw2 => (formatOne_any p w2 13 15 205 [] false (by rw [hk]; rfl) (by decide) (by decide) (by decide) (by decide) (by decide) fun w3 hw3 => form_13 p w3 hk hO.ok2.s0 hO.ok2.s1 hO.ok2.m0 hO.ok2.m1).mono fun e w3 hf => by
      rcases hf with ⟨h1, _⟩ | ⟨_, he, hB⟩
      · cases h1
      · exact ⟨he, hB⟩
theorem pw_0 (p : Pkt) (hk : p.kind = 0) (hO : p.Ok3) (hS : p.Small) : ∃ D, PLaw p { Pkt.zero with data := p.data } p.data.l D := by
  obtain ⟨r, hr⟩ := formatOne_raw p hk hO.data hO.dcap
  refine ⟨r && decide (p.data.l.length ≤ 131072), fun h => ?_, fun h w B hB hp => ?_, fun h w hp => ?_, fun w B h => ⟨Reads.none_, Reads.none_, Reads.none_, (fun x hx => by cases hx), Reads.none_, h.data, Reads.none_, Reads.none_, Reads.none_, Reads.none_, (fun x hx => by cases hx), Reads.none_, (fun x hx => by cases hx), Reads.none_⟩, ⟨(Nat.zero_le _), (Nat.zero_le _), (Nat.zero_le _), (Nat.zero_le _), hS.short.data, (Nat.zero_le _), (Nat.zero_le _), (Nat.zero_le _), (Nat.zero_le _), (Nat.zero_le _), (Nat.zero_le _), (fun x hx => by cases hx), (fun x hx => by cases hx)⟩, fun _ q w hs hq => wr_0 p q w hS hs hq⟩
  · rw [Bool.and_eq_true, decide_eq_true_eq] at h; exact h.2
  · rw [Bool.and_eq_true, decide_eq_true_eq] at h
    obtain ⟨rfl, hn⟩ := h
    refine (legal_y p { Pkt.zero with data := p.data } w _ _ _ hn (fun w2 hw2 => hr w2 (Reads.more ((Reads.more hp.data hB).below hw2) hw2.size)) fun w2 hw2 => compact_0 p w2 hk).mono fun e w3 ⟨he, hBl⟩ => ⟨_, _, he, fun hn0 => ?_, hBl⟩
    have hd := hp.data
    unfold Sl.Lies at hd
    rw [u8c_flat] at hd
    obtain ⟨ad, e, h2, h3⟩ := hd.2 hn0
    exact ⟨ad, e, .inl h2, fun j u hu => (hBl.cell (by rw [block_of_add]; omega)).trans (h3 j u hu)⟩
  · refine (legal_n p w _ _ _ r ?_ fun w2 hw2 => hr w2 (Reads.more (hp.data.below hw2) hw2.size)).mono fun e w3 h => h
    cases r
    · exact .inl rfl
    · refine .inr ?_
      simp at h
      omega
theorem pw_any (p : Pkt) : ∃ y : Pkt × List Int × Bool, p.Ok3 → p.Small → PLaw p y.1 y.2.1 y.2.2 := by
  by_cases hO : p.Ok3
  case neg => exact ⟨(p, [], false), fun h => absurd h hO⟩
  by_cases hS : p.Small
  case neg => exact ⟨(p, [], false), fun _ h => absurd h hS⟩
  by_cases h1 : p.kind = 1
  · exact ⟨(_, _, _), fun _ _ => pw_1 p h1 hO hS⟩
  by_cases h2 : p.kind = 2
  · exact ⟨(_, _, _), fun _ _ => pw_2 p h2 hO hS⟩
  by_cases h3 : p.kind = 3
  · exact ⟨(_, _, _), fun _ _ => pw_3 p h3 hO hS⟩
  by_cases h4 : p.kind = 4
  · exact ⟨(_, _, _), fun _ _ => pw_4 p h4 hO hS⟩
  by_cases h5 : p.kind = 5
  · exact ⟨(_, _, _), fun _ _ => pw_5 p h5 hO hS⟩
  by_cases h6 : p.kind = 6
  · exact ⟨(_, _, _), fun _ _ => pw_6 p h6 hO hS⟩
  by_cases h7 : p.kind = 7
  · exact ⟨(_, _, _), fun _ _ => pw_7 p h7 hO hS⟩
  by_cases h8 : p.kind = 8
  · exact ⟨(_, _, _), fun _ _ => pw_8 p h8 hO hS⟩
  by_cases h9 : p.kind = 9
  · exact ⟨(_, _, _), fun _ _ => pw_9 p h9 hO hS⟩
  by_cases h10 : p.kind = 10
  · exact ⟨(_, _, _), fun _ _ => pw_10 p h10 hO hS⟩
  by_cases h11 : p.kind = 11
  · exact ⟨(_, _, _), fun _ _ => pw_11 p h11 hO hS⟩
  by_cases h12 : p.kind = 12
  · exact ⟨(_, _, _), fun _ _ => pw_12 p h12 hO hS⟩
  by_cases h13 : p.kind = 13
  · exact ⟨(_, _, _), fun _ _ => pw_13 p h13 hO⟩
  by_cases h0 : p.kind = 0
  · obtain ⟨D, hD⟩ := pw_0 p h0 hO hS
    exact ⟨(_, _, _), fun _ _ => hD⟩
  exact ⟨(_, _, _), fun _ _ => pw_off p (by omega)⟩
theorem pw_fun : ∃ F : Pkt → Pkt × List Int × Bool, ∀ p, p.Ok3 → p.Small → PLaw p (F p).1 (F p).2.1 (F p).2.2 := Classical.axiomOfChoice pw_any
end Go.Proofs.YtmmfpgoodfgkbaaGreat
