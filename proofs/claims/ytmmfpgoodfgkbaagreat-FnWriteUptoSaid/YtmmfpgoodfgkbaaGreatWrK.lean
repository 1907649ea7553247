/-
  THE MAKING OF A PACKET leaves a packet of the package whose methods write just the bytes that the reference writes, for each kind. Condition: the reference writes it; no part is too long.
-/
import Derived.Test.YtmmfpgoodfgkbaaGreatLegR
import Derived.Test.YtmmfpgoodfgkbaaGreatInvk
import Derived.Test.YtmmfpgoodfgkbaaGreatMarK
import Derived.Test.YtmmfpgoodfgkbaaGreatRemb
import Derived.Test.YtmmfpgoodfgkbaaGreatBuiltN
import Derived.Test.YtmmfpgoodfgkbaaGreatBuiltW
import Derived.Test.YtmmfpgoodfgkbaaGreatLegalA
namespace Go.Proofs.YtmmfpgoodfgkbaaGreat
open Go Go.RowKit
set_option linter.unusedVariables false
set_option linter.unusedSimpArgs false

theorem all_bareC {l2 l : List Chunk} (h : l2.map Chunk.bare = l.map Chunk.bare) (P : Int × List Item → Prop) (hp : ∀ x ∈ l, P x.bare) : ∀ x ∈ l2, P x.bare := fun x hx => by
  have hm : x.bare ∈ l.map Chunk.bare := h ▸ List.mem_map_of_mem hx
  obtain ⟨y, hy, hb⟩ := List.mem_map.1 hm
  exact hb ▸ hp y hy
theorem all_bareB {l2 l : List Blo} (h : l2.map Blo.bare = l.map Blo.bare) (P : Int × Int × List Met → Prop) (hp : ∀ x ∈ l, P x.bare) : ∀ x ∈ l2, P x.bare := fun x hx => by
  have hm : x.bare ∈ l.map Blo.bare := h ▸ List.mem_map_of_mem hx
  obtain ⟨y, hy, hb⟩ := List.mem_map.1 hm
  exact hb ▸ hp y hy
theorem chunksLen_bare {l2 l : List Chunk} (h : l2.map Chunk.bare = l.map Chunk.bare) : chunksLen l2 = chunksLen l := by
  have e : ∀ l : List Chunk, chunksLen l = ((l.map Chunk.bare).map fun x => chunkLen x.2).sum := fun l => by simp [chunksLen, Chunk.bare, Function.comp_def]
  rw [e, e, h]
theorem blosLen_bare {l2 l : List Blo} (h : l2.map Blo.bare = l.map Blo.bare) : blosLen l2 = blosLen l := by
  have e : ∀ l : List Blo, blosLen l = ((l.map Blo.bare).map fun x => bloLen x.2.2.length).sum := fun l => by simp [blosLen, Blo.bare, Function.comp_def]
  rw [e, e, h]
theorem chunksB_bare {l2 l : List Chunk} (h : l2.map Chunk.bare = l.map Chunk.bare) : chunksB l2 = chunksB l := by
  have e : ∀ l : List Chunk, chunksB l = (l.map Chunk.bare).foldl (fun b x => padB (b ++ be32 x.1 ++ itemsB x.2 ++ [0])) [] := fun l => by rw [List.foldl_map]; rfl
  rw [e, e, h]
theorem blosB_bare {l2 l : List Blo} (b : List Int) (h : l2.map Blo.bare = l.map Blo.bare) : blosB b l2 = blosB b l := by
  have e : ∀ l : List Blo, blosB b l = (l.map Blo.bare).foldl (fun b x => padB (b ++ be32 x.1 ++ be16 x.2.1 ++ be16 ((x.2.2.length : Int) % 65536) ++ metsB x.2.2)) b := fun l => by rw [List.foldl_map]; rfl
  rw [e, e, h]
theorem chunkLen_le {l : List Chunk} {x : Chunk} (hx : x ∈ l) : chunkLen x.items.l ≤ chunksLen l := by
  unfold chunksLen
  induction l with
  | nil => cases hx
  | cons y l ih =>
    rw [List.map_cons, List.sum_cons]
    rcases List.mem_cons.1 hx with rfl | hx
    · omega
    · have := ih hx; omega
theorem blos_le (l : List Blo) : l.length ≤ blosLen l := by
  unfold blosLen
  induction l with
  | nil => simp
  | cons y l ih =>
    rw [List.map_cons, List.sum_cons, List.length_cons]
    have : 8 ≤ bloLen y.mets.l.length := by unfold bloLen; omega
    omega
theorem bloOk_met {x : Blo} (h : bloOk x = true) : x.mets.l.length ≤ 16384 ∧ ∀ y ∈ x.mets.l, y.ecn < 4 ∧ y.off < 8192 := by
  unfold bloOk at h
  simp only [Bool.and_eq_true, decide_eq_true_eq, List.all_eq_true] at h
  refine ⟨by omega, fun y hy => ?_⟩
  have := h.2 y hy
  unfold metOk at this
  simp only [Bool.and_eq_true, decide_eq_true_eq] at this
  exact ⟨this.1, this.2.1⟩
theorem chunkOk_it {x : Chunk} (h : chunkOk x = true) : ∀ y ∈ x.items.l, y.ty ≠ 0 ∧ y.text.size ≤ 255 := fun y hy => by
  unfold chunkOk at h
  simp only [List.all_eq_true] at h
  have := h y hy
  unfold itemOk at this
  simp only [Bool.and_eq_true, decide_eq_true_eq, bne_iff_ne, ne_eq] at this
  exact ⟨this.1, by omega⟩
theorem repsB_eq (l : List Rep) (h : l.all repOk = true) : l.flatMap Rep.bytes = repsB l := by
  unfold repsB
  induction l with
  | nil => rfl
  | cons x l ih =>
    simp only [List.all_cons, Bool.and_eq_true] at h
    rw [List.flatMap_cons, List.flatMap_cons, ih h.2]
    have hx := h.1
    unfold repOk at hx
    rw [decide_eq_true_eq] at hx
    rw [repB, if_pos hx]
theorem tmod4 {n : Nat} (h : (((n : Nat) : Int).tmod 4 == 0) = true) : n % 4 = 0 := by
  have h5 : ((n : Nat) : Int).tmod 4 = 0 := by simpa using h
  rw [Int.tmod_eq_emod_of_nonneg (by omega)] at h5
  omega
theorem hdr_fit (n : Nat) (h : 4 + n ≤ 131072) : (((4 + n : Nat) : Int) / 4 - 1) % 65536 = ((n : Nat) : Int) / 4 := by omega
theorem hdrB4 (c t l : Int) (bs : List Int) : (hdrB c t l ++ bs).length = 4 + bs.length := by simp [hdrB, be16_len]; omega
theorem InRows.readsL {w : World} {B C size n : Nat} {A : Option Addr} {xs : List Value} (h : InRows w B C size A n xs) (hs : 0 < size) : Reads w w.heap.size size A n xs :=
  ⟨h.1, fun hn => by
    obtain ⟨ad, e, _, _, h3⟩ := h.2 hn
    have hl : 0 < xs.length := by rw [h.1]; exact Nat.mul_pos hn hs
    have := cell_lt (h3 0 xs[0] (by simp [hl]))
    exact ⟨ad, e, by rwa [block_of_add] at this, h3⟩⟩
theorem own_later {w w2 w3 : World} {size n c : Nat} {e : TypeId} {A : Option Addr} {xs : List Value} (h : w2.ownsRow w.heap.size e size (.slice A n c) n xs) (hw : ∀ g, w.heap.size ≤ g ∧ g < w2.heap.size → w3.heap[g]? = w2.heap[g]?) (hs : 0 < size) : Reads w3 w3.heap.size size A n xs := ((InRows.of_own h).st hw).readsL hs
theorem small_same {p q : Pkt} (h : Pkt.Same p q) (hs : p.Small) : q.Small := by
  have c1 : q.chunks.l.length = p.chunks.l.length := by simpa using congrArg List.length h.chunks
  have b1 : q.blocks.l.length = p.blocks.l.length := by simpa using congrArg List.length h.blocks
  exact ⟨⟨by rw [h.reports]; exact hs.short.reports, by rw [h.ext]; exact hs.short.ext, by rw [c1]; exact hs.short.chunks, by rw [h.sources]; exact hs.short.sources, by rw [h.data]; exact hs.short.data, by rw [h.pairs]; exact hs.short.pairs, by rw [h.slices]; exact hs.short.slices, by rw [h.entries]; exact hs.short.entries, by rw [b1]; exact hs.short.blocks, all_bareC h.chunks (fun x => x.2.length ≤ 2147483647) hs.short.items, all_bareB h.blocks (fun x => x.2.2.length ≤ 2147483647) hs.short.mets⟩,
    by rw [h.text]; exact hs.text, all_bareC h.chunks (fun x => ∀ i ∈ x.2, i.text.size ≤ 2147483647) hs.texts, by rw [chunksLen_bare h.chunks]; exact hs.chunksL, by rw [blosLen_bare h.blocks]; exact hs.blosL, by rw [h.pairs]; exact hs.pairs1, by rw [h.slices]; exact hs.slices1, by rw [h.entries]; exact hs.entries1⟩
theorem Legal.toR {w w' : World} {p c : Pkt} {count type : Int} {bs : List Int} {ok : Bool} {e : Ending} (h : Legal w p c count type bs ok e w') : LegalR w p c (hdrB count type (((bs.length : Nat) : Int) / 4) ++ bs) (ok = true) e w' := by
  rcases h with ⟨h1, h2, g, cap, he, ho, hB⟩ | ⟨_, he, hB⟩
  · have e4 := hdrB4 count type (((bs.length : Nat) : Int) / 4) bs
    refine .inl ⟨h1, by rw [e4]; exact h2, some ⟨g, 0, none⟩, cap, by rw [e4]; exact he, ?_, hB⟩
    have := reads_of_own ho
    rwa [← e4] at this
  · exact .inr ⟨he, hB⟩

theorem wr_1 (p q : Pkt) (w : World) (hk : p.kind = 1) (hO : p.Ok3) (hS : p.Small) (hok : (((decide (((p.reports.l.length : Nat) : Int) ≤ 31) && p.reports.l.all repOk) && (((p.ext.l.length : Nat) : Int).tmod 4 == 0))) = true) (hle : 4 + (be32 p.sender ++ be32 (p.ntp / 4294967296) ++ be32 (p.ntp % 4294967296) ++ be32 p.rtp ++ be32 p.packets ++ be32 p.octets ++ repsB p.reports.l ++ p.ext.l).length ≤ 131072) (hsame : Pkt.Same ((⟨p.kind, p.sender, 0, p.ntp, p.rtp, p.packets, p.octets, p.reports, p.ext, Sl.nil, Sl.nil, ByteArray.empty, 0, Sl.nil, Sl.nil, Sl.nil, Sl.nil, 0, Sl.nil, 0, 0, 0, 0, 0, Sl.nil, Sl.nil, false, 0, 0, 0⟩ : Pkt)) q) (hql : q.Lies w w.heap.size) :
    Calls Tryz.prog 29 #[.agg q.cells] w (Built w (hdrB (((p.reports.l.length : Nat) : Int) % 32) 200 ((((be32 p.sender ++ be32 (p.ntp / 4294967296) ++ be32 (p.ntp % 4294967296) ++ be32 p.rtp ++ be32 p.packets ++ be32 p.octets ++ repsB p.reports.l ++ p.ext.l).length : Nat) : Int) / 4) ++ (be32 p.sender ++ be32 (p.ntp / 4294967296) ++ be32 (p.ntp % 4294967296) ++ be32 p.rtp ++ be32 p.packets ++ be32 p.octets ++ repsB p.reports.l ++ p.ext.l))) := by
  have kq : q.kind = 1 := hsame.kind.trans hk
  have s1 : q.sender = p.sender := hsame.sender
  have s3 : q.ntp = p.ntp := hsame.ntp
  have s4 : q.rtp = p.rtp := hsame.rtp
  have s5 : q.packets = p.packets := hsame.packets
  have s6 : q.octets = p.octets := hsame.octets
  have sr : q.reports.l = p.reports.l := hsame.reports
  have sx : q.ext.l = p.ext.l := congrArg Sl.l (show q.ext = p.ext from hsame.ext)
  simp only [Bool.and_eq_true, decide_eq_true_eq] at hok
  obtain ⟨⟨h31, hrep⟩, hx4⟩ := hok
  have h4 := tmod4 hx4
  have hrl := repsB_len _ hrep
  have hrk : ∀ x ∈ p.reports.l, x.Ok ∧ x.lost < 16777216 := fun x hx => ⟨hO.reports x hx, by have := List.all_eq_true.1 hrep x hx; unfold repOk at this; simpa using this⟩
  obtain ⟨bs, hbs⟩ : ∃ bs, bs = be32 p.sender ++ be32 (p.ntp / 4294967296) ++ be32 (p.ntp % 4294967296) ++ be32 p.rtp ++ be32 p.packets ++ be32 p.octets ++ repsB p.reports.l ++ p.ext.l := ⟨_, rfl⟩
  have hbl0 : bs.length = (be32 p.sender ++ be32 (p.ntp / 4294967296) ++ be32 (p.ntp % 4294967296) ++ be32 p.rtp ++ be32 p.packets ++ be32 p.octets ++ repsB p.reports.l ++ p.ext.l).length := by rw [hbs]
  simp only [List.length_append, be32_len, hrl] at hbl0
  rw [← hbs] at hle ⊢
  refine (built_1 q w kq hql.reports (by rw [sr]; exact hS.short.reports) hql.ext (by rw [sx]; exact hS.short.ext)).mono fun e w2 ⟨g, v1, c1, v2, c2, he, hb, hg, ho1, ho2, hB⟩ => ?_
  subst he
  simp only [s1, s3, s4, s5, s6, sr, sx] at hb ho1 ho2
  refine ⟨_, rfl, fun w3 hw => ?_, hB⟩
  have hb3 : Blk w3 g 155 #[.int .u32 p.sender, .int .u64 p.ntp, .int .u32 p.rtp, .int .u32 p.packets, .int .u32 p.octets, .slice v1 p.reports.l.length c1, .slice v2 p.ext.l.length c2] := (hw g ⟨hg, hb.lt⟩).trans hb
  have hr1 := own_later ho1 hw (by omega)
  have hr2 := own_later ho2 hw (by omega)
  have hm := mar_1 p.sender p.ntp p.rtp p.packets p.octets v1 v2 c1 c2 p.reports.l p.ext.l w3 hr1 hr2 (by omega) hrk (by omega) h4 ⟨hO.ok2.s0, hO.ok2.s1⟩ hO.ntp hO.rtp hO.packets hO.octets
  have eB : be32 p.sender ++ be64 p.ntp ++ be32 p.rtp ++ be32 p.packets ++ be32 p.octets ++ p.reports.l.flatMap Rep.bytes ++ p.ext.l = bs := by rw [hbs]; rw [repsB_eq _ hrep]; simp only [be64, List.append_assoc]
  rw [eB, hdr_fit _ hle, show (p.reports.l.length : Int) % 256 = ((p.reports.l.length : Nat) : Int) % 32 by omega] at hm
  have hz := srsize_any g w3 v1 v2 p.reports.l c1 p.ext.l.length c2 _ _ _ _ _ _ hb3 hr1 hS.short.reports hS.short.ext
  have hl : 28 + 24 * p.reports.l.length + p.ext.l.length + pad4 p.ext.l.length = (hdrB (((p.reports.l.length : Nat) : Int) % 32) 200 (((bs.length : Nat) : Int) / 4) ++ bs).length := by rw [hdrB4]; unfold pad4; omega
  rw [hl] at hz
  refine ⟨invk_val (P := Tryz.prog) (T := 155) (f := 99) (by decide) (by kernel_rfl) Tryz.underlying151 (by kernel_rfl) (fun _ _ => by kernel_rfl) hb3 (kr (hm.mono fun e w4 h => MarOut.marB (B := w.heap.size) (E := w2.heap.size) h)), ?_⟩
  exact invk_ptr (P := Tryz.prog) (T := 155) (f := 100) (by decide) (by kernel_rfl) Tryz.underlying151 (fun _ _ => by kernel_rfl) (kr hz)
theorem wr_2 (p q : Pkt) (w : World) (hk : p.kind = 2) (hO : p.Ok3) (hS : p.Small) (hok : (((decide (((p.reports.l.length : Nat) : Int) ≤ 31) && p.reports.l.all repOk) && (((p.ext.l.length : Nat) : Int).tmod 4 == 0))) = true) (hle : 4 + (be32 p.sender ++ repsB p.reports.l ++ p.ext.l).length ≤ 131072) (hsame : Pkt.Same ((⟨p.kind, p.sender, 0, 0, 0, 0, 0, p.reports, p.ext, Sl.nil, Sl.nil, ByteArray.empty, 0, Sl.nil, Sl.nil, Sl.nil, Sl.nil, 0, Sl.nil, 0, 0, 0, 0, 0, Sl.nil, Sl.nil, false, 0, 0, 0⟩ : Pkt)) q) (hql : q.Lies w w.heap.size) :
    Calls Tryz.prog 29 #[.agg q.cells] w (Built w (hdrB (((p.reports.l.length : Nat) : Int) % 32) 201 ((((be32 p.sender ++ repsB p.reports.l ++ p.ext.l).length : Nat) : Int) / 4) ++ (be32 p.sender ++ repsB p.reports.l ++ p.ext.l))) := by
  have kq : q.kind = 2 := hsame.kind.trans hk
  have s1 : q.sender = p.sender := hsame.sender
  have sr : q.reports.l = p.reports.l := hsame.reports
  have sx : q.ext.l = p.ext.l := congrArg Sl.l (show q.ext = p.ext from hsame.ext)
  simp only [Bool.and_eq_true, decide_eq_true_eq] at hok
  obtain ⟨⟨h31, hrep⟩, hx4⟩ := hok
  have h4 := tmod4 hx4
  have hrl := repsB_len _ hrep
  have hrk : ∀ x ∈ p.reports.l, x.Ok ∧ x.lost < 16777216 := fun x hx => ⟨hO.reports x hx, by have := List.all_eq_true.1 hrep x hx; unfold repOk at this; simpa using this⟩
  obtain ⟨bs, hbs⟩ : ∃ bs, bs = be32 p.sender ++ repsB p.reports.l ++ p.ext.l := ⟨_, rfl⟩
  have hbl0 : bs.length = (be32 p.sender ++ repsB p.reports.l ++ p.ext.l).length := by rw [hbs]
  simp only [List.length_append, be32_len, hrl] at hbl0
  rw [← hbs] at hle ⊢
  refine (built_2 q w kq hql.reports (by rw [sr]; exact hS.short.reports) hql.ext (by rw [sx]; exact hS.short.ext)).mono fun e w2 ⟨g, v1, c1, v2, c2, he, hb, hg, ho1, ho2, hB⟩ => ?_
  subst he
  simp only [s1, sr, sx] at hb ho1 ho2
  refine ⟨_, rfl, fun w3 hw => ?_, hB⟩
  have hb3 : Blk w3 g 158 #[.int .u32 p.sender, .slice v1 p.reports.l.length c1, .slice v2 p.ext.l.length c2] := (hw g ⟨hg, hb.lt⟩).trans hb
  have hr1 := own_later ho1 hw (by omega)
  have hr2 := own_later ho2 hw (by omega)
  have hm := mar_2 p.sender v1 v2 c1 c2 p.reports.l p.ext.l w3 hr1 hr2 (by omega) hrk (by omega) h4 ⟨hO.ok2.s0, hO.ok2.s1⟩
  have eB : be32 p.sender ++ p.reports.l.flatMap Rep.bytes ++ p.ext.l = bs := by rw [hbs]; rw [repsB_eq _ hrep]
  rw [eB, hdr_fit _ hle, show (p.reports.l.length : Int) % 256 = ((p.reports.l.length : Nat) : Int) % 32 by omega] at hm
  have hz := rrsize_any g w3 v1 v2 p.reports.l c1 p.ext.l.length c2 _ _ hb3 hr1 hS.short.reports hS.short.ext
  have hl : 8 + 24 * p.reports.l.length + p.ext.l.length + pad4 p.ext.l.length = (hdrB (((p.reports.l.length : Nat) : Int) % 32) 201 (((bs.length : Nat) : Int) / 4) ++ bs).length := by rw [hdrB4]; unfold pad4; omega
  rw [hl] at hz
  refine ⟨invk_val (P := Tryz.prog) (T := 158) (f := 116) (by decide) (by kernel_rfl) Tryz.underlying156 (by kernel_rfl) (fun _ _ => by kernel_rfl) hb3 (kr (hm.mono fun e w4 h => MarOut.marB (B := w.heap.size) (E := w2.heap.size) h)), ?_⟩
  exact invk_ptr (P := Tryz.prog) (T := 158) (f := 117) (by decide) (by kernel_rfl) Tryz.underlying156 (fun _ _ => by kernel_rfl) (kr hz)
theorem wr_3 (p q : Pkt) (w : World) (hk : p.kind = 3) (hO : p.Ok3) (hS : p.Small) (hok : ((decide (((p.chunks.l.length : Nat) : Int) ≤ 31) && p.chunks.l.all chunkOk)) = true) (hle : 4 + (chunksB p.chunks.l).length ≤ 131072) (hsame : Pkt.Same ((⟨p.kind, 0, 0, 0, 0, 0, 0, Sl.nil, Sl.nil, p.chunks, Sl.nil, ByteArray.empty, 0, Sl.nil, Sl.nil, Sl.nil, Sl.nil, 0, Sl.nil, 0, 0, 0, 0, 0, Sl.nil, Sl.nil, false, 0, 0, 0⟩ : Pkt)) q) (hql : q.Lies w w.heap.size) :
    Calls Tryz.prog 29 #[.agg q.cells] w (Built w (hdrB (((p.chunks.l.length : Nat) : Int) % 32) 202 ((((chunksB p.chunks.l).length : Nat) : Int) / 4) ++ (chunksB p.chunks.l))) := by
  have kq : q.kind = 3 := hsame.kind.trans hk
  simp only [Bool.and_eq_true, decide_eq_true_eq] at hok
  obtain ⟨h31, hch⟩ := hok
  have hcs : q.chunks.l.map Chunk.bare = p.chunks.l.map Chunk.bare := hsame.chunks
  have hsm := small_same hsame ⟨⟨(Nat.zero_le _), (Nat.zero_le _), hS.short.chunks, (Nat.zero_le _), (Nat.zero_le _), (Nat.zero_le _), (Nat.zero_le _), (Nat.zero_le _), (Nat.zero_le _), hS.short.items, (fun x hx => by cases hx)⟩, (Nat.zero_le _), hS.texts, hS.chunksL, (Nat.zero_le _), (Nat.zero_le _), (Nat.zero_le _), (Nat.zero_le _)⟩
  obtain ⟨bs, hbs⟩ : ∃ bs, bs = chunksB p.chunks.l := ⟨_, rfl⟩
  have hbl0 : bs.length = (chunksB p.chunks.l).length := by rw [hbs]
  rw [chunksB_len] at hbl0
  rw [← hbs] at hle ⊢
  refine (builtN_3 q w kq hql.chunks hsm.short.chunks hql.items hsm.short.items).mono fun e w2 ⟨g, A, c, l2, hbare, he, hg, hB, hb, hr, hri⟩ => ?_
  subst he
  refine ⟨_, rfl, fun w3 hw => ?_, hB⟩
  have hb3 : Blk w3 g 224 #[.slice A (l2.length : Nat) c] := (hw g ⟨hg, hb.lt⟩).trans hb
  have hbr := hbare.trans hcs
  have hll : l2.length = p.chunks.l.length := by simpa using congrArg List.length hbr
  have hr1 := (hr.st hw).readsL (by omega)
  have hr2 : ∀ x ∈ l2, x.items.Lies w3 w3.heap.size 2 Item.cells := fun x hx => ((hri x hx).st hw).readsL (by omega)
  have hcl := chunksLen_bare hbr
  have hlen2 : ∀ x ∈ l2, x.items.l.length ≤ 2147483647 := all_bareC hbr (fun x => x.2.length ≤ 2147483647) hS.short.items
  have hk2 : ∀ x ∈ l2, (0 ≤ x.src ∧ x.src < 4294967296) ∧ ∀ y ∈ x.items.l, y.ty ≠ 0 ∧ y.text.size ≤ 255 := all_bareC hbr (fun x => (0 ≤ x.1 ∧ x.1 < 4294967296) ∧ ∀ y ∈ x.2, y.ty ≠ 0 ∧ y.text.size ≤ 255) fun x hx => ⟨⟨(hO.chunks x hx).1, (hO.chunks x hx).2.1⟩, chunkOk_it (List.all_eq_true.1 hch x hx)⟩
  have hits : ∀ x ∈ l2, itsLen x.items.l ≤ 549755813888 := fun x hx => by
    have h1 := chunkLen_le hx
    have h2 : itsLen x.items.l ≤ chunkLen x.items.l := by unfold chunkLen; omega
    omega
  have hm := mar_3 A c l2 w3 hr1 hr2 (by omega) (by omega) (fun x hx => ⟨(hk2 x hx).1.1, (hk2 x hx).1.2, hlen2 x hx, hits x hx, (hk2 x hx).2⟩)
  have eB : chunksB l2 = bs := by rw [hbs]; rw [chunksB_bare hbr]
  rw [eB, hdr_fit _ hle, show (l2.length : Int) % 256 = ((p.chunks.l.length : Nat) : Int) % 32 by omega] at hm
  have hz := sdsize_any g w3 A l2 c _ hb3 hr1 hr2 (by omega) hlen2 (by omega)
  have hl : 4 + chunksLen l2 = (hdrB (((p.chunks.l.length : Nat) : Int) % 32) 202 (((bs.length : Nat) : Int) / 4) ++ bs).length := by rw [hdrB4]; omega
  rw [hl] at hz
  refine ⟨invk_val (P := Tryz.prog) (T := 224) (f := 121) (by decide) (by kernel_rfl) Tryz.underlying159 (by kernel_rfl) (fun _ _ => by kernel_rfl) hb3 (kr (hm.mono fun e w4 h => MarOut.marB (B := w.heap.size) (E := w2.heap.size) h)), ?_⟩
  exact invk_ptr (P := Tryz.prog) (T := 224) (f := 122) (by decide) (by kernel_rfl) Tryz.underlying159 (fun _ _ => by kernel_rfl) (kr hz)
theorem wr_4 (p q : Pkt) (w : World) (hk : p.kind = 4) (hO : p.Ok3) (hS : p.Small) (hok : ((decide ((p.sources.l.length : Int) ≤ 31) && decide ((p.text.size : Int) ≤ 255))) = true) (hle : 4 + (byeB p.sources.l p.text).length ≤ 131072) (hsame : Pkt.Same ((⟨p.kind, 0, 0, 0, 0, 0, 0, Sl.nil, Sl.nil, Sl.nil, p.sources, p.text, 0, Sl.nil, Sl.nil, Sl.nil, Sl.nil, 0, Sl.nil, 0, 0, 0, 0, 0, Sl.nil, Sl.nil, false, 0, 0, 0⟩ : Pkt)) q) (hql : q.Lies w w.heap.size) :
    Calls Tryz.prog 29 #[.agg q.cells] w (Built w (hdrB (((p.sources.l.length % 32 : Nat) : Int)) 203 ((((byeB p.sources.l p.text).length : Nat) : Int) / 4) ++ (byeB p.sources.l p.text))) := by
  have kq : q.kind = 4 := hsame.kind.trans hk
  have s10 : q.text = p.text := hsame.text
  have ss : q.sources.l = p.sources.l := congrArg Sl.l (show q.sources = p.sources from hsame.sources)
  simp only [Bool.and_eq_true, decide_eq_true_eq] at hok
  obtain ⟨h31, h255⟩ := hok
  have hby := byeB_len p.sources.l p.text
  obtain ⟨bs, hbs⟩ : ∃ bs, bs = byeB p.sources.l p.text := ⟨_, rfl⟩
  have hbl0 : bs.length = (byeB p.sources.l p.text).length := by rw [hbs]
  rw [← hbs] at hle ⊢
  refine (built_4 q w kq hql.sources (by rw [ss]; exact hS.short.sources)).mono fun e w2 ⟨g, v1, c1, he, hb, hg, ho1, hB⟩ => ?_
  subst he
  simp only [s10, ss] at hb ho1
  refine ⟨_, rfl, fun w3 hw => ?_, hB⟩
  have hb3 : Blk w3 g 163 #[.slice v1 p.sources.l.length c1, .string p.text] := (hw g ⟨hg, hb.lt⟩).trans hb
  have hr1 := own_later ho1 hw (by omega)
  have hm := mar_4 v1 c1 p.sources.l p.text w3 hr1 (by omega) hO.sources (by omega)
  have eB : byeB p.sources.l p.text = bs := by rw [hbs]
  rw [eB, hdr_fit _ hle, show (p.sources.l.length : Int) % 256 = ((p.sources.l.length % 32 : Nat) : Int) by omega] at hm
  have hz := same_below (byesize_any g w3 v1 p.sources.l.length c1 _ p.text hb3 hS.short.sources hS.text)
  have hl : byeLen p.sources.l.length p.text.size + pad4 (byeLen p.sources.l.length p.text.size) = (hdrB (((p.sources.l.length % 32 : Nat) : Int)) 203 (((bs.length : Nat) : Int) / 4) ++ bs).length := by rw [hdrB4]; omega
  rw [hl] at hz
  refine ⟨invk_val (P := Tryz.prog) (T := 163) (f := 132) (by decide) (by kernel_rfl) Tryz.underlying161 (by kernel_rfl) (fun _ _ => by kernel_rfl) hb3 (kr (hm.mono fun e w4 h => MarOut.marB (B := w.heap.size) (E := w2.heap.size) h)), ?_⟩
  exact invk_ptr (P := Tryz.prog) (T := 163) (f := 133) (by decide) (by kernel_rfl) Tryz.underlying161 (fun _ _ => by kernel_rfl) (kr hz)
theorem wr_5 (p q : Pkt) (w : World) (hk : p.kind = 5) (hO : p.Ok3) (hS : p.Small) (hok : ((((decide ((p.sub : Int) ≤ 31) && ((p.text.size : Int) == 4)) && (((p.data.l.length : Nat) : Int).tmod 4 == 0)) && decide (((p.data.l.length : Nat) : Int) ≤ 65520))) = true) (hle : 4 + (be32 p.sender ++ sb p.text ++ p.data.l).length ≤ 131072) (hsame : Pkt.Same ((⟨p.kind, p.sender, 0, 0, 0, 0, 0, Sl.nil, Sl.nil, Sl.nil, Sl.nil, p.text, p.sub, p.data, Sl.nil, Sl.nil, Sl.nil, 0, Sl.nil, 0, 0, 0, 0, 0, Sl.nil, Sl.nil, false, 0, 0, 0⟩ : Pkt)) q) (hql : q.Lies w w.heap.size) :
    Calls Tryz.prog 29 #[.agg q.cells] w (Built w (hdrB (p.sub % 32) 204 ((((be32 p.sender ++ sb p.text ++ p.data.l).length : Nat) : Int) / 4) ++ (be32 p.sender ++ sb p.text ++ p.data.l))) := by
  have kq : q.kind = 5 := hsame.kind.trans hk
  have s1 : q.sender = p.sender := hsame.sender
  have s10 : q.text = p.text := hsame.text
  have s7 : q.sub = p.sub := hsame.sub
  have sd : q.data.l = p.data.l := congrArg Sl.l (show q.data = p.data from hsame.data)
  simp only [Bool.and_eq_true, decide_eq_true_eq] at hok
  obtain ⟨⟨⟨hsub, ht4⟩, hx4⟩, h655⟩ := hok
  have h4 := tmod4 hx4
  have hsu := hO.sub
  have ht : p.text.size = 4 := by have : (p.text.size : Int) = 4 := by simpa using ht4
                                  omega
  obtain ⟨bs, hbs⟩ : ∃ bs, bs = be32 p.sender ++ sb p.text ++ p.data.l := ⟨_, rfl⟩
  have hbl0 : bs.length = (be32 p.sender ++ sb p.text ++ p.data.l).length := by rw [hbs]
  simp only [List.length_append, be32_len, sb_len] at hbl0
  rw [← hbs] at hle ⊢
  refine (built_5 q w kq hql.data (by rw [sd]; exact hS.short.data)).mono fun e w2 ⟨g, v1, c1, he, hb, hg, ho1, hB⟩ => ?_
  subst he
  simp only [s1, s7, s10, sd] at hb ho1
  refine ⟨_, rfl, fun w3 hw => ?_, hB⟩
  have hb3 : Blk w3 g 166 #[.int .u8 p.sub, .int .u32 p.sender, .string p.text, .slice v1 p.data.l.length c1] := (hw g ⟨hg, hb.lt⟩).trans hb
  have hr1 := own_later ho1 hw (by omega)
  have hm := mar_5 p.sub p.sender p.text v1 c1 p.data.l w3 hr1 (by omega) h4 ht ⟨hO.sub.1, hsub⟩ ⟨hO.ok2.s0, hO.ok2.s1⟩
  have eB : be32 p.sender ++ sb p.text ++ p.data.l = bs := by rw [hbs]
  rw [eB, hdr_fit _ hle, show hdrB p.sub 204 (((bs.length : Nat) : Int) / 4) = hdrB (p.sub % 32) 204 (((bs.length : Nat) : Int) / 4) by rw [show p.sub % 32 = p.sub by omega]] at hm
  have hz := size_5 g w3 _ _ _ _ v1 p.data.l.length c1 hb3 (by omega) h4
  have hl : 12 + p.data.l.length = (hdrB (p.sub % 32) 204 (((bs.length : Nat) : Int) / 4) ++ bs).length := by rw [hdrB4]; omega
  rw [hl] at hz
  refine ⟨invk_val (P := Tryz.prog) (T := 166) (f := 137) (by decide) (by kernel_rfl) Tryz.underlying164 (by kernel_rfl) (fun _ _ => by kernel_rfl) hb3 (kr (hm.mono fun e w4 h => MarOut.marB (B := w.heap.size) (E := w2.heap.size) h)), ?_⟩
  exact invk_ptr (P := Tryz.prog) (T := 166) (f := 138) (by decide) (by kernel_rfl) Tryz.underlying164 (fun _ _ => by kernel_rfl) (kr hz)
theorem wr_6 (p q : Pkt) (w : World) (hk : p.kind = 6) (hO : p.Ok3) (hS : p.Small) (hok : ((decide (0 < p.pairs.l.length) && decide (((p.pairs.l.length : Nat) : Int) ≤ 253))) = true) (hle : 4 + (be32 p.sender ++ be32 p.media ++ pairsB p.pairs.l).length ≤ 131072) (hsame : Pkt.Same ((⟨p.kind, p.sender, p.media, 0, 0, 0, 0, Sl.nil, Sl.nil, Sl.nil, Sl.nil, ByteArray.empty, 0, Sl.nil, p.pairs, Sl.nil, Sl.nil, 0, Sl.nil, 0, 0, 0, 0, 0, Sl.nil, Sl.nil, false, 0, 0, 0⟩ : Pkt)) q) (hql : q.Lies w w.heap.size) :
    Calls Tryz.prog 29 #[.agg q.cells] w (Built w (hdrB (1) 205 ((((be32 p.sender ++ be32 p.media ++ pairsB p.pairs.l).length : Nat) : Int) / 4) ++ (be32 p.sender ++ be32 p.media ++ pairsB p.pairs.l))) := by
  have kq : q.kind = 6 := hsame.kind.trans hk
  have s1 : q.sender = p.sender := hsame.sender
  have s2 : q.media = p.media := hsame.media
  have sl : q.pairs.l = p.pairs.l := hsame.pairs
  simp only [Bool.and_eq_true, decide_eq_true_eq] at hok
  obtain ⟨h0, h253⟩ := hok
  obtain ⟨bs, hbs⟩ : ∃ bs, bs = be32 p.sender ++ be32 p.media ++ pairsB p.pairs.l := ⟨_, rfl⟩
  have hbl0 : bs.length = (be32 p.sender ++ be32 p.media ++ pairsB p.pairs.l).length := by rw [hbs]
  simp only [List.length_append, be32_len, pairsB_len] at hbl0
  rw [← hbs] at hle ⊢
  refine (builtL_6 q w kq hql.pairs (by rw [sl]; exact hS.pairs1)).mono fun e w2 ⟨g, v, he, hb, hg, ho1, hB⟩ => ?_
  subst he
  simp only [s1, s2, sl] at hb ho1
  obtain ⟨v1, c1, rfl⟩ := own_form ho1
  refine ⟨_, rfl, fun w3 hw => ?_, hB⟩
  have hb3 : Blk w3 g 170 #[.int .u32 p.sender, .int .u32 p.media, .slice v1 p.pairs.l.length c1] := (hw g ⟨hg, hb.lt⟩).trans hb
  have hr1 := own_later ho1 hw (by omega)
  have hm := mar_6 p.sender p.media v1 c1 p.pairs.l w3 hr1 (by omega) hO.ok2.pairs ⟨hO.ok2.s0, hO.ok2.s1⟩ ⟨hO.ok2.m0, hO.ok2.m1⟩
  have eB : be32 p.sender ++ be32 p.media ++ p.pairs.l.flatMap (fun x => be16 x.id ++ be16 x.mask) = bs := by rw [hbs]; rfl
  rw [eB, hdr_fit _ hle] at hm
  have hz := same_below (nacksize_any g w3 v1 p.pairs.l.length c1 _ _ _ hb3 hS.short.pairs)
  have hl : 12 + 4 * p.pairs.l.length = (hdrB (1) 205 (((bs.length : Nat) : Int) / 4) ++ bs).length := by rw [hdrB4]; omega
  rw [hl] at hz
  refine ⟨invk_val (P := Tryz.prog) (T := 170) (f := 141) (by decide) (by kernel_rfl) Tryz.underlying167 (by kernel_rfl) (fun _ _ => by kernel_rfl) hb3 (kr (hm.mono fun e w4 h => MarOut.marB (B := w.heap.size) (E := w2.heap.size) h)), ?_⟩
  exact invk_ptr (P := Tryz.prog) (T := 170) (f := 142) (by decide) (by kernel_rfl) Tryz.underlying167 (fun _ _ => by kernel_rfl) (kr hz)
theorem wr_7 (p q : Pkt) (w : World) (hk : p.kind = 7) (hO : p.Ok3) (hS : p.Small) (hok : (true) = true) (hle : 4 + (be32 p.sender ++ be32 p.media).length ≤ 131072) (hsame : Pkt.Same ((⟨p.kind, p.sender, p.media, 0, 0, 0, 0, Sl.nil, Sl.nil, Sl.nil, Sl.nil, ByteArray.empty, 0, Sl.nil, Sl.nil, Sl.nil, Sl.nil, 0, Sl.nil, 0, 0, 0, 0, 0, Sl.nil, Sl.nil, false, 0, 0, 0⟩ : Pkt)) q) (hql : q.Lies w w.heap.size) :
    Calls Tryz.prog 29 #[.agg q.cells] w (Built w (hdrB (5) 205 ((((be32 p.sender ++ be32 p.media).length : Nat) : Int) / 4) ++ (be32 p.sender ++ be32 p.media))) := by
  have kq : q.kind = 7 := hsame.kind.trans hk
  have s1 : q.sender = p.sender := hsame.sender
  have s2 : q.media = p.media := hsame.media
  obtain ⟨bs, hbs⟩ : ∃ bs, bs = be32 p.sender ++ be32 p.media := ⟨_, rfl⟩
  have hbl0 : bs.length = (be32 p.sender ++ be32 p.media).length := by rw [hbs]
  simp only [List.length_append, be32_len] at hbl0
  rw [← hbs] at hle ⊢
  refine (built_7 q w kq).mono fun e w2 ⟨g, he, hb, hg, hB⟩ => ?_
  subst he
  simp only [s1, s2] at hb
  refine ⟨_, rfl, fun w3 hw => ?_, hB⟩
  have hb3 : Blk w3 g 176 #[.int .u32 p.sender, .int .u32 p.media] := (hw g ⟨hg, hb.lt⟩).trans hb
  have hm := mar_7 p.sender p.media w3 ⟨hO.ok2.s0, hO.ok2.s1⟩ ⟨hO.ok2.m0, hO.ok2.m1⟩
  have eB : be32 p.sender ++ be32 p.media = bs := by rw [hbs]
  rw [eB, hdr_fit _ hle] at hm
  have hz := size_7 g w3
  have hl : 12 = (hdrB (5) 205 (((bs.length : Nat) : Int) / 4) ++ bs).length := by rw [hdrB4]; omega
  rw [hl] at hz
  refine ⟨invk_val (P := Tryz.prog) (T := 176) (f := 146) (by decide) (by kernel_rfl) Tryz.underlying174 (by kernel_rfl) (fun _ _ => by kernel_rfl) hb3 (kr (hm.mono fun e w4 h => MarOut.marB (B := w.heap.size) (E := w2.heap.size) h)), ?_⟩
  exact invk_ptr (P := Tryz.prog) (T := 176) (f := 147) (by decide) (by kernel_rfl) Tryz.underlying174 (fun _ _ => by kernel_rfl) (kr hz)
theorem wr_8 (p q : Pkt) (w : World) (hk : p.kind = 8) (hO : p.Ok3) (hS : p.Small) (hok : ((decide (0 < p.blocks.l.length) && p.blocks.l.all bloOk)) = true) (hle : 4 + (blosB (be32 p.sender) p.blocks.l ++ be32 p.time).length ≤ 131072) (hsame : Pkt.Same ((⟨p.kind, p.sender, 0, 0, 0, 0, 0, Sl.nil, Sl.nil, Sl.nil, Sl.nil, ByteArray.empty, 0, Sl.nil, Sl.nil, Sl.nil, Sl.nil, 0, p.blocks, p.time, 0, 0, 0, 0, Sl.nil, Sl.nil, false, 0, 0, 0⟩ : Pkt)) q) (hql : q.Lies w w.heap.size) :
    Calls Tryz.prog 29 #[.agg q.cells] w (Built w (hdrB (11) 205 ((((blosB (be32 p.sender) p.blocks.l ++ be32 p.time).length : Nat) : Int) / 4) ++ (blosB (be32 p.sender) p.blocks.l ++ be32 p.time))) := by
  have kq : q.kind = 8 := hsame.kind.trans hk
  have s1 : q.sender = p.sender := hsame.sender
  have s8 : q.time = p.time := hsame.time
  simp only [Bool.and_eq_true, decide_eq_true_eq] at hok
  obtain ⟨h0, hbl⟩ := hok
  have hcs : q.blocks.l.map Blo.bare = p.blocks.l.map Blo.bare := hsame.blocks
  have hsm := small_same hsame ⟨⟨(Nat.zero_le _), (Nat.zero_le _), (Nat.zero_le _), (Nat.zero_le _), (Nat.zero_le _), (Nat.zero_le _), (Nat.zero_le _), (Nat.zero_le _), hS.short.blocks, (fun x hx => by cases hx), hS.short.mets⟩, (Nat.zero_le _), (fun x hx => by cases hx), (Nat.zero_le _), hS.blosL, (Nat.zero_le _), (Nat.zero_le _), (Nat.zero_le _)⟩
  obtain ⟨bs, hbs⟩ : ∃ bs, bs = blosB (be32 p.sender) p.blocks.l ++ be32 p.time := ⟨_, rfl⟩
  have hbl0 : bs.length = (blosB (be32 p.sender) p.blocks.l ++ be32 p.time).length := by rw [hbs]
  rw [List.length_append, blosB_len _ _ (by rw [be32_len]), be32_len, be32_len] at hbl0
  rw [← hbs] at hle ⊢
  refine (builtN_8 q w kq hql.blocks hsm.short.blocks hql.mets hsm.short.mets).mono fun e w2 ⟨g, A, c, l2, hbare, he, hg, hB, hb, hr, hri⟩ => ?_
  subst he
  simp only [s1, s8] at hb
  refine ⟨_, rfl, fun w3 hw => ?_, hB⟩
  have hb3 : Blk w3 g 181 #[.int .u32 p.sender, .slice A (l2.length : Nat) c, .int .u32 p.time] := (hw g ⟨hg, hb.lt⟩).trans hb
  have hbr := hbare.trans hcs
  have hll : l2.length = p.blocks.l.length := by simpa using congrArg List.length hbr
  have hr1 := (hr.st hw).readsL (by omega)
  have hr2 : ∀ x ∈ l2, x.mets.Lies w3 w3.heap.size 3 Met.cells := fun x hx => ((hri x hx).st hw).readsL (by omega)
  have hcl := blosLen_bare hbr
  have hble := blos_le l2
  have hlen2 : ∀ x ∈ l2, x.mets.l.length ≤ 2147483647 := all_bareB hbr (fun x => x.2.2.length ≤ 2147483647) hS.short.mets
  have hk2 : ∀ x ∈ l2, 0 ≤ x.media ∧ x.media < 4294967296 ∧ 0 ≤ x.first ∧ x.first < 65536 ∧ x.mets.l.length ≤ 16384 ∧ ∀ y ∈ x.mets.l, 0 ≤ y.ecn ∧ y.ecn < 4 ∧ 0 ≤ y.off ∧ y.off < 8192 := all_bareB hbr (fun x => 0 ≤ x.1 ∧ x.1 < 4294967296 ∧ 0 ≤ x.2.1 ∧ x.2.1 < 65536 ∧ x.2.2.length ≤ 16384 ∧ ∀ y ∈ x.2.2, 0 ≤ y.ecn ∧ y.ecn < 4 ∧ 0 ≤ y.off ∧ y.off < 8192) fun x hx => by
    obtain ⟨b1, b2, b3, b4, b5⟩ := hO.blocks x hx
    obtain ⟨m1, m2⟩ := bloOk_met (List.all_eq_true.1 hbl x hx)
    exact ⟨b1, b2, b3, b4, m1, fun y hy => ⟨(b5 y hy).1, (m2 y hy).1, (b5 y hy).2.2.1, (m2 y hy).2⟩⟩
  have hm := mar_8 p.sender p.time A c l2 w3 hr1 hr2 (by omega) (by omega) hk2 ⟨hO.ok2.s0, hO.ok2.s1⟩ hO.time
  have eB : blosB (be32 p.sender) l2 ++ be32 p.time = bs := by rw [hbs]; rw [blosB_bare _ hbr]
  rw [eB, hdr_fit _ hle] at hm
  have hz := ccsize_any g w3 A l2 c _ _ _ hb3 hr1 (by omega) hlen2 (by omega)
  have hl : 12 + blosLen l2 = (hdrB (11) 205 (((bs.length : Nat) : Int) / 4) ++ bs).length := by rw [hdrB4]; omega
  rw [hl] at hz
  refine ⟨invk_val (P := Tryz.prog) (T := 181) (f := 152) (by decide) (by kernel_rfl) Tryz.underlying177 (by kernel_rfl) (fun _ _ => by kernel_rfl) hb3 (kr (hm.mono fun e w4 h => MarOut.marB (B := w.heap.size) (E := w2.heap.size) h)), ?_⟩
  exact invk_ptr (P := Tryz.prog) (T := 181) (f := 153) (by decide) (by kernel_rfl) Tryz.underlying177 (fun _ _ => by kernel_rfl) (kr hz)
theorem wr_9 (p q : Pkt) (w : World) (hk : p.kind = 9) (hO : p.Ok3) (hS : p.Small) (hok : (true) = true) (hle : 4 + (be32 p.sender ++ be32 p.media).length ≤ 131072) (hsame : Pkt.Same ((⟨p.kind, p.sender, p.media, 0, 0, 0, 0, Sl.nil, Sl.nil, Sl.nil, Sl.nil, ByteArray.empty, 0, Sl.nil, Sl.nil, Sl.nil, Sl.nil, 0, Sl.nil, 0, 0, 0, 0, 0, Sl.nil, Sl.nil, false, 0, 0, 0⟩ : Pkt)) q) (hql : q.Lies w w.heap.size) :
    Calls Tryz.prog 29 #[.agg q.cells] w (Built w (hdrB (1) 206 ((((be32 p.sender ++ be32 p.media).length : Nat) : Int) / 4) ++ (be32 p.sender ++ be32 p.media))) := by
  have kq : q.kind = 9 := hsame.kind.trans hk
  have s1 : q.sender = p.sender := hsame.sender
  have s2 : q.media = p.media := hsame.media
  obtain ⟨bs, hbs⟩ : ∃ bs, bs = be32 p.sender ++ be32 p.media := ⟨_, rfl⟩
  have hbl0 : bs.length = (be32 p.sender ++ be32 p.media).length := by rw [hbs]
  simp only [List.length_append, be32_len] at hbl0
  rw [← hbs] at hle ⊢
  refine (built_9 q w kq).mono fun e w2 ⟨g, he, hb, hg, hB⟩ => ?_
  subst he
  simp only [s1, s2] at hb
  refine ⟨_, rfl, fun w3 hw => ?_, hB⟩
  have hb3 : Blk w3 g 183 #[.int .u32 p.sender, .int .u32 p.media] := (hw g ⟨hg, hb.lt⟩).trans hb
  have hm := mar_9 p.sender p.media w3 ⟨hO.ok2.s0, hO.ok2.s1⟩ ⟨hO.ok2.m0, hO.ok2.m1⟩
  have eB : be32 p.sender ++ be32 p.media = bs := by rw [hbs]
  rw [eB, hdr_fit _ hle] at hm
  have hz := size_9 g w3
  have hl : 12 = (hdrB (1) 206 (((bs.length : Nat) : Int) / 4) ++ bs).length := by rw [hdrB4]; omega
  rw [hl] at hz
  refine ⟨invk_val (P := Tryz.prog) (T := 183) (f := 163) (by decide) (by kernel_rfl) Tryz.underlying182 (by kernel_rfl) (fun _ _ => by kernel_rfl) hb3 (kr (hm.mono fun e w4 h => MarOut.marB (B := w.heap.size) (E := w2.heap.size) h)), ?_⟩
  exact invk_ptr (P := Tryz.prog) (T := 183) (f := 164) (by decide) (by kernel_rfl) Tryz.underlying182 (fun _ _ => by kernel_rfl) (kr hz)
theorem wr_10 (p q : Pkt) (w : World) (hk : p.kind = 10) (hO : p.Ok3) (hS : p.Small) (hok : (((decide (0 < p.slices.l.length) && decide (((p.slices.l.length : Nat) : Int) ≤ 253)) && p.slices.l.all slcOk)) = true) (hle : 4 + (be32 p.sender ++ be32 p.media ++ slcsB p.slices.l).length ≤ 131072) (hsame : Pkt.Same ((⟨p.kind, p.sender, p.media, 0, 0, 0, 0, Sl.nil, Sl.nil, Sl.nil, Sl.nil, ByteArray.empty, 0, Sl.nil, Sl.nil, p.slices, Sl.nil, 0, Sl.nil, 0, 0, 0, 0, 0, Sl.nil, Sl.nil, false, 0, 0, 0⟩ : Pkt)) q) (hql : q.Lies w w.heap.size) :
    Calls Tryz.prog 29 #[.agg q.cells] w (Built w (hdrB (2) 206 ((((be32 p.sender ++ be32 p.media ++ slcsB p.slices.l).length : Nat) : Int) / 4) ++ (be32 p.sender ++ be32 p.media ++ slcsB p.slices.l))) := by
  have kq : q.kind = 10 := hsame.kind.trans hk
  have s1 : q.sender = p.sender := hsame.sender
  have s2 : q.media = p.media := hsame.media
  have sl : q.slices.l = p.slices.l := hsame.slices
  simp only [Bool.and_eq_true, decide_eq_true_eq] at hok
  obtain ⟨⟨h0, h253⟩, hsl⟩ := hok
  obtain ⟨bs, hbs⟩ : ∃ bs, bs = be32 p.sender ++ be32 p.media ++ slcsB p.slices.l := ⟨_, rfl⟩
  have hbl0 : bs.length = (be32 p.sender ++ be32 p.media ++ slcsB p.slices.l).length := by rw [hbs]
  simp only [List.length_append, be32_len, slcsB_len] at hbl0
  rw [← hbs] at hle ⊢
  refine (builtL_10 q w kq hql.slices (by rw [sl]; exact hS.slices1)).mono fun e w2 ⟨g, v, he, hb, hg, ho1, hB⟩ => ?_
  subst he
  simp only [s1, s2, sl] at hb ho1
  obtain ⟨v1, c1, rfl⟩ := own_form ho1
  refine ⟨_, rfl, fun w3 hw => ?_, hB⟩
  have hb3 : Blk w3 g 187 #[.int .u32 p.sender, .int .u32 p.media, .slice v1 p.slices.l.length c1] := (hw g ⟨hg, hb.lt⟩).trans hb
  have hr1 := own_later ho1 hw (by omega)
  have hm := mar_10 p.sender p.media v1 c1 p.slices.l w3 hr1 (by omega) (fun x hx => by have h1 := hO.ok2.slices x hx; have h2 := List.all_eq_true.1 hsl x hx; unfold slcOk at h2; simp only [Bool.and_eq_true, decide_eq_true_eq] at h2; omega) ⟨hO.ok2.s0, hO.ok2.s1⟩ ⟨hO.ok2.m0, hO.ok2.m1⟩
  have eB : be32 p.sender ++ be32 p.media ++ p.slices.l.flatMap (fun x => be32 (slcW x)) = bs := by rw [hbs]; rfl
  rw [eB, hdr_fit _ hle] at hm
  have hz := same_below (slisize_any g w3 v1 p.slices.l.length c1 _ _ _ hb3 hS.short.slices)
  have hl : 12 + 4 * p.slices.l.length = (hdrB (2) 206 (((bs.length : Nat) : Int) / 4) ++ bs).length := by rw [hdrB4]; omega
  rw [hl] at hz
  refine ⟨invk_val (P := Tryz.prog) (T := 187) (f := 167) (by decide) (by kernel_rfl) Tryz.underlying184 (by kernel_rfl) (fun _ _ => by kernel_rfl) hb3 (kr (hm.mono fun e w4 h => MarOut.marB (B := w.heap.size) (E := w2.heap.size) h)), ?_⟩
  exact invk_ptr (P := Tryz.prog) (T := 187) (f := 168) (by decide) (by kernel_rfl) Tryz.underlying184 (fun _ _ => by kernel_rfl) (kr hz)
theorem wr_11 (p q : Pkt) (w : World) (hk : p.kind = 11) (hO : p.Ok3) (hS : p.Small) (hok : ((decide (0 < p.entries.l.length))) = true) (hle : 4 + (be32 p.sender ++ be32 p.media ++ entsB p.entries.l).length ≤ 131072) (hsame : Pkt.Same ((⟨p.kind, p.sender, p.media, 0, 0, 0, 0, Sl.nil, Sl.nil, Sl.nil, Sl.nil, ByteArray.empty, 0, Sl.nil, Sl.nil, Sl.nil, p.entries, 0, Sl.nil, 0, 0, 0, 0, 0, Sl.nil, Sl.nil, false, 0, 0, 0⟩ : Pkt)) q) (hql : q.Lies w w.heap.size) :
    Calls Tryz.prog 29 #[.agg q.cells] w (Built w (hdrB (4) 206 ((((be32 p.sender ++ be32 p.media ++ entsB p.entries.l).length : Nat) : Int) / 4) ++ (be32 p.sender ++ be32 p.media ++ entsB p.entries.l))) := by
  have kq : q.kind = 11 := hsame.kind.trans hk
  have s1 : q.sender = p.sender := hsame.sender
  have s2 : q.media = p.media := hsame.media
  have sl : q.entries.l = p.entries.l := hsame.entries
  simp only [Bool.and_eq_true, decide_eq_true_eq] at hok
  obtain ⟨bs, hbs⟩ : ∃ bs, bs = be32 p.sender ++ be32 p.media ++ entsB p.entries.l := ⟨_, rfl⟩
  have hbl0 : bs.length = (be32 p.sender ++ be32 p.media ++ entsB p.entries.l).length := by rw [hbs]
  simp only [List.length_append, be32_len, entsB_len] at hbl0
  rw [← hbs] at hle ⊢
  refine (builtL_11 q w kq hql.entries (by rw [sl]; exact hS.entries1)).mono fun e w2 ⟨g, v, he, hb, hg, ho1, hB⟩ => ?_
  subst he
  simp only [s1, s2, sl] at hb ho1
  obtain ⟨v1, c1, rfl⟩ := own_form ho1
  refine ⟨_, rfl, fun w3 hw => ?_, hB⟩
  have hb3 : Blk w3 g 192 #[.int .u32 p.sender, .int .u32 p.media, .slice v1 p.entries.l.length c1] := (hw g ⟨hg, hb.lt⟩).trans hb
  have hr1 := own_later ho1 hw (by omega)
  have hm := mar_11 p.sender p.media v1 c1 p.entries.l w3 hr1 (by omega) (fun x hx => ⟨(hO.entries x hx).1, (hO.entries x hx).2.1⟩) ⟨hO.ok2.s0, hO.ok2.s1⟩ ⟨hO.ok2.m0, hO.ok2.m1⟩
  have eB : be32 p.sender ++ be32 p.media ++ p.entries.l.flatMap (fun x => be32 x.ssrc ++ [x.n, 0, 0, 0]) = bs := by rw [hbs]; rfl
  rw [eB, hdr_fit _ hle] at hm
  have hz := same_below (firsize_any g w3 v1 p.entries.l.length c1 _ _ _ hb3 hS.short.entries)
  have hl : 12 + 8 * p.entries.l.length = (hdrB (4) 206 (((bs.length : Nat) : Int) / 4) ++ bs).length := by rw [hdrB4]; omega
  rw [hl] at hz
  refine ⟨invk_val (P := Tryz.prog) (T := 192) (f := 172) (by decide) (by kernel_rfl) Tryz.underlying189 (by kernel_rfl) (fun _ _ => by kernel_rfl) hb3 (kr (hm.mono fun e w4 h => MarOut.marB (B := w.heap.size) (E := w2.heap.size) h)), ?_⟩
  exact invk_ptr (P := Tryz.prog) (T := 192) (f := 173) (by decide) (by kernel_rfl) Tryz.underlying189 (fun _ _ => by kernel_rfl) (kr hz)
theorem wr_12 (p q : Pkt) (w : World) (hk : p.kind = 12) (hO : p.Ok3) (hS : p.Small) (hok : ((mantF p.bits.toNat && decide (((p.sources.l.length : Nat) : Int) ≤ 255))) = true) (hle : 4 + (be32 p.sender ++ be32 0 ++ [82, 69, 77, 66, (p.sources.l.length : Int) % 256, mantV p.bits.toNat / 65536 % 256, mantV p.bits.toNat / 256 % 256, mantV p.bits.toNat % 256] ++ p.sources.l.flatMap be32).length ≤ 131072) (hsame : Pkt.Same ((⟨p.kind, p.sender, 0, 0, 0, 0, 0, Sl.nil, Sl.nil, Sl.nil, p.sources, ByteArray.empty, 0, Sl.nil, Sl.nil, Sl.nil, Sl.nil, p.bits, Sl.nil, 0, 0, 0, 0, 0, Sl.nil, Sl.nil, false, 0, 0, 0⟩ : Pkt)) q) (hql : q.Lies w w.heap.size) :
    Calls Tryz.prog 29 #[.agg q.cells] w (Built w (hdrB (15) 206 ((((be32 p.sender ++ be32 0 ++ [82, 69, 77, 66, (p.sources.l.length : Int) % 256, mantV p.bits.toNat / 65536 % 256, mantV p.bits.toNat / 256 % 256, mantV p.bits.toNat % 256] ++ p.sources.l.flatMap be32).length : Nat) : Int) / 4) ++ (be32 p.sender ++ be32 0 ++ [82, 69, 77, 66, (p.sources.l.length : Int) % 256, mantV p.bits.toNat / 65536 % 256, mantV p.bits.toNat / 256 % 256, mantV p.bits.toNat % 256] ++ p.sources.l.flatMap be32))) := by
  have kq : q.kind = 12 := hsame.kind.trans hk
  have s1 : q.sender = p.sender := hsame.sender
  have s9 : q.bits = p.bits := hsame.bits
  have ss : q.sources.l = p.sources.l := congrArg Sl.l (show q.sources = p.sources from hsame.sources)
  simp only [Bool.and_eq_true, decide_eq_true_eq] at hok
  obtain ⟨hm0, h255⟩ := hok
  obtain ⟨bs, hbs⟩ : ∃ bs, bs = be32 p.sender ++ be32 0 ++ [82, 69, 77, 66, (p.sources.l.length : Int) % 256, mantV p.bits.toNat / 65536 % 256, mantV p.bits.toNat / 256 % 256, mantV p.bits.toNat % 256] ++ p.sources.l.flatMap be32 := ⟨_, rfl⟩
  have hbl0 : bs.length = (be32 p.sender ++ be32 0 ++ [82, 69, 77, 66, (p.sources.l.length : Int) % 256, mantV p.bits.toNat / 65536 % 256, mantV p.bits.toNat / 256 % 256, mantV p.bits.toNat % 256] ++ p.sources.l.flatMap be32).length := by rw [hbs]
  simp only [List.length_append, be32_len, be32s_len, List.length_cons, List.length_nil] at hbl0
  rw [← hbs] at hle ⊢
  refine (built_12 q w kq hql.sources (by rw [ss]; exact hS.short.sources)).mono fun e w2 ⟨g, v1, c1, he, hb, hg, ho1, hB⟩ => ?_
  subst he
  simp only [s1, s9, ss] at hb ho1
  refine ⟨_, rfl, fun w3 hw => ?_, hB⟩
  have hb3 : Blk w3 g 199 #[.int .u32 p.sender, .float .f32 p.bits.toNat, .slice v1 p.sources.l.length c1] := (hw g ⟨hg, hb.lt⟩).trans hb
  have hr1 := own_later ho1 hw (by omega)
  have hm := mar_12 p.sender p.bits.toNat v1 c1 p.sources.l w3 hr1 (by omega) hO.sources ⟨hO.ok2.s0, hO.ok2.s1⟩ hm0
  have eB : be32 p.sender ++ be32 0 ++ [82, 69, 77, 66, (p.sources.l.length : Int) % 256, mantV p.bits.toNat / 65536 % 256, mantV p.bits.toNat / 256 % 256, mantV p.bits.toNat % 256] ++ p.sources.l.flatMap be32 = bs := by rw [hbs]
  rw [eB, hdr_fit _ hle] at hm
  have hz := rembsize_any w3 v1 p.sources.l.length c1 (.int .u32 p.sender) (.float .f32 p.bits.toNat) rfl rfl hS.short.sources
  have hl : 20 + 4 * p.sources.l.length = (hdrB (15) 206 (((bs.length : Nat) : Int) / 4) ++ bs).length := by rw [hdrB4]; omega
  rw [hl] at hz
  refine ⟨invk_val (P := Tryz.prog) (T := 199) (f := 177) (by decide) (by kernel_rfl) Tryz.underlying195 (by kernel_rfl) (fun _ _ => by kernel_rfl) hb3 (kr (hm.mono fun e w4 h => MarOut.marB (B := w.heap.size) (E := w2.heap.size) h)), ?_⟩
  exact invk_val (P := Tryz.prog) (T := 199) (f := 178) (by decide) (by kernel_rfl) Tryz.underlying195 (by kernel_rfl) (fun _ _ => by kernel_rfl) hb3 (kr hz)
theorem rawsize_any (A : Option Addr) (n c : Nat) (w : World) : Calls Tryz.prog 210 #[.slice A n c] w fun e w' => e = .returned (.int .i64 (n : Nat)) ∧ Below w.heap.size w w' := by
  refine go_in Tryz.func210 rfl Tryz.ntmps210 [.slice A (n : Nat) c] fun a hE => ?_
  have hS := stp_in w
  refine rg hE hS [pu] (fun _ => kp [(2, .int .i64 0)]) (fun _ => kP []) fun _ a u hE hS => ?_
  refine rg hE hS [pu, pu, pu] (fun _ => kp [(2, .int .i64 (n : Nat))]) (fun _ => kP []) fun _ a u hE hS => ?_
  refine wp_ret ?_
  exact ret1 hE Tryz.results210 (.int .i64 (n : Nat)) ⟨rfl, hS.below⟩
theorem wr_0 (p q : Pkt) (w : World) (hS : p.Small) (hsame : Pkt.Same { Pkt.zero with data := p.data } q) (hql : q.Lies w w.heap.size) :
    Calls Tryz.prog 29 #[.agg q.cells] w (Built w p.data.l) := by
  have kq : q.kind = 0 := hsame.kind
  have sd : q.data.l = p.data.l := congrArg Sl.l (show q.data = p.data from hsame.data)
  refine (built_0 q w kq hql.data (by rw [sd]; exact hS.short.data)).mono fun e w2 ⟨g, v1, c1, he, hb, hg, ho1, hB⟩ => ?_
  subst he
  simp only [sd] at hb ho1
  refine ⟨_, rfl, fun w3 hw => ?_, hB⟩
  have hb3 : Blk w3 g 202 #[.slice v1 p.data.l.length c1] := (hw g ⟨hg, hb.lt⟩).trans hb
  have hr := (InRows.of_own ho1).st hw
  have hm : Calls Tryz.prog 209 #[.slice v1 p.data.l.length c1] w3 (MarB w.heap.size w2.heap.size w3 p.data.l) := (mar_0 (.slice v1 p.data.l.length c1) w3).mono fun e w4 ⟨he, hB4⟩ => ⟨v1, c1, he, fun hn => by
    obtain ⟨ad, e2, h1, h2, h3⟩ := hr.2 hn
    refine ⟨ad, e2, .inl ⟨h1, h2⟩, fun j u hu => ?_⟩
    have h4 := h3 j u hu
    have hl := cell_lt h4
    exact (hB4.cell (by rwa [block_of_add] at hl ⊢)).trans h4, hB4⟩
  refine ⟨invk_val (P := Tryz.prog) (T := 202) (f := 209) (by decide) (by kernel_rfl) Tryz.underlying203 (by kernel_rfl) (fun _ _ => by kernel_rfl) hb3 (kr hm), ?_⟩
  exact invk_val (P := Tryz.prog) (T := 202) (f := 210) (by decide) (by kernel_rfl) Tryz.underlying203 (by kernel_rfl) (fun _ _ => by kernel_rfl) hb3 (kr (rawsize_any v1 p.data.l.length c1 w3))
end Go.Proofs.YtmmfpgoodfgkbaaGreat
