/-
  PLAIN LAWS towards the agreement of the two readings: contents of a packet that came out of few bytes have a short key; what the package's reading is to show, from the contracts of its parts.
-/
import Derived.Test.YtmmfpgoodfgkbaaGreatLawRO
import Derived.Test.YtmmfpgoodfgkbaaGreatPl13
import Derived.Test.YtmmfpgoodfgkbaaGreatUm12
import Derived.Test.YtmmfpgoodfgkbaaGreatUm5
import Derived.Test.YtmmfpgoodfgkbaaGreatUm4
import Derived.Test.YtmmfpgoodfgkbaaGreatUm3
import Derived.Test.YtmmfpgoodfgkbaaGreatBuilt02
import Derived.Test.YtmmfpgoodfgkbaaGreatUm8
import Derived.Test.YtmmfpgoodfgkbaaGreatUm13
namespace Go.Proofs.YtmmfpgoodfgkbaaGreat
open Go Go.RowKit
set_option linter.unusedVariables false
set_option linter.unusedSimpArgs false

theorem fl_le {α : Type} (f : α → List Int) {B : Nat} : ∀ {l : List α}, (∀ x ∈ l, (f x).length ≤ B) → (l.flatMap f).length ≤ l.length * B
  | [], _ => by simp
  | x :: l, h => by
    have h1 := h x (List.mem_cons_self ..)
    have h2 := fl_le f (l := l) fun y hy => h y (List.mem_cons_of_mem _ hy)
    rw [List.flatMap_cons, List.length_append, List.length_cons, Nat.succ_mul]
    omega
structure Sml (C : Pkt) : Prop where
  reports : C.reports.l.length ≤ 131072 := by exact Nat.zero_le _
  ext : C.ext.l.length ≤ 131072 := by exact Nat.zero_le _
  chunks : C.chunks.l.length ≤ 31 := by exact Nat.zero_le _
  items : ∀ x ∈ C.chunks.l, x.items.l.length ≤ 131072 := by exact fun x hx => by cases hx
  texts : ∀ x ∈ C.chunks.l, ∀ y ∈ x.items.l, y.text.size ≤ 255 := by exact fun x hx => by cases hx
  sources : C.sources.l.length ≤ 131072 := by exact Nat.zero_le _
  text : C.text.size ≤ 131072 := by exact Nat.zero_le _
  data : C.data.l.length ≤ 131072 := by exact Nat.zero_le _
  pairs : C.pairs.l.length ≤ 131072 := by exact Nat.zero_le _
  slices : C.slices.l.length ≤ 131072 := by exact Nat.zero_le _
  entries : C.entries.l.length ≤ 131072 := by exact Nat.zero_le _
  blocks : C.blocks.l.length ≤ 131072 := by exact Nat.zero_le _
  mets : ∀ x ∈ C.blocks.l, x.mets.l.length ≤ 131072 := by exact fun x hx => by cases hx
  stats : C.stats.l.length ≤ 131072 := by exact Nat.zero_le _
  lists : ∀ x ∈ C.stats.l, x.list.l.length ≤ 14 := by exact fun x hx => by cases hx
  deltas : C.deltas.l.length ≤ 1048576 := by exact Nat.zero_le _
  extB : Byts C.ext.l := by exact fun x hx => by cases hx
  dataB : Byts C.data.l := by exact fun x hx => by cases hx
theorem Sml.ok {C : Pkt} (h : Sml C) : OkC C := by
  obtain ⟨h1, h2, h3, h4, h5, h6, h7, h8, h9, h10, h11, h12, h13, h14, h15, h16, h17, h18⟩ := h
  refine ⟨⟨by omega, by omega, by omega, by omega, by omega, by omega, by omega, by omega, by omega, by omega, by omega, fun x hx => by have := h4 x hx; omega, fun x hx => by have := h13 x hx; omega⟩, fun x hx => by have := h15 x hx; omega, h17, h18, ?_⟩
  have e1 : (C.reports.l.flatMap kRep).length ≤ C.reports.l.length * 56 := fl_le kRep fun x hx => by simp [kRep, n64_len]
  have e2 : (C.chunks.l.flatMap kChunk).length ≤ C.chunks.l.length * (16 + 131072 * 271) := fl_le kChunk fun x hx => by
    have a := fl_le kItem (B := 271) (l := x.items.l) fun y hy => by have := h5 x hx y hy; simp [kItem, n64_len, sb_len]; omega
    have b := h4 x hx
    have c := Nat.mul_le_mul_right 271 b
    simp only [kChunk, List.length_append, n64_len, List.length_cons, List.length_nil]
    omega
  have e3 : (C.sources.l.flatMap kNum).length ≤ C.sources.l.length * 8 := fl_le kNum fun x hx => by simp [kNum, n64_len]
  have e4 : (C.pairs.l.flatMap kPair).length ≤ C.pairs.l.length * 16 := fl_le kPair fun x hx => by simp [kPair, n64_len]
  have e5 : (C.slices.l.flatMap kSlc).length ≤ C.slices.l.length * 24 := fl_le kSlc fun x hx => by simp [kSlc, n64_len]
  have e6 : (C.entries.l.flatMap kEnt).length ≤ C.entries.l.length * 16 := fl_le kEnt fun x hx => by simp [kEnt, n64_len]
  have e7 : (C.blocks.l.flatMap kBlo).length ≤ C.blocks.l.length * (24 + 131072 * 24) := fl_le kBlo fun x hx => by
    have a := fl_le kMet (B := 24) (l := x.mets.l) fun y hy => by simp [kMet, n64_len]
    have b := Nat.mul_le_mul_right 24 (h13 x hx)
    simp only [kBlo, List.length_append, n64_len, List.length_cons, List.length_nil]
    omega
  have e8 : (C.stats.l.flatMap kSta).length ≤ C.stats.l.length * 152 := fl_le kSta fun x hx => by
    have a := fl_le kNum (B := 8) (l := x.list.l) fun y hy => by simp [kNum, n64_len]
    have b := h15 x hx
    simp only [kSta, List.length_append, n64_len, List.length_cons, List.length_nil]
    omega
  have e9 : (C.deltas.l.flatMap kDlt).length ≤ C.deltas.l.length * 16 := fl_le kDlt fun x hx => by simp [kDlt, n64_len]
  have f2 := Nat.mul_le_mul_right (16 + 131072 * 271) h3
  have f7 := Nat.mul_le_mul_right (24 + 131072 * 24) h12
  simp only [keyB, kA22, kA21, kA20, kA19, kA18, kA17, kA16, kA15, kA14, kA13, kA12, kA11, kA10, kA9, kA8, kA7, kA6, kA5, kA4, kA3, kA2, kA1, List.length_append, n64_len, sb_len, strB_size, List.length_cons, List.length_nil]
  omega
theorem PlainOut.mono {w : World} {R R' : Pkt → Prop} {e : Ending} {w' : World} (h : PlainOut w R e w') (hR : ∀ q, R q → R' q) : PlainOut w R' e w' := by
  obtain ⟨q, h1, h2, h3, h4⟩ := h
  exact ⟨q, h1, h2, h3, hR q h4⟩
theorem ump_of {tp T : TypeId} {zc : Array Value} {z : List Int} {R : Pkt → Prop} {f : FuncId} (hm : rowOf Tryz.prog tp "Unmarshal" = some (#[], some (f, true))) (hu : Tryz.prog.underlying tp = some (.pointer T))
    (hc : ∀ (fas : Array Value) (w : World), (callFunc f fas).run Tryz.prog w = .ok (.enter f fas) w)
    (h : ∀ g b c w, Blk w g T zc → RowD w (· = b) (some ⟨b, 0, none⟩) z → (∀ x, x = b → x < w.heap.size ∧ x ≠ g) → z.length ≤ c → Calls Tryz.prog f #[.pointer (some ⟨g, 0, none⟩), .slice (some ⟨b, 0, none⟩) z.length c] w fun e w' => e = .returned .nilIface ∧ w.grownBy w' (some g) ∧ ∀ w'', w''.heap[g]? = w'.heap[g]? → w''.heap[b]? = w'.heap[b]? → (∀ x, w.heap.size ≤ x ∧ x < w'.heap.size → w''.heap[x]? = w'.heap[x]?) → Calls Tryz.prog 45 #[.iface tp (.pointer (some ⟨g, 0, none⟩))] w'' (PlainOut w'' R)) : UmP tp T zc z R := by
  intro g b c w hb hr hbl hbg hcl
  refine invk_ptr (by decide) hm hu hc ?_
  refine (h g b c w hb hr (fun x hx => hx ▸ ⟨hbl, hbg⟩) hcl).mono fun e w' ⟨h1, h2, h3⟩ => ⟨h1, h2, fun w'' hk => h3 w'' (hk g (.inl rfl)) (hk b (.inr (.inl rfl))) fun x hx => hk x (.inr (.inr hx))⟩
theorem agr_7 (s m : Int) (z : List Int) {L : Nat} (hd : Hd z false 5 205 L) (h12 : 12 ≤ z.length) (hs : rd32 (z.drop 4) 0 = s) (hm : rd32 (z.drop 8) 0 = m) : Agrees z (pFb 7 s m) := by
  subst hs hm
  refine ⟨pFb 7 (rd32 (z.drop 4) 0) (rd32 (z.drop 8) 0), _, _, _, rfl, (Sml.ok {}), ?_, built0_7, ?_⟩
  · intro g w
    kernel_rfl
  · refine ump_of (f := 148) (by kernel_rfl) (by kernel_rfl) (fun _ _ => by kernel_rfl) fun g b c w hb hr hD hc => ?_
    refine (um_7 g b 0 c z (· = b) w hd hb hr hD hc h12).mono fun e w' ⟨h1, h2, h3⟩ => ⟨h1, h2, fun w'' hg hbk hk => ?_⟩
    exact (pl_7 _ _ g w'' (hg.trans h3)).mono fun e w3 h => h.mono fun q hq => by rw [hq]; rfl
theorem rd_of {w' w'' : World} {B size n : Nat} {A : Option Addr} {xs : List Value} (h : InRows w' B w'.heap.size size A n xs) (hk : ∀ x, B ≤ x ∧ x < w'.heap.size → w''.heap[x]? = w'.heap[x]?) : Reads w'' w''.heap.size size A n xs :=
  (h.st hk).readsH fun g hg => by
    have := hk g hg
    rw [Array.getElem?_eq_getElem hg.2] at this
    exact (Array.getElem?_eq_some_iff.1 this).1
theorem agr_9 (s m : Int) (z : List Int) {L : Nat} (hd : Hd z false 1 206 L) (h12 : 12 ≤ z.length) (hs : rd32 (z.drop 4) 0 = s) (hm : rd32 (z.drop 8) 0 = m) : Agrees z (pFb 9 s m) := by
  subst hs hm
  refine ⟨pFb 9 (rd32 (z.drop 4) 0) (rd32 (z.drop 8) 0), _, _, _, rfl, (Sml.ok {}), ?_, built0_9, ?_⟩
  · intro g w
    kernel_rfl
  · refine ump_of (f := 165) (by kernel_rfl) (by kernel_rfl) (fun _ _ => by kernel_rfl) fun g b c w hb hr hD hc => ?_
    refine (um_9 g b 0 c z (· = b) w hd hb hr hD hc h12).mono fun e w' ⟨h1, h2, h3⟩ => ⟨h1, h2, fun w'' hg hbk hk => ?_⟩
    exact (pl_9 _ _ g w'' (hg.trans h3)).mono fun e w3 h => h.mono fun q hq => by rw [hq]; rfl
theorem agr_6 (z : List Int) {L : Nat} (hd : Hd z false 1 205 L) (hzl : z.length = 4 * (L + 1)) (hl : z.length ≤ 131072) (A : Option Addr) (c : Nat) (h12 : 12 ≤ z.length) (h0 : 0 < ((z.drop 4).length - 8) / 4) :
    Agrees z { pFb 6 (rd32 (z.drop 4) 0) (rd32 (z.drop 8) 0) with pairs := ⟨A, c, parts4 pairB 4 (((z.drop 4).length - 8) / 4) ((z.drop 4).drop 8)⟩ } := by
  have hy : (z.drop 4).length = 4 * L := by rw [List.length_drop]; omega
  rw [hy] at h0 ⊢
  refine ⟨{ pFb 6 (rd32 (z.drop 4) 0) (rd32 (z.drop 8) 0) with pairs := ⟨none, 0, parts4 pairB 4 ((4 * L - 8) / 4) ((z.drop 4).drop 8)⟩ }, _, _, _, rfl, Sml.ok { pairs := by show (parts4 _ _ _ _).length ≤ _; rw [parts4_len]; omega }, ?_, built0_6, ?_⟩
  · intro g w
    kernel_rfl
  · refine ump_of (f := 143) (by kernel_rfl) (by kernel_rfl) (fun _ _ => by kernel_rfl) fun g b c w hb hr hD hc => ?_
    refine (um_6 g b 0 c z (· = b) w hd hb hr hD hc hzl h12 (by omega)).mono fun e w' ⟨h1, h2, A2, c2, h3, h4⟩ => ⟨h1, h2, fun w'' hg hbk hk => ?_⟩
    have hln := parts4_len pairB 4 ((4 * L - 8) / 4) ((z.drop 4).drop 8)
    have hnb : (4 * L - 8) / 4 ≤ 131072 := by omega
    revert h3 h4 hln
    generalize parts4 pairB 4 ((4 * L - 8) / 4) ((z.drop 4).drop 8) = l
    intro h3 h4 hln
    rw [← hln] at h3 h4 hnb
    exact (pl_6 _ _ A2 c2 l g w'' (hg.trans h3) (rd_of h4 hk) (by omega)).mono fun e w3 h => h.mono fun q ⟨_, _, hq⟩ => by rw [hq]; rfl
theorem agr_10 (z : List Int) {L : Nat} (hd : Hd z false 2 206 L) (hzl : z.length = 4 * (L + 1)) (hl : z.length ≤ 131072) (A : Option Addr) (c : Nat) (h12 : 12 ≤ z.length) (h0 : 0 < ((z.drop 4).length - 8) / 4) :
    Agrees z { pFb 10 (rd32 (z.drop 4) 0) (rd32 (z.drop 8) 0) with slices := ⟨A, c, parts4 slcB 4 (((z.drop 4).length - 8) / 4) ((z.drop 4).drop 8)⟩ } := by
  have hy : (z.drop 4).length = 4 * L := by rw [List.length_drop]; omega
  rw [hy] at h0 ⊢
  refine ⟨{ pFb 10 (rd32 (z.drop 4) 0) (rd32 (z.drop 8) 0) with slices := ⟨none, 0, parts4 slcB 4 ((4 * L - 8) / 4) ((z.drop 4).drop 8)⟩ }, _, _, _, rfl, Sml.ok { slices := by show (parts4 _ _ _ _).length ≤ _; rw [parts4_len]; omega }, ?_, built0_10, ?_⟩
  · intro g w
    kernel_rfl
  · refine ump_of (f := 169) (by kernel_rfl) (by kernel_rfl) (fun _ _ => by kernel_rfl) fun g b c w hb hr hD hc => ?_
    refine (um_10 g b 0 c z (· = b) w hd hb hr hD hc hzl h12 ).mono fun e w' ⟨h1, h2, A2, c2, h3, h4⟩ => ⟨h1, h2, fun w'' hg hbk hk => ?_⟩
    have hln := parts4_len slcB 4 ((4 * L - 8) / 4) ((z.drop 4).drop 8)
    have hnb : (4 * L - 8) / 4 ≤ 131072 := by omega
    revert h3 h4 hln
    generalize parts4 slcB 4 ((4 * L - 8) / 4) ((z.drop 4).drop 8) = l
    intro h3 h4 hln
    rw [← hln] at h3 h4 hnb
    exact (pl_10 _ _ A2 c2 l g w'' (hg.trans h3) (rd_of h4 hk) (by omega)).mono fun e w3 h => h.mono fun q ⟨_, _, hq⟩ => by rw [hq]; rfl
theorem agr_11 (z : List Int) {L : Nat} (hd : Hd z false 4 206 L) (hzl : z.length = 4 * (L + 1)) (hl : z.length ≤ 131072) (A : Option Addr) (c : Nat) (h12 : 12 ≤ z.length) (h0 : 0 < ((z.drop 4).length - 8) / 8) (hm8 : ((z.drop 4).length - 8) % 8 = 0) :
    Agrees z { pFb 11 (rd32 (z.drop 4) 0) (rd32 (z.drop 8) 0) with entries := ⟨A, c, parts4 entB 8 (((z.drop 4).length - 8) / 8) ((z.drop 4).drop 8)⟩ } := by
  have hy : (z.drop 4).length = 4 * L := by rw [List.length_drop]; omega
  rw [hy] at h0 hm8 ⊢
  refine ⟨{ pFb 11 (rd32 (z.drop 4) 0) (rd32 (z.drop 8) 0) with entries := ⟨none, 0, parts4 entB 8 ((4 * L - 8) / 8) ((z.drop 4).drop 8)⟩ }, _, _, _, rfl, Sml.ok { entries := by show (parts4 _ _ _ _).length ≤ _; rw [parts4_len]; omega }, ?_, built0_11, ?_⟩
  · intro g w
    kernel_rfl
  · refine ump_of (f := 174) (by kernel_rfl) (by kernel_rfl) (fun _ _ => by kernel_rfl) fun g b c w hb hr hD hc => ?_
    refine (um_11 g b 0 c z (· = b) w hd hb hr hD hc hzl h12 (by omega) (by omega)).mono fun e w' ⟨h1, h2, A2, c2, h3, h4⟩ => ⟨h1, h2, fun w'' hg hbk hk => ?_⟩
    have hln := parts4_len entB 8 ((4 * L - 8) / 8) ((z.drop 4).drop 8)
    have hnb : (4 * L - 8) / 8 ≤ 131072 := by omega
    revert h3 h4 hln
    generalize parts4 entB 8 ((4 * L - 8) / 8) ((z.drop 4).drop 8) = l
    intro h3 h4 hln
    rw [← hln] at h3 h4 hnb
    exact (pl_11 _ _ A2 c2 l g w'' (hg.trans h3) (rd_of h4 hk) (by omega)).mono fun e w3 h => h.mono fun q ⟨_, _, hq⟩ => by rw [hq]; rfl
end Go.Proofs.YtmmfpgoodfgkbaaGreat
/-
  PLAIN LAWS: the two readings agree on reports, goodbyes, application packets, raw packets, descriptions, congestion feedback, bitrates. Condition: what the reference has found in the bytes.
-/
namespace Go.Proofs.YtmmfpgoodfgkbaaGreat
open Go Go.RowKit
set_option linter.unusedVariables false
set_option linter.unusedSimpArgs false

theorem rd_sl {w' w'' : World} {b : Nat} {A : Option Addr} {l : List Int} (h : RowD w' (· = b) A l) (hb : b < w'.heap.size) (hk : w''.heap[b]? = w'.heap[b]?) : Reads w'' w''.heap.size 1 A l.length (u8s l) := by
  refine RowD.reads fun hn => ?_
  obtain ⟨ad, e, h1, h2⟩ := h hn
  have h1 : ad.block = b := h1
  have hlt : b < w''.heap.size := by
    rw [Array.getElem?_eq_getElem hb] at hk
    exact (Array.getElem?_eq_some_iff.1 hk).1
  exact ⟨ad, e, by rw [h1]; exact hlt, fun j u hu => (World.cell?_of_block (by rw [block_of_add, h1]; exact hk)).trans (h2 j u hu)⟩
theorem agr_5 (z : List Int) {n L : Nat} (hd : Hd z false n 204 L) (hzl : z.length = 4 * (L + 1)) (hl : z.length ≤ 131072) (A : Option Addr) (c : Nat) (h8 : 8 ≤ (z.drop 4).length) :
    Agrees z { pNul with kind := 5, sender := rd32 (z.drop 4) 0, text := strB (((z.drop 4).take 8).drop 4), sub := (n : Nat), data := ⟨A, c, (z.drop 4).drop 8⟩ } := by
  have hle : ((z.drop 4).drop 8).length ≤ 131072 := by simp only [List.length_drop]; omega
  have h12 : 12 ≤ z.length := by rw [List.length_drop] at h8; omega
  refine ⟨{ pNul with kind := 5, sender := rd32 (z.drop 4) 0, text := strB (((z.drop 4).take 8).drop 4), sub := (n : Nat), data := ⟨none, 0, (z.drop 4).drop 8⟩ }, _, _, _, rfl, Sml.ok { data := hle, dataB := (hd.byts.drop 4).drop 8, text := by show (strB _).size ≤ _; rw [strB_size]; simp only [List.length_drop, List.length_take]; omega }, ?_, built0_5, ?_⟩
  · intro g w
    kernel_rfl
  · refine ump_of (f := 139) (by kernel_rfl) (by kernel_rfl) (fun _ _ => by kernel_rfl) fun g b c w hb hr hD hc => ?_
    refine (um_5 _ g b 0 c z (· = b) w hd hb hr hD hc hzl h12).mono fun e w' ⟨h1, h2, v, h3, A2, c2, hv, h4⟩ => ⟨h1, h2, fun w'' hg hbk hk => ?_⟩
    subst hv
    exact (pl_5 _ _ _ A2 c2 _ g w'' (hg.trans h3) (rd_sl h4 (Nat.lt_of_lt_of_le (hD b rfl).1 h2.size) hbk) (by omega)).mono fun e w3 h => h.mono fun q ⟨_, _, hq⟩ => by rw [hq]; rfl
theorem agr_0 (z : List Int) {pad : Bool} {n : Nat} {t : Int} {L : Nat} (hd : Hd z pad n t L) (hl : z.length ≤ 131072) (A : Option Addr) (c : Nat) :
    Agrees z { pNul with data := ⟨A, c, z⟩ } := by
  refine ⟨{ pNul with data := ⟨none, 0, z⟩ }, _, _, _, rfl, Sml.ok { data := hl, dataB := hd.byts }, ?_, built0_0, ?_⟩
  · intro g w
    kernel_rfl
  · refine ump_of (f := 212) (by kernel_rfl) (by kernel_rfl) (fun _ _ => by kernel_rfl) fun g b c w hb hr hD hc => ?_
    refine (um_0 _ g b 0 c z (· = b) w hd hb hr hD hc).mono fun e w' ⟨h1, h2, h3⟩ => ⟨h1, h2, fun w'' hg hbk hk => ?_⟩
    exact (pl_0 _ c z g w'' (hg.trans h3) (rd_sl (RowD.kept hr hD h2) (Nat.lt_of_lt_of_le (hD b rfl).1 h2.size) hbk) (by omega)).mono fun e w3 h => h.mono fun q ⟨_, _, hq⟩ => by rw [hq]; rfl
theorem agr_1 (z : List Int) {n L : Nat} (hd : Hd z false n 200 L) (hzl : z.length = 4 * (L + 1)) (hl : z.length ≤ 131072) (A : Option Addr) (c : Nat) (A1 : Option Addr) (c1 : Nat) (h24 : 24 + 24 * n ≤ (z.drop 4).length) :
    Agrees z { pNul with kind := 1, sender := rd32 (z.drop 4) 0, ntp := rd64 ((z.drop 4).drop 4) 0, rtp := rd32 ((z.drop 4).drop 12) 0, packets := rd32 ((z.drop 4).drop 16) 0, octets := rd32 ((z.drop 4).drop 20) 0, reports := ⟨A, c, parts4 repB 24 n ((z.drop 4).drop 24)⟩, ext := ⟨A1, c1, ((z.drop 4).drop 24).drop (24 * n)⟩ } := by
  have hle : (((z.drop 4).drop 24).drop (24 * n)).length ≤ 131072 := by simp only [List.length_drop]; omega
  have h28 : 28 + 24 * n ≤ z.length := by rw [List.length_drop] at h24; omega
  have hln := parts4_len repB 24 n ((z.drop 4).drop 24)
  refine ⟨{ pNul with kind := 1, sender := rd32 (z.drop 4) 0, ntp := rd64 ((z.drop 4).drop 4) 0, rtp := rd32 ((z.drop 4).drop 12) 0, packets := rd32 ((z.drop 4).drop 16) 0, octets := rd32 ((z.drop 4).drop 20) 0, reports := ⟨none, 0, parts4 repB 24 n ((z.drop 4).drop 24)⟩, ext := ⟨none, 0, ((z.drop 4).drop 24).drop (24 * n)⟩ }, _, _, _, rfl, Sml.ok { reports := by show (parts4 _ _ _ _).length ≤ _; omega, ext := hle, extB := ((hd.byts.drop 4).drop 24).drop _ }, ?_, built0_1, ?_⟩
  · intro g w
    kernel_rfl
  · refine ump_of (f := 101) (by kernel_rfl) (by kernel_rfl) (fun _ _ => by kernel_rfl) fun g b c w hb hr hD hc => ?_
    refine (um_1 g b 0 c z (· = b) w hd hb hr hD hc hzl h28).mono fun e w' ⟨h1, h2, A3, c3, v, h3, h5, A2, c2, hv, h4⟩ => ⟨h1, h2, fun w'' hg hbk hk => ?_⟩
    subst hv
    have hnb : n ≤ 131072 := by omega
    revert h3 h5 hln
    generalize parts4 repB 24 n ((z.drop 4).drop 24) = l
    intro hln h5 h3
    revert h4 hle
    generalize ((z.drop 4).drop 24).drop (24 * n) = ex at *
    intro hle h4
    rw [← hln] at h3 h5 hnb
    exact (pl_1 _ _ _ _ _ A3 A2 c3 c2 l ex g w'' (hg.trans h3) (rd_of h5 hk) (rd_sl h4 (Nat.lt_of_lt_of_le (hD b rfl).1 h2.size) hbk) (by omega) (by omega)).mono fun e w3 h => h.mono fun q ⟨_, _, _, _, hq⟩ => by rw [hq]; rfl
theorem agr_2 (z : List Int) {n L : Nat} (hd : Hd z false n 201 L) (hzl : z.length = 4 * (L + 1)) (hl : z.length ≤ 131072) (A : Option Addr) (c : Nat) (A1 : Option Addr) (c1 : Nat) (h24 : 4 + 24 * n ≤ (z.drop 4).length) :
    Agrees z { pNul with kind := 2, sender := rd32 (z.drop 4) 0, reports := ⟨A, c, parts4 repB 24 n ((z.drop 4).drop 4)⟩, ext := ⟨A1, c1, ((z.drop 4).drop 4).drop (24 * n)⟩ } := by
  have hle : (((z.drop 4).drop 4).drop (24 * n)).length ≤ 131072 := by simp only [List.length_drop]; omega
  have h28 : 8 + 24 * n ≤ z.length := by rw [List.length_drop] at h24; omega
  have hln := parts4_len repB 24 n ((z.drop 4).drop 4)
  refine ⟨{ pNul with kind := 2, sender := rd32 (z.drop 4) 0, reports := ⟨none, 0, parts4 repB 24 n ((z.drop 4).drop 4)⟩, ext := ⟨none, 0, ((z.drop 4).drop 4).drop (24 * n)⟩ }, _, _, _, rfl, Sml.ok { reports := by show (parts4 _ _ _ _).length ≤ _; omega, ext := hle, extB := ((hd.byts.drop 4).drop 4).drop _ }, ?_, built0_2, ?_⟩
  · intro g w
    kernel_rfl
  · refine ump_of (f := 118) (by kernel_rfl) (by kernel_rfl) (fun _ _ => by kernel_rfl) fun g b c w hb hr hD hc => ?_
    refine (um_2 _ g b 0 c z (· = b) w hd hb hr hD hc hzl h28).mono fun e w' ⟨h1, h2, A3, c3, v, h3, h5, A2, c2, hv, h4⟩ => ⟨h1, h2, fun w'' hg hbk hk => ?_⟩
    subst hv
    have hnb : n ≤ 131072 := by omega
    revert h3 h5 hln
    generalize parts4 repB 24 n ((z.drop 4).drop 4) = l
    intro hln h5 h3
    revert h4 hle
    generalize ((z.drop 4).drop 4).drop (24 * n) = ex at *
    intro hle h4
    rw [← hln] at h3 h5 hnb
    exact (pl_2 _ A3 A2 c3 c2 l ex g w'' (hg.trans h3) (rd_of h5 hk) (rd_sl h4 (Nat.lt_of_lt_of_le (hD b rfl).1 h2.size) hbk) (by omega) (by omega)).mono fun e w3 h => h.mono fun q ⟨_, _, _, _, hq⟩ => by rw [hq]; rfl
theorem agr_4 (z : List Int) {n L : Nat} (hd : Hd z false n 203 L) (hzl : z.length = 4 * (L + 1)) (hl : z.length ≤ 131072) (A : Option Addr) (c : Nat) (t : ByteArray) (h4n : 4 * n ≤ (z.drop 4).length) (hT : ByeT ((z.drop 4).drop (4 * n)) t) (ht : t.size ≤ 131072) :
    Agrees z { pNul with kind := 4, sources := ⟨A, c, parts4 srcB 4 n (z.drop 4)⟩, text := t } := by
  have hln := parts4_len srcB 4 n (z.drop 4)
  have hnb : n ≤ 131072 := by rw [List.length_drop] at h4n; omega
  refine ⟨{ pNul with kind := 4, sources := ⟨none, 0, parts4 srcB 4 n (z.drop 4)⟩, text := t }, _, _, _, rfl, Sml.ok { sources := by show (parts4 _ _ _ _).length ≤ _; omega, text := ht }, ?_, built0_4, ?_⟩
  · intro g w
    kernel_rfl
  · refine ump_of (f := 134) (by kernel_rfl) (by kernel_rfl) (fun _ _ => by kernel_rfl) fun g b c w hb hr hD hc => ?_
    refine (um_4 g b 0 c z (· = b) w hd hb hr hD hc hzl h4n t hT).mono fun e w' ⟨h1, h2, A3, c3, h3, h5⟩ => ⟨h1, h2, fun w'' hg hbk hk => ?_⟩
    revert h3 h5 hln
    generalize parts4 srcB 4 n (z.drop 4) = l
    intro hln h3 h5
    rw [← hln] at h3 h5 hnb
    exact (pl_4 _ A3 c3 l g w'' (hg.trans h3) (rd_of h5 hk) (by omega)).mono fun e w3 h => h.mono fun q ⟨_, _, hq⟩ => by rw [hq]; rfl
theorem agr_12 (z : List Int) {L : Nat} (hd : Hd z false 15 206 L) (hzl : z.length = 4 * (L + 1)) (hl : z.length ≤ 131072) (A : Option Addr) (c n v : Nat) (hm0 : rd32 ((z.drop 4).drop 4) 0 = 0) (hrm : (strB (((z.drop 4).drop 8).take 4)).toList = (⟨#[82, 69, 77, 66]⟩ : ByteArray).toList) (hlen : ((z.drop 4).drop 8).length = 8 + 4 * n) (hn : gi ((z.drop 4).drop 8) 4 = (n : Int)) (hv : rd24 (((z.drop 4).drop 8).drop 5) 0 = (v : Int)) (hM : v % 262144 ≠ 0) :
    Agrees z { pFb 12 (rd32 (z.drop 4) 0) 0 with bits := ((sgl (v % 262144) (v / 262144) : Nat) : Int), sources := ⟨A, c, parts4 srcB 4 n (((z.drop 4).drop 8).drop 8)⟩ } := by
  have hln := parts4_len srcB 4 n (((z.drop 4).drop 8).drop 8)
  have hnb : n ≤ 131072 := by simp only [List.length_drop] at hlen; omega
  refine ⟨{ pFb 12 (rd32 (z.drop 4) 0) 0 with bits := ((sgl (v % 262144) (v / 262144) : Nat) : Int), sources := ⟨none, 0, parts4 srcB 4 n (((z.drop 4).drop 8).drop 8)⟩ }, _, _, _, rfl, Sml.ok { sources := by show (parts4 _ _ _ _).length ≤ _; omega }, ?_, built0_12, ?_⟩
  · intro g w
    kernel_rfl
  · refine ump_of (f := 179) (by kernel_rfl) (by kernel_rfl) (fun _ _ => by kernel_rfl) fun g b c w hb hr hD hc => ?_
    refine (um_12 g b 0 c z (· = b) w hd hb hr hD hc hzl n v hm0 hrm hlen hn hv hM).mono fun e w' ⟨h1, h2, A3, c3, h3, h5⟩ => ⟨h1, h2, fun w'' hg hbk hk => ?_⟩
    revert h3 h5 hln
    generalize parts4 srcB 4 n (((z.drop 4).drop 8).drop 8) = l
    intro hln h3 h5
    rw [← hln] at h3 h5 hnb
    exact (pl_12 _ _ A3 c3 l g w'' (hg.trans h3) (rd_of h5 hk) (by omega)).mono fun e w3 h => h.mono fun q ⟨_, _, hq⟩ => by rw [hq]; rfl
end Go.Proofs.YtmmfpgoodfgkbaaGreat
/-
  PLAIN LAWS: the two readings agree on descriptions. Condition: what the reference has found in the bytes.
-/
namespace Go.Proofs.YtmmfpgoodfgkbaaGreat
open Go Go.RowKit
set_option linter.unusedVariables false
set_option linter.unusedSimpArgs false

theorem its_sml {y : List Int} (hz : Byts y) (m : Nat) : ∀ i ∈ itsN y m, i.text.size ≤ 255 := by
  intro i hi
  obtain ⟨k, _, rfl⟩ := List.mem_map.1 hi
  show (strB _).size ≤ 255
  rw [strB_size, List.length_drop, List.length_take]
  have h1 := hz.gi (itOff y k + 1)
  have h2 : itOff y (k + 1) = itOff y k + 2 + (gi y (itOff y k + 1)).toNat := rfl
  omega
theorem chs_sml {y : List Int} (hz : Byts y) {n : Nat} : ∀ x ∈ chsN y n, x.items.l.length ≤ y.length ∧ ∀ i ∈ x.items.l, i.text.size ≤ 255 := by
  intro x hx
  obtain ⟨k, _, rfl⟩ := List.mem_map.1 hx
  refine ⟨?_, its_sml (hz.drop _) _⟩
  show (itsN _ _).length ≤ _
  rw [itsN_len]
  have := itM_le (y.drop (chOff y k))
  rw [List.length_drop] at this
  omega
theorem agr_3 (z : List Int) {n L : Nat} (hd : Hd z false n 202 L) (hzl : z.length = 4 * (L + 1)) (hl : z.length ≤ 131072) (A : Option Addr) (c : Nat) (l : List Chunk) (hlc : l.map Chunk.cln = chsN (z.drop 4) n) (hsd : SdOk (z.drop 4) n) :
    Agrees z { pNul with kind := 3, chunks := ⟨A, c, l⟩ } := by
  have hb := hd.byts.drop 4
  have hs := chs_sml hb (n := n)
  have hyl : (z.drop 4).length ≤ 131072 := by rw [List.length_drop]; omega
  have hn31 := hd.cnt31
  have hcl : (chsN (z.drop 4) n).length = n := by simp [chsN]
  refine ⟨{ pNul with kind := 3, chunks := ⟨none, 0, chsN (z.drop 4) n⟩ }, _, _, _, by rw [← hlc]; rfl, Sml.ok { chunks := by show (chsN _ _).length ≤ 31; omega, items := fun x hx => by have := (hs x hx).1; omega, texts := fun x hx => (hs x hx).2 }, ?_, built0_3, ?_⟩
  · intro g w
    kernel_rfl
  · refine ump_of (f := 123) (by kernel_rfl) (by kernel_rfl) (fun _ _ => by kernel_rfl) fun g b c w hb hr hD hc => ?_
    refine (um_3 g b 0 c z (· = b) w hd hb hr hD hc hzl hsd).mono fun e w' ⟨h1, h2, A3, c3, l3, h3, h5, h6, h7⟩ => ⟨h1, h2, fun w'' hg hbk hk => ?_⟩
    have hil : ∀ x ∈ l3, x.items.l.length ≤ 1048576 := fun x hx => by
      have := (hs x.cln (by rw [← h7]; exact List.mem_map_of_mem hx)).1
      have e : x.cln.items.l.length = x.items.l.length := rfl
      omega
    have hll : l3.length = n := by rw [← hcl, ← h7, List.length_map]
    refine (pl_3 A3 c3 l3 g w'' (hg.trans h3) (rd_of h5 hk) (fun x hx => rd_of (h6 x hx) hk) (by omega) hil).mono fun e w3 h => h.mono fun q ⟨B2, c2, l2, hm, hq⟩ => ?_
    rw [hq, ← h7, ← hm]
    rfl
theorem bks_sml {y : List Int} {n : Nat} (hcg : CgOk y n) : n ≤ y.length ∧ ∀ x ∈ bksN y n, x.mets.l.length ≤ y.length := by
  refine ⟨by have := bkOff_up y n; have := hcg.len; omega, ?_⟩
  intro x hx
  obtain ⟨k, hk, rfl⟩ := List.mem_map.1 hx
  have h1 := (hcg.ok k (List.mem_range.1 hk)).len
  show (metsN _ _).length ≤ _
  have h2 : (metsN (y.drop (bkOff y k)) (bkN (y.drop (bkOff y k)))).length = bkN (y.drop (bkOff y k)) := by simp [metsN]
  rw [h2]
  unfold bkLen ev at h1
  rw [List.length_drop] at h1
  omega
theorem agr_8 (z : List Int) {n L : Nat} (hd : Hd z false 11 205 L) (hzl : z.length = 4 * (L + 1)) (hl : z.length ≤ 131072) (A : Option Addr) (c : Nat) (l : List Blo) (hlc : l.map Blo.cln = bksN (z.drop 8) n) (hcg : CgOk (z.drop 8) n) :
    Agrees z { pFb 8 (rd32 (z.drop 4) 0) 0 with blocks := ⟨A, c, l⟩, time := rd32 ((z.drop 8).drop (bkOff (z.drop 8) n)) 0 } := by
  have hs := bks_sml hcg
  have hyl : (z.drop 8).length ≤ 131072 := by rw [List.length_drop]; omega
  have hcl : (bksN (z.drop 8) n).length = n := by simp [bksN]
  refine ⟨{ pFb 8 (rd32 (z.drop 4) 0) 0 with blocks := ⟨none, 0, bksN (z.drop 8) n⟩, time := rd32 ((z.drop 8).drop (bkOff (z.drop 8) n)) 0 }, _, _, _, by rw [← hlc]; rfl, Sml.ok { blocks := by show (bksN _ _).length ≤ _; omega, mets := fun x hx => by have := hs.2 x hx; omega }, ?_, built0_8, ?_⟩
  · intro g w
    kernel_rfl
  · refine ump_of (f := 154) (by kernel_rfl) (by kernel_rfl) (fun _ _ => by kernel_rfl) fun g b c w hb hr hD hc => ?_
    refine (um_8 g b 0 c z (· = b) w hd hb hr hD hc hzl n hcg).mono fun e w' ⟨h1, h2, A3, c3, l3, h3, h5, h6, h7⟩ => ⟨h1, h2, fun w'' hg hbk hk => ?_⟩
    have hil : ∀ x ∈ l3, x.mets.l.length ≤ 1048576 := fun x hx => by
      have := hs.2 x.cln (by rw [← h7]; exact List.mem_map_of_mem hx)
      have e : x.cln.mets.l.length = x.mets.l.length := rfl
      omega
    have hll : l3.length = n := by rw [← hcl, ← h7, List.length_map]
    refine (pl_8 _ _ A3 c3 l3 g w'' (hg.trans h3) (rd_of h5 hk) (fun x hx => rd_of (h6 x hx) hk) (by omega) hil).mono fun e w3 h => h.mono fun q ⟨B2, c2, l2, hm, hq⟩ => ?_
    rw [hq, ← h7, ← hm]
    rfl
end Go.Proofs.YtmmfpgoodfgkbaaGreat
/-
  PLAIN LAWS: the two readings agree on transport-wide feedback. Condition: what the reference has found in the bytes.
-/
namespace Go.Proofs.YtmmfpgoodfgkbaaGreat
open Go Go.RowKit
set_option linter.unusedVariables false
set_option linter.unusedSimpArgs false

theorem dPos_ge {rs : List Int} (h : ∀ x ∈ rs, x = 1 ∨ x = 2) : ∀ i, i ≤ rs.length → i ≤ dPos rs i
  | 0, _ => Nat.le_refl _
  | i + 1, hi => by
    have h1 := dPos_ge h i (by omega)
    have h2 : rs.getD i 0 = rs[i] := by rw [List.getD, List.getElem?_eq_getElem (by omega)]; rfl
    have h3 := h rs[i] (List.getElem_mem _)
    show i + 1 ≤ dPos rs i + (rs.getD i 0).toNat
    rw [h2]
    omega
theorem tok_dl {c : Int} {y : List Int} {n : Nat} (h : TOk c y n) : (rcvN y n).length ≤ y.length := by
  have h1 := (tok_len h).1
  have hm : ∀ x ∈ rcvN y n, x = 1 ∨ x = 2 := fun x hx => rcvN_mem hx
  by_cases h0 : (rcvN y n).length = 0
  · omega
  · have h2 := h.dl ((rcvN y n).length - 1) (by omega)
    have h3 := dPos_ge hm ((rcvN y n).length - 1 + 1) (by omega)
    omega
theorem sta_shape {y : List Int} (hy : Byts y) {n : Nat} {x : Sta} (h : x.cln ∈ stasN y n) : (x.vec = true → x.sym = 0 ∧ x.run = 0 ∧ x.list.l.length ≤ 14) ∧ (x.vec = false → x.size = 0 ∧ x.list.l = []) := by
  obtain ⟨k, _, hk⟩ := List.mem_map.1 h
  have hv := tw_lt hy k
  unfold staC at hk
  by_cases hr : tw y k < 32768
  · rw [if_pos hr] at hk
    have e1 : false = x.vec := congrArg Sta.vec hk
    have e2 : (0 : Int) = x.size := congrArg Sta.size hk
    have e3 : [] = x.list.l := congrArg (fun s => s.list.l) hk
    rw [← e1, ← e2, ← e3]
    exact ⟨fun h => (by cases h), fun _ => ⟨rfl, rfl⟩⟩
  · rw [if_neg hr] at hk
    have e1 : true = x.vec := congrArg Sta.vec hk
    have e2 : (0 : Int) = x.sym := congrArg Sta.sym hk
    have e4 : (0 : Int) = x.run := congrArg Sta.run hk
    have e3 : symL (tw y k) = x.list.l := congrArg (fun s => s.list.l) hk
    rw [← e1, ← e2, ← e4, ← e3]
    refine ⟨fun _ => ⟨rfl, rfl, ?_⟩, fun h => (by cases h)⟩
    rw [symL_len, if_neg hr]
    rcases vecM_or (tw y k) with h | h <;> omega
theorem agr_13 (z : List Int) {n L : Nat} (hd : Hd z false 15 205 L) (hzl : z.length = 4 * (L + 1)) (hl : z.length ≤ 131072) (h20 : 20 ≤ z.length) (A A1 : Option Addr) (c c1 : Nat) (l : List Sta) (hlc : l.map Sta.cln = stasN (z.drop 20) n) (hT : TOk (rd16 (z.drop 14) 0) (z.drop 20) n) :
    Agrees z { pFb 13 (rd32 (z.drop 4) 0) (rd32 (z.drop 8) 0) with base := rd16 (z.drop 12) 0, count := rd16 (z.drop 14) 0, ref := rd24 (z.drop 16) 0, fb := gi z 19, stats := ⟨A, c, l⟩, deltas := ⟨A1, c1, dltN (rcvN (z.drop 20) n) ((z.drop 20).drop (2 * n)) (rcvN (z.drop 20) n).length⟩, hpad := false, hcount := 15, htype := 205, hlen := L } := by
  have hby := hd.byts.drop 20
  have hyl : (z.drop 20).length ≤ 131072 := by rw [List.length_drop]; omega
  have hdl := tok_dl hT
  have hnl := (tok_len hT).1
  have hcl : (stasN (z.drop 20) n).length = n := by simp [stasN]
  have hr24 : rd24 ((z.take 19).drop 16) 0 = rd24 (z.drop 16) 0 := by
    unfold rd24
    rw [gi_cut _ _ _ _ (by omega), gi_cut _ _ _ _ (by omega), gi_cut _ _ _ _ (by omega)]
  have hdn : ∀ rs b m, (dltN rs b m).length = m := fun rs b m => by simp [dltN]
  have hst : ∀ x ∈ stasN (z.drop 20) n, x.list.l.length ≤ 8191 := fun x hx => by
    obtain ⟨k, _, rfl⟩ := List.mem_map.1 hx
    unfold staC
    split
    · exact Nat.zero_le _
    · exact symL_le (tw_lt hby k).1
  have hls : ∀ x ∈ stasN (z.drop 20) n, x.list.l.length ≤ 14 := fun x hx => by
    have hc : x.cln = x := by
      obtain ⟨k, _, rfl⟩ := List.mem_map.1 hx
      unfold staC
      split <;> rfl
    have := sta_shape hby (x := x) (by rw [hc]; exact hx)
    cases hv : x.vec with
    | true => exact (this.1 hv).2.2
    | false => rw [(this.2 hv).2]; exact Nat.zero_le _
  refine ⟨{ pFb 13 (rd32 (z.drop 4) 0) (rd32 (z.drop 8) 0) with base := rd16 (z.drop 12) 0, count := rd16 (z.drop 14) 0, ref := rd24 (z.drop 16) 0, fb := gi z 19, stats := ⟨none, 0, stasN (z.drop 20) n⟩, deltas := ⟨none, 0, dltN (rcvN (z.drop 20) n) ((z.drop 20).drop (2 * n)) (rcvN (z.drop 20) n).length⟩ }, _, _, _, by rw [← hlc]; rfl, Sml.ok { stats := by show (stasN _ _).length ≤ _; omega, lists := hls, deltas := by show (dltN _ _ _).length ≤ _; rw [hdn]; omega }, ?_, built0_13, ?_⟩
  · intro g w
    kernel_rfl
  · refine ump_of (f := 199) (by kernel_rfl) (by kernel_rfl) (fun _ _ => by kernel_rfl) fun g b c w hb hr hD hc => ?_
    refine (um_13 g b 0 c z (· = b) w hd hb hr hD hc hzl n h20 hT).mono fun e w' ⟨h1, h2, A3, c3, A4, c4, cvs, gs, h3, h4, h5, h6, h7, h8, h9, h10⟩ => ⟨h1, h2, fun w'' hg hbk hk => ?_⟩
    have hmem : ∀ x ∈ cvs, x.2.cln ∈ stasN (z.drop 20) n := fun x hx => by rw [← h7]; exact List.mem_map_of_mem (f := fun c : Nat × Sta => c.2.cln) hx
    have hcv : cvs.length = n := by rw [← hcl, ← h7, List.length_map]
    rw [hr24] at h3
    refine (pl_13 L _ _ _ _ _ _ A3 A4 c3 c4 cvs gs (dltN (rcvN (z.drop 20) n) ((z.drop 20).drop (2 * n)) (rcvN (z.drop 20) n).length) g w'' (hg.trans h3) (rd_of (by rw [← List.map_eq_flatMap]; exact h4) hk) (fun x hx => (hk _ (h5 x hx).1).trans (h5 x hx).2) (fun x hx => rd_of (h6 x hx) hk) (fun x hx => by have := hst _ (hmem x hx); have e : x.2.cln.list.l.length = x.2.list.l.length := rfl; omega) (fun x hx => ⟨fun h => ⟨((sta_shape hby (hmem x hx)).1 h).1, ((sta_shape hby (hmem x hx)).1 h).2.1⟩, (sta_shape hby (hmem x hx)).2⟩) (rd_of (by rw [← List.map_eq_flatMap]; exact h8) hk) (by rw [hdn]; exact h9) (fun i gd d hi1 hi2 => by
      have hx : (gd, 255, #[Value.int .u16 d.ty, .int .i64 d.d]) ∈ fd gs (dltN (rcvN (z.drop 20) n) ((z.drop 20).drop (2 * n)) (rcvN (z.drop 20) n).length) := List.mem_of_getElem? (i := i) (by unfold fd; rw [List.getElem?_zipWith, hi1, hi2])
      exact (hk _ (h10 _ hx).1).trans (h10 _ hx).2) (by omega) (by omega)).mono fun e w3 h => h.mono fun q ⟨B2, c2, l2, B5, c5, hm, hq⟩ => ?_
    rw [hq, ← h7, ← hm]
    rfl
end Go.Proofs.YtmmfpgoodfgkbaaGreat
