/-
  PLAIN LAWS: the reference's reading of one packet hands back what the package reads, kind by kind.
-/
import Derived.Test.YtmmfpgoodfgkbaaGreatMAgr
import Derived.Test.YtmmfpgoodfgkbaaGreatRfb2
import Derived.Test.YtmmfpgoodfgkbaaGreatRch
namespace Go.Proofs.YtmmfpgoodfgkbaaGreat
open Go Go.RowKit
set_option linter.unusedVariables false
set_option linter.unusedSimpArgs false

theorem RoneOut.mono {w : World} {R R' : Pkt → Prop} {e : Ending} {w' : World} (h : RoneOut w R e w') (hR : ∀ q, R q → R' q) : RoneOut w R' e w' :=
  h.imp id fun ⟨q, h1, h2, h3⟩ => ⟨q, h1, hR q h2, h3⟩
section
variable (B b o c : Nat) (z : List Int) (w : World) (hr : Reads w B 1 (some ⟨b, o, none⟩) z.length (u8s z)) (hB : B ≤ w.heap.size) (hc : z.length ≤ c) (hl : z.length ≤ 131072) (L : Nat) (hzl : z.length = 4 * (L + 1))
include hr hB hc hl hzl
theorem ro_7 (hd : Hd z false 5 205 L) : Calls Tryz.prog 17 #[.slice (some ⟨b, o, none⟩) z.length c] w (RoneOut w (Agrees z)) := by
  have hll : (z.drop 4).length ≤ 1048576 := by rw [List.length_drop]; omega
  refine (readOne_fb 7 (fun q => q = pFb 7 (rd32 (z.drop 4) 0) (rd32 ((z.drop 4).drop 4) 0) ∧ (z.drop 4).length = 8) B b o c z w hr hB hc hl 5 205 L hd hzl rfl (by decide) fun g B b o c w' hb hr hBg h8 hcc => fb_7 g B b o c (z.drop 4) _ _ _ _ w' _ _ hb hr hBg (hd.byts.drop 4) h8 hcc hll).mono fun e w2 h => h.mono fun q ⟨hq, hy⟩ => ?_
  rw [hq]
  rw [List.length_drop] at hy
  exact agr_7 _ _ z hd (by omega) rfl (by rw [List.drop_drop])
theorem ro_9 (hd : Hd z false 1 206 L) : Calls Tryz.prog 17 #[.slice (some ⟨b, o, none⟩) z.length c] w (RoneOut w (Agrees z)) := by
  have hll : (z.drop 4).length ≤ 1048576 := by rw [List.length_drop]; omega
  refine (readOne_fb 9 (fun q => q = pFb 9 (rd32 (z.drop 4) 0) (rd32 ((z.drop 4).drop 4) 0) ∧ (z.drop 4).length = 8) B b o c z w hr hB hc hl 1 206 L hd hzl rfl (by decide) fun g B b o c w' hb hr hBg h8 hcc => fb_9 g B b o c (z.drop 4) _ _ _ _ w' _ _ hb hr hBg (hd.byts.drop 4) h8 hcc hll).mono fun e w2 h => h.mono fun q ⟨hq, hy⟩ => ?_
  rw [hq]
  rw [List.length_drop] at hy
  exact agr_9 _ _ z hd (by omega) rfl (by rw [List.drop_drop])
theorem ro_6 (hd : Hd z false 1 205 L) : Calls Tryz.prog 17 #[.slice (some ⟨b, o, none⟩) z.length c] w (RoneOut w (Agrees z)) := by
  have hll : (z.drop 4).length ≤ 1048576 := by rw [List.length_drop]; omega
  refine (readOne_fb 6 (fun q => (∃ A c, q = { pFb 6 (rd32 (z.drop 4) 0) (rd32 ((z.drop 4).drop 4) 0) with pairs := ⟨A, c, parts4 pairB 4 (((z.drop 4).length - 8) / 4) ((z.drop 4).drop 8)⟩ }) ∧ 0 < ((z.drop 4).length - 8) / 4) B b o c z w hr hB hc hl 1 205 L hd hzl rfl (by decide) fun g B b o c w' hb hr hBg h8 hcc => (fb_6 g B b o c (z.drop 4) _ _ _ _ w' _ _ hb hr hBg (hd.byts.drop 4) h8 hcc hll)).mono fun e w2 h => h.mono fun q ⟨⟨A, c1, hq⟩, h0⟩ => ?_
  have hy : (z.drop 4).length = z.length - 4 := List.length_drop
  have e : rd32 ((z.drop 4).drop 4) 0 = rd32 (z.drop 8) 0 := by rw [List.drop_drop]
  rw [hq, e]
  exact agr_6 z hd hzl hl A c1 (by omega) h0
theorem ro_10 (hd : Hd z false 2 206 L) : Calls Tryz.prog 17 #[.slice (some ⟨b, o, none⟩) z.length c] w (RoneOut w (Agrees z)) := by
  have hll : (z.drop 4).length ≤ 1048576 := by rw [List.length_drop]; omega
  refine (readOne_fb 10 (fun q => (∃ A c, q = { pFb 10 (rd32 (z.drop 4) 0) (rd32 ((z.drop 4).drop 4) 0) with slices := ⟨A, c, parts4 slcB 4 (((z.drop 4).length - 8) / 4) ((z.drop 4).drop 8)⟩ }) ∧ 0 < ((z.drop 4).length - 8) / 4) B b o c z w hr hB hc hl 2 206 L hd hzl rfl (by decide) fun g B b o c w' hb hr hBg h8 hcc => (fb_10 g B b o c (z.drop 4) _ _ _ _ w' _ _ hb hr hBg (hd.byts.drop 4) h8 hcc hll)).mono fun e w2 h => h.mono fun q ⟨⟨A, c1, hq⟩, h0⟩ => ?_
  have hy : (z.drop 4).length = z.length - 4 := List.length_drop
  have e : rd32 ((z.drop 4).drop 4) 0 = rd32 (z.drop 8) 0 := by rw [List.drop_drop]
  rw [hq, e]
  exact agr_10 z hd hzl hl A c1 (by omega) h0
theorem ro_11 (hd : Hd z false 4 206 L) : Calls Tryz.prog 17 #[.slice (some ⟨b, o, none⟩) z.length c] w (RoneOut w (Agrees z)) := by
  have hll : (z.drop 4).length ≤ 1048576 := by rw [List.length_drop]; omega
  refine (readOne_fb 11 (fun q => (∃ A c, q = { pFb 11 (rd32 (z.drop 4) 0) (rd32 ((z.drop 4).drop 4) 0) with entries := ⟨A, c, parts4 entB 8 (((z.drop 4).length - 8) / 8) ((z.drop 4).drop 8)⟩ }) ∧ 0 < ((z.drop 4).length - 8) / 8 ∧ ((z.drop 4).length - 8) % 8 = 0) B b o c z w hr hB hc hl 4 206 L hd hzl rfl (by decide) fun g B b o c w' hb hr hBg h8 hcc => (fb_11 g B b o c (z.drop 4) _ _ _ _ w' _ _ hb hr hBg (hd.byts.drop 4) h8 hcc hll)).mono fun e w2 h => h.mono fun q ⟨⟨A, c1, hq⟩, h0, h8⟩ => ?_
  have hy : (z.drop 4).length = z.length - 4 := List.length_drop
  have e : rd32 ((z.drop 4).drop 4) 0 = rd32 (z.drop 8) 0 := by rw [List.drop_drop]
  rw [hq, e]
  exact agr_11 z hd hzl hl A c1 (by omega) h0 h8
theorem ro_12 (hd : Hd z false 15 206 L) : Calls Tryz.prog 17 #[.slice (some ⟨b, o, none⟩) z.length c] w (RoneOut w (Agrees z)) := by
  have hll : (z.drop 4).length ≤ 1048576 := by rw [List.length_drop]; omega
  refine (readOne_fb 12 (BrR (rd32 (z.drop 4) 0) (rd32 ((z.drop 4).drop 4) 0) ((z.drop 4).drop 8)) B b o c z w hr hB hc hl 15 206 L hd hzl rfl (by decide) fun g B b o c w' hb hr hBg h8 hcc => (fb_12 g B b o c (z.drop 4) _ _ _ _ w' _ _ hb hr hBg (hd.byts.drop 4) h8 hcc hll)).mono fun e w2 h => h.mono fun q ⟨n, v, A, c1, hq, h1, h2, h3, h4, h5, h6⟩ => ?_
  rw [hq]
  exact agr_12 z hd hzl hl A c1 n v h1 h2 h3 h4 h5 h6
end
end Go.Proofs.YtmmfpgoodfgkbaaGreat
/-
  PLAIN LAWS: the reference's reading of one packet hands back what the package reads, the rest of the kinds.
-/
namespace Go.Proofs.YtmmfpgoodfgkbaaGreat
open Go Go.RowKit
set_option linter.unusedVariables false
set_option linter.unusedSimpArgs false

theorem agr_13b (z : List Int) {L : Nat} {m : Int} (hd : Hd z false 15 205 L) (hzl : z.length = 4 * (L + 1)) (hl : z.length ≤ 131072) (q : Pkt) (hm : m = rd32 ((z.drop 4).drop 4) 0) (h : TrR (rd32 (z.drop 4) 0) m false 15 205 L ((z.drop 4).drop 8) q) : Agrees z q := by
  obtain ⟨n, A, c, l, A2, c2, hq, h1, h2, h3⟩ := h
  have e3 : (z.drop 4).drop 4 = z.drop 8 := List.drop_drop
  have e12 : (z.drop 4).drop 8 = z.drop 12 := List.drop_drop
  have e14 : (z.drop 12).drop 2 = z.drop 14 := List.drop_drop
  have e16 : (z.drop 12).drop 4 = z.drop 16 := List.drop_drop
  have e20 : (z.drop 12).drop 8 = z.drop 20 := List.drop_drop
  have e7 : gi (z.drop 12) 7 = gi z 19 := gi_drop z 12 7
  rw [e12, e14, e16, e20, e7, hm, e3] at hq
  rw [e12, e20] at h1
  rw [e12, e14, e20] at h2
  have h20 : 20 ≤ z.length := by rw [e12, List.length_drop] at h3; omega
  rw [hq]
  exact agr_13 z hd hzl hl h20 A A2 c c2 l h1 h2
section
variable (B b o c : Nat) (z : List Int) (w : World) (hr : Reads w B 1 (some ⟨b, o, none⟩) z.length (u8s z)) (hB : B ≤ w.heap.size) (hc : z.length ≤ c) (hl : z.length ≤ 131072) (L : Nat) (hzl : z.length = 4 * (L + 1))
include hr hB hc hl hzl
theorem ro_8 (hd : Hd z false 11 205 L) : Calls Tryz.prog 17 #[.slice (some ⟨b, o, none⟩) z.length c] w (RoneOut w (Agrees z)) := by
  have hll : (z.drop 4).length ≤ 1048576 := by rw [List.length_drop]; omega
  have hk : kindOf ((11 : Nat) : Int) 205 = 8 := by decide
  have h := readOne_fb 8 (CgR (rd32 (z.drop 4) 0) ((z.drop 4).drop 4)) B b o c z w hr hB hc hl 11 205 L hd hzl hk (by decide) (fun g B b o c w' hb hr hBg h8 hcc => fb_8 g B b o c (z.drop 4) (.bool false) (.int .u8 ((11 : Nat) : Int)) (.int .u8 205) (.int .u16 (L : Nat)) w' (rd32 (z.drop 4) 0) (rd32 ((z.drop 4).drop 4) 0) hb hr hBg (hd.byts.drop 4) h8 hcc hll)
  refine h.mono fun e w2 h => h.mono fun q hq => ?_
  obtain ⟨n, A, c1, l, hq, h1, h2⟩ := hq
  have e8 : (z.drop 4).drop 4 = z.drop 8 := List.drop_drop
  rw [e8] at hq h1 h2
  rw [hq]
  exact agr_8 z hd hzl hl A c1 l h1 h2
theorem ro_13 (hd : Hd z false 15 205 L) : Calls Tryz.prog 17 #[.slice (some ⟨b, o, none⟩) z.length c] w (RoneOut w (Agrees z)) := by
  have hll : (z.drop 4).length ≤ 1048576 := by rw [List.length_drop]; omega
  have hk : kindOf ((15 : Nat) : Int) 205 = 13 := by decide
  have h := readOne_fb 13 (TrR (rd32 (z.drop 4) 0) (rd32 ((z.drop 4).drop 4) 0) false 15 205 L ((z.drop 4).drop 8)) B b o c z w hr hB hc hl 15 205 L hd hzl hk (by decide) (fun g B b o c w' hb hr hBg h8 hcc => fb_13 g B b o c (z.drop 4) false 15 205 L w' (rd32 (z.drop 4) 0) (rd32 ((z.drop 4).drop 4) 0) hb hr hBg (hd.byts.drop 4) h8 hcc hll)
  exact h.mono fun e w2 h => h.mono fun q hq => agr_13b z hd hzl hl q rfl hq
theorem ro_3 {n : Nat} (hd : Hd z false n 202 L) : Calls Tryz.prog 17 #[.slice (some ⟨b, o, none⟩) z.length c] w (RoneOut w (Agrees z)) := by
  have hll : (z.drop 4).length ≤ 1048576 := by rw [List.length_drop]; omega
  have hk : kindOf (n : Int) 202 = 3 := by simp [kindOf]
  have h := readOne_3 (SdR n (z.drop 4)) B b o c z w hr hB hc hl n 202 L hd hzl hk (fun g B b o c w' hb hr hBg hcc => readChunks_any g n B b o c (z.drop 4) w' hb hr hBg (hd.byts.drop 4) hcc hll hd.cnt31)
  refine h.mono fun e w2 h => h.mono fun q hq => ?_
  obtain ⟨A, c1, l, hq, h1, h2⟩ := hq
  rw [hq]
  exact agr_3 z hd hzl hl A c1 l h1 h2
theorem ro_4 {n : Nat} (hd : Hd z false n 203 L) : Calls Tryz.prog 17 #[.slice (some ⟨b, o, none⟩) z.length c] w (RoneOut w (Agrees z)) := by
  have hll : (z.drop 4).length ≤ 1048576 := by rw [List.length_drop]; omega
  have hk : kindOf (n : Int) 203 = 4 := by simp [kindOf]
  have h := readOne_4 (ByeR n (z.drop 4)) B b o c z w hr hB hc hl n 203 L hd hzl hk (fun g B b o c w' hb hr hBg hcc => readBye_any g n B b o c (z.drop 4) w' hb hr hBg (hd.byts.drop 4) hcc hll hd.cnt31)
  refine h.mono fun e w2 h => h.mono fun q hq => ?_
  obtain ⟨A, c1, t, hq, h1, h2⟩ := hq
  rw [hq]
  refine agr_4 z hd hzl hl A c1 t h1 h2 ?_
  rcases h2 with ⟨_, h2⟩ | ⟨r, _, h3, h2⟩
  · rw [h2]; decide
  · rw [h2, strB_size]; simp only [List.length_drop, List.length_take] at h3 ⊢; omega
theorem ro_5 {n : Nat} (hd : Hd z false n 204 L) : Calls Tryz.prog 17 #[.slice (some ⟨b, o, none⟩) z.length c] w (RoneOut w (Agrees z)) := by
  have hk : kindOf (n : Int) 204 = 5 := by simp [kindOf]
  refine (readOne_5 B b o c z w hr hB hc hl n 204 L hd hzl hk).mono fun e w2 h => h.mono fun q hq => ?_
  obtain ⟨h8, A, c1, hq⟩ := hq
  rw [hq]
  exact agr_5 z hd hzl hl A c1 h8
theorem ro_1 {n : Nat} (hd : Hd z false n 200 L) : Calls Tryz.prog 17 #[.slice (some ⟨b, o, none⟩) z.length c] w (RoneOut w (Agrees z)) := by
  have hk : kindOf (n : Int) 200 = 1 := by simp [kindOf]
  refine (readOne_1 B b o c z w hr hB hc hl n 200 L hd hzl hk).mono fun e w2 h => h.mono fun q hq => ?_
  obtain ⟨h8, A, c1, A2, c2, hq⟩ := hq
  rw [hq]
  exact agr_1 z hd hzl hl A c1 A2 c2 h8
theorem ro_2 {n : Nat} (hd : Hd z false n 201 L) : Calls Tryz.prog 17 #[.slice (some ⟨b, o, none⟩) z.length c] w (RoneOut w (Agrees z)) := by
  have hk : kindOf (n : Int) 201 = 2 := by simp [kindOf]
  refine (readOne_2 B b o c z w hr hB hc hl n 201 L hd hzl hk).mono fun e w2 h => h.mono fun q hq => ?_
  obtain ⟨h8, A, c1, A2, c2, hq⟩ := hq
  rw [hq]
  exact agr_2 z hd hzl hl A c1 A2 c2 h8
theorem ro_0 {pad : Bool} {n : Nat} {t : Int} (hd : Hd z pad n t L) (hk : kindOf (n : Int) t = 0) : Calls Tryz.prog 17 #[.slice (some ⟨b, o, none⟩) z.length c] w (RoneOut w (Agrees z)) := by
  refine (readOne_0 B b o c z w hr hB hc hl pad n t L hd hzl hk).mono fun e w2 h => h.mono fun q hq => ?_
  obtain ⟨_, A, c1, hq⟩ := hq
  rw [hq]
  exact agr_0 z hd hl A c1
end
theorem ro_k (B b o c : Nat) (z : List Int) (w : World) (hr : Reads w B 1 (some ⟨b, o, none⟩) z.length (u8s z)) (hB : B ≤ w.heap.size) (hc : z.length ≤ c) (hl : z.length ≤ 131072) (n : Nat) (t : Int) (L : Nat) (hzl : z.length = 4 * (L + 1)) (pad : Bool) (hd : Hd z pad n t L) :
    Calls Tryz.prog 17 #[.slice (some ⟨b, o, none⟩) z.length c] w (RoneOut w (Agrees z)) := by
  by_cases h0 : kindOf (n : Int) t = 0
  · exact ro_0 B b o c z w hr hB hc hl L hzl hd h0
  cases pad with
  | true => exact readOne_pad _ _ B b o c z w hr hB hc hl n t L hd hzl rfl h0
  | false =>
    by_cases h1 : t = 200
    · subst h1; exact ro_1 B b o c z w hr hB hc hl L hzl hd
    by_cases h2 : t = 201
    · subst h2; exact ro_2 B b o c z w hr hB hc hl L hzl hd
    by_cases h3 : t = 202
    · subst h3; exact ro_3 B b o c z w hr hB hc hl L hzl hd
    by_cases h4 : t = 203
    · subst h4; exact ro_4 B b o c z w hr hB hc hl L hzl hd
    by_cases h5 : t = 204
    · subst h5; exact ro_5 B b o c z w hr hB hc hl L hzl hd
    by_cases h6 : t = 205
    · subst h6
      by_cases c1 : n = 1
      · subst c1; exact ro_6 B b o c z w hr hB hc hl L hzl hd
      by_cases c5 : n = 5
      · subst c5; exact ro_7 B b o c z w hr hB hc hl L hzl hd
      by_cases c11 : n = 11
      · subst c11; exact ro_8 B b o c z w hr hB hc hl L hzl hd
      by_cases c15 : n = 15
      · subst c15; exact ro_13 B b o c z w hr hB hc hl L hzl hd
      · refine absurd ?_ h0
        unfold kindOf
        rw [if_neg (by decide), if_neg (by decide), if_neg (by decide), if_neg (by decide), if_neg (by decide), if_pos rfl, if_neg (by omega), if_neg (by omega), if_neg (by omega), if_neg (by omega)]
    by_cases h7 : t = 206
    · subst h7
      by_cases c1 : n = 1
      · subst c1; exact ro_9 B b o c z w hr hB hc hl L hzl hd
      by_cases c2 : n = 2
      · subst c2; exact ro_10 B b o c z w hr hB hc hl L hzl hd
      by_cases c4 : n = 4
      · subst c4; exact ro_11 B b o c z w hr hB hc hl L hzl hd
      by_cases c15 : n = 15
      · subst c15; exact ro_12 B b o c z w hr hB hc hl L hzl hd
      · refine absurd ?_ h0
        unfold kindOf
        rw [if_neg (by decide), if_neg (by decide), if_neg (by decide), if_neg (by decide), if_neg (by decide), if_neg (by decide), if_pos rfl, if_neg (by omega), if_neg (by omega), if_neg (by omega), if_neg (by omega)]
    · refine absurd ?_ h0
      unfold kindOf
      rw [if_neg h1, if_neg h2, if_neg h3, if_neg h4, if_neg h5, if_neg h6, if_neg h7]
theorem ro_any (b o c : Nat) (z : List Int) (w : World) (hz : Byts z) (hc : z.length ≤ c) (hl : z.length ≤ 131072) (hr : Reads w w.heap.size 1 (some ⟨b, o, none⟩) z.length (u8s z)) :
    Calls Tryz.prog 17 #[.slice (some ⟨b, o, none⟩) z.length c] w (RoneOut w fun q => 4 ≤ z.length ∧ Agrees z q) := by
  by_cases h4 : 4 ≤ z.length
  · by_cases hv : gi z 0 / 64 = 2
    · obtain ⟨pad, n, t, L, hd⟩ := hd_any hz h4 hv
      by_cases hzl : z.length = 4 * (L + 1)
      · exact (ro_k w.heap.size b o c z w hr (Nat.le_refl _) hc hl n t L hzl pad hd).mono fun e w2 h => h.mono fun q hq => ⟨h4, hq⟩
      · exact readOne_len _ w.heap.size b o c z w hr (Nat.le_refl _) hc hl pad n t L hd hzl
    · exact readOne_hdr _ _ c z w fun w' hb => (readHeader_bad (hr.below hb) hb.size (hz.gi 0) (hz.gi 1) (hz.gi 2) (hz.gi 3) h4 hc hv)
  · exact readOne_hdr _ _ c z w fun w' hb => readHeader_short _ z.length c w' (by omega)
end Go.Proofs.YtmmfpgoodfgkbaaGreat
