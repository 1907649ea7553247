/-
  PLAIN LAWS JOINED: what the reference finds in the bytes gives what the law on the sources asks, kind by kind.
-/
import Derived.Test.YtmmfpgoodfgkbaaGreatDoorLawD
import Derived.Test.YtmmfpgoodfgkbaaGreatDoorUmR
import Derived.Test.YtmmfpgoodfgkbaaGreatDoorBdk
import Derived.Test.YtmmfpgoodfgkbaaGreatDoorRfb2
import Derived.Test.YtmmfpgoodfgkbaaGreatDoorRch
namespace Go.Proofs.YtmmfpgoodfgkbaaGreatDoor
open Go Go.RowKit
set_option linter.unusedVariables false
set_option linter.unusedSimpArgs false

theorem dest_of {z : List Int} {n L : Nat} {t : Int} {ds : List Int} {C : Pkt} (hd : Hd z false n t L) (hzl : z.length = 4 * (L + 1)) (hl : z.length ≤ 131072) (hn : ds.length ≤ 1048576) (hf : FacOk z n t (fun r => r.clean = C)) (hp : ParOk z n t L ds)
  (hD : ∀ q : Pkt, q.clean = C → ∀ w, q.Lies w w.heap.size → Calls Tryz.prog 22 #[.agg q.cells] w (BuiltD w ds)) : DestOk z :=
 ⟨ds, fun r => r.clean = C, hn, by omega, fun b c w hr hb hc => fac_any b c z w hd hr hb hc hzl _ hf, fun b c w hr hb hc => prs_any b 0 c z (· = b) w hd hr (fun x hx => hx ▸ hb) hc hzl (by omega) ds hp, hD⟩
theorem map_cln {l l2 : List Chunk} (h : l.map Chunk.cln = l2) : l.map Chunk.src = l2.map Chunk.src := by rw [← h, List.map_map]; rfl
theorem map_clnB {l l2 : List Blo} (h : l.map Blo.cln = l2) : l.map Blo.media = l2.map Blo.media := by rw [← h, List.map_map]; rfl
theorem dest_1 (z : List Int) {n L : Nat} (hd : Hd z false n 200 L) (hzl : z.length = 4 * (L + 1)) (hl : z.length ≤ 131072) (h24 : 24 + 24 * n ≤ (z.drop 4).length) : DestOk z := by
 have hld : (z.drop 4).length = z.length - 4 := List.length_drop
 refine dest_of (ds := (parts4 repB 24 n ((z.drop 4).drop 24)).map Rep.ssrc ++ [rd32 (z.drop 4) 0]) hd hzl hl (by have h1 := hd.cnt31; simp only [List.length_append, List.length_map, parts4_len, List.length_cons, List.length_nil]; omega) { known := by simp [kindOf], k1 := fun _ => umr_1 z hd hzl hl h24 } { known := by simp [kindOf], kM := fun h => absurd h (by rintro (⟨h, _⟩ | ⟨h, _⟩) <;> exact absurd h (by decide)), k1 := fun _ => ⟨by omega, rfl⟩ } fun q hq w hL => ?_
 have e1 : q.reports.l = (parts4 repB 24 n ((z.drop 4).drop 24)) := congrArg (fun r : Pkt => r.reports.l) hq
 have e2 : q.sender = rd32 (z.drop 4) 0 := congrArg (fun r : Pkt => r.sender) hq
 have e3 : q.ext.l = ((z.drop 4).drop 24).drop (24 * n) := congrArg (fun r : Pkt => r.ext.l) hq
 have h31 := hd.cnt31
 have hrl : q.reports.l.length = n := by rw [e1, parts4_len]
 have hxl : q.ext.l.length ≤ 131072 := by rw [e3]; simp only [List.length_drop]; omega
 rw [← e1, ← e2]
 exact bd_1 q w (show q.kind = 1 from congrArg Pkt.kind hq) hL (by omega) (by omega)
theorem dest_2 (z : List Int) {n L : Nat} (hd : Hd z false n 201 L) (hzl : z.length = 4 * (L + 1)) (hl : z.length ≤ 131072) (h24 : 4 + 24 * n ≤ (z.drop 4).length) : DestOk z := by
 have hld : (z.drop 4).length = z.length - 4 := List.length_drop
 refine dest_of (ds := (parts4 repB 24 n ((z.drop 4).drop 4)).map Rep.ssrc) hd hzl hl (by have h1 := hd.cnt31; simp only [List.length_map, parts4_len]; omega) { known := by simp [kindOf], k2 := fun _ => umr_2 z hd hzl hl h24 } { known := by simp [kindOf], kM := fun h => absurd h (by rintro (⟨h, _⟩ | ⟨h, _⟩) <;> exact absurd h (by decide)), k2 := fun _ => ⟨by omega, by rw [List.drop_drop]⟩ } fun q hq w hL => ?_
 have e1 : q.reports.l = (parts4 repB 24 n ((z.drop 4).drop 4)) := congrArg (fun r : Pkt => r.reports.l) hq
 have e3 : q.ext.l = ((z.drop 4).drop 4).drop (24 * n) := congrArg (fun r : Pkt => r.ext.l) hq
 have h31 := hd.cnt31
 have hrl : q.reports.l.length = n := by rw [e1, parts4_len]
 have hxl : q.ext.l.length ≤ 131072 := by rw [e3]; simp only [List.length_drop]; omega
 rw [← e1]
 exact bd_2 q w (show q.kind = 2 from congrArg Pkt.kind hq) hL (by omega) (by omega)
theorem dest_3 (z : List Int) {n L : Nat} (hd : Hd z false n 202 L) (hzl : z.length = 4 * (L + 1)) (hl : z.length ≤ 131072) (hsd : SdOk (z.drop 4) n) : DestOk z := by
 have hld : (z.drop 4).length = z.length - 4 := List.length_drop
 refine dest_of (ds := (chsN (z.drop 4) n).map Chunk.src) hd hzl hl (by have h1 := hd.cnt31; rw [List.length_map, show (chsN (z.drop 4) n).length = n by simp [chsN]]; omega) { known := by simp [kindOf], k3 := fun _ => umr_3 z hd hzl hl hsd } { known := by simp [kindOf], kM := fun h => absurd h (by rintro (⟨h, _⟩ | ⟨h, _⟩) <;> exact absurd h (by decide)), k3 := fun _ => ⟨hsd, rfl⟩ } fun q hq w hL => ?_
 have e1 : q.chunks.l.map Chunk.cln = chsN (z.drop 4) n := congrArg (fun r : Pkt => r.chunks.l) hq
 have h31 := hd.cnt31
 have hcl : (chsN (z.drop 4) n).length = n := by simp [chsN]
 have hql : q.chunks.l.length = n := by rw [← hcl, ← e1, List.length_map]
 have hs := chs_sml (hd.byts.drop 4) (n := n)
 rw [← map_cln e1]
 exact bd_3 q w (show q.kind = 3 from congrArg Pkt.kind hq) hL (by omega) fun x hx => by
  have h1 := (hs x.cln (by rw [← e1]; exact List.mem_map_of_mem hx)).1
  have h2 : x.cln.items.l.length = x.items.l.length := rfl
  omega
theorem dest_4 (z : List Int) {n L : Nat} (hd : Hd z false n 203 L) (hzl : z.length = 4 * (L + 1)) (hl : z.length ≤ 131072) (t : ByteArray) (h4n : 4 * n ≤ (z.drop 4).length) (hT : ByeT ((z.drop 4).drop (4 * n)) t) (ht : t.size ≤ 131072) : DestOk z := by
 have hld : (z.drop 4).length = z.length - 4 := List.length_drop
 refine dest_of (ds := parts4 srcB 4 n (z.drop 4)) hd hzl hl (by have h1 := hd.cnt31; rw [parts4_len]; omega) { known := by simp [kindOf], k4 := fun _ => umr_4 z hd hzl hl t h4n hT ht } { known := by simp [kindOf], kM := fun h => absurd h (by rintro (⟨h, _⟩ | ⟨h, _⟩) <;> exact absurd h (by decide)), k4 := fun _ => ⟨by omega, rfl⟩ } fun q hq w hL => ?_
 have e1 : q.sources.l = parts4 srcB 4 n (z.drop 4) := congrArg (fun r : Pkt => r.sources.l) hq
 have h31 := hd.cnt31
 have hsl : q.sources.l.length = n := by rw [e1, parts4_len]
 rw [← e1]
 exact bd_4 q w (show q.kind = 4 from congrArg Pkt.kind hq) hL (by omega)
theorem dest_5 (z : List Int) {n L : Nat} (hd : Hd z false n 204 L) (hzl : z.length = 4 * (L + 1)) (hl : z.length ≤ 131072) (h8 : 8 ≤ (z.drop 4).length) : DestOk z := by
 have hld : (z.drop 4).length = z.length - 4 := List.length_drop
 refine dest_of (ds := [rd32 (z.drop 4) 0]) hd hzl hl (by simp) { known := by simp [kindOf], k5 := fun _ => umr_5 z hd hzl hl h8 } { known := by simp [kindOf], kM := fun h => absurd h (by rintro (⟨h, _⟩ | ⟨h, _⟩) <;> exact absurd h (by decide)), k5 := fun _ => ⟨by omega, by rw [rd32_cut z 4 8 (by omega)]⟩ } fun q hq w hL => ?_
 have e1 : q.sender = rd32 (z.drop 4) 0 := congrArg (fun r : Pkt => r.sender) hq
 have e2 : q.data.l = (z.drop 4).drop 8 := congrArg (fun r : Pkt => r.data.l) hq
 have hdl : q.data.l.length ≤ 131072 := by rw [e2]; simp only [List.length_drop]; omega
 rw [← e1]
 exact bd_5 q w (show q.kind = 5 from congrArg Pkt.kind hq) hL (by omega)
theorem dest_7 (z : List Int) {L : Nat} (hd : Hd z false 5 205 L) (hzl : z.length = 4 * (L + 1)) (hl : z.length ≤ 131072) (h12 : 12 ≤ z.length) : DestOk z := by
 have hld : (z.drop 4).length = z.length - 4 := List.length_drop
 refine dest_of (ds := [rd32 (z.drop 8) 0]) hd hzl hl (by simp) { known := by decide, k7 := fun _ _ => umr_7 z hd h12 } { known := by decide, kM := fun _ => ⟨h12, rfl⟩ } fun q hq w hL => ?_
 have e1 : q.media = rd32 (z.drop 8) 0 := congrArg (fun r : Pkt => r.media) hq
 rw [← e1]
 exact bd_7 q w (show q.kind = 7 from congrArg Pkt.kind hq) hL
theorem dest_9 (z : List Int) {L : Nat} (hd : Hd z false 1 206 L) (hzl : z.length = 4 * (L + 1)) (hl : z.length ≤ 131072) (h12 : 12 ≤ z.length) : DestOk z := by
 have hld : (z.drop 4).length = z.length - 4 := List.length_drop
 refine dest_of (ds := [rd32 (z.drop 8) 0]) hd hzl hl (by simp) { known := by decide, k9 := fun _ _ => umr_9 z hd h12 } { known := by decide, kM := fun _ => ⟨h12, rfl⟩ } fun q hq w hL => ?_
 have e1 : q.media = rd32 (z.drop 8) 0 := congrArg (fun r : Pkt => r.media) hq
 rw [← e1]
 exact bd_9 q w (show q.kind = 9 from congrArg Pkt.kind hq) hL
theorem dest_6 (z : List Int) {L : Nat} (hd : Hd z false 1 205 L) (hzl : z.length = 4 * (L + 1)) (hl : z.length ≤ 131072) (h12 : 12 ≤ z.length) (h0 : 0 < ((z.drop 4).length - 8) / 4) : DestOk z := by
 have hld : (z.drop 4).length = z.length - 4 := List.length_drop
 refine dest_of (ds := [rd32 (z.drop 8) 0]) hd hzl hl (by simp) { known := by decide, k6 := fun _ _ => umr_6 z hd hzl hl h12 h0 } { known := by decide, kM := fun _ => ⟨h12, rfl⟩ } fun q hq w hL => ?_
 have e1 : q.media = rd32 (z.drop 8) 0 := congrArg (fun r : Pkt => r.media) hq
 have e2 : q.pairs.l = parts4 pairB 4 ((4 * L - 8) / 4) ((z.drop 4).drop 8) := congrArg (fun r : Pkt => r.pairs.l) hq
 have hpl : q.pairs.l.length ≤ 131072 := by rw [e2, parts4_len]; omega
 rw [← e1]
 exact bd_6 q w (show q.kind = 6 from congrArg Pkt.kind hq) hL (by omega)
theorem dest_10 (z : List Int) {L : Nat} (hd : Hd z false 2 206 L) (hzl : z.length = 4 * (L + 1)) (hl : z.length ≤ 131072) (h12 : 12 ≤ z.length) (h0 : 0 < ((z.drop 4).length - 8) / 4) : DestOk z := by
 have hld : (z.drop 4).length = z.length - 4 := List.length_drop
 refine dest_of (ds := [rd32 (z.drop 8) 0]) hd hzl hl (by simp) { known := by decide, k10 := fun _ _ => umr_10 z hd hzl hl h12 h0 } { known := by decide, kM := fun _ => ⟨h12, rfl⟩ } fun q hq w hL => ?_
 have e1 : q.media = rd32 (z.drop 8) 0 := congrArg (fun r : Pkt => r.media) hq
 have e2 : q.slices.l = parts4 slcB 4 ((4 * L - 8) / 4) ((z.drop 4).drop 8) := congrArg (fun r : Pkt => r.slices.l) hq
 have hpl : q.slices.l.length ≤ 131072 := by rw [e2, parts4_len]; omega
 rw [← e1]
 exact bd_10 q w (show q.kind = 10 from congrArg Pkt.kind hq) hL (by omega)
theorem dest_8 (z : List Int) {n L : Nat} (hd : Hd z false 11 205 L) (hzl : z.length = 4 * (L + 1)) (hl : z.length ≤ 131072) (hcg : CgOk (z.drop 8) n) : DestOk z := by
 have hld : (z.drop 4).length = z.length - 4 := List.length_drop
 have hs := bks_sml hcg
 have hyl : (z.drop 8).length ≤ 131072 := by rw [List.length_drop]; omega
 have hcl : (bksN (z.drop 8) n).length = n := by simp [bksN]
 refine dest_of (ds := (bksN (z.drop 8) n).map Blo.media) hd hzl hl (by rw [List.length_map, hcl]; have := hs.1; omega) { known := by decide, k8 := fun _ _ => umr_8 z hd hzl hl hcg } { known := by decide, k8 := fun _ _ => ⟨n, hcg, rfl⟩ } fun q hq w hL => ?_
 have e1 : q.blocks.l.map Blo.cln = bksN (z.drop 8) n := congrArg (fun r : Pkt => r.blocks.l) hq
 have hql : q.blocks.l.length = n := by rw [← hcl, ← e1, List.length_map]
 rw [← map_clnB e1]
 exact bd_8 q w (show q.kind = 8 from congrArg Pkt.kind hq) hL (by have := hs.1; omega) fun x hx => by
  have h1 := hs.2 x.cln (by rw [← e1]; exact List.mem_map_of_mem hx)
  have h2 : x.cln.mets.l.length = x.mets.l.length := rfl
  omega
theorem dest_11 (z : List Int) {L : Nat} (hd : Hd z false 4 206 L) (hzl : z.length = 4 * (L + 1)) (hl : z.length ≤ 131072) (h12 : 12 ≤ z.length) (h0 : 0 < ((z.drop 4).length - 8) / 8) (hm8 : ((z.drop 4).length - 8) % 8 = 0) : DestOk z := by
 have hld : (z.drop 4).length = z.length - 4 := List.length_drop
 refine dest_of (ds := (parts4 entB 8 ((4 * L - 8) / 8) ((z.drop 4).drop 8)).map Ent.ssrc) hd hzl hl (by rw [List.length_map, parts4_len]; omega) { known := by decide, k11 := fun _ _ => umr_11 z hd hzl hl h12 h0 hm8 } { known := by decide, k11 := fun _ _ => ⟨(4 * L - 8) / 8, by omega, by omega, rfl⟩ } fun q hq w hL => ?_
 have e1 : q.entries.l = (parts4 entB 8 ((4 * L - 8) / 8) ((z.drop 4).drop 8)) := congrArg (fun r : Pkt => r.entries.l) hq
 have hel : q.entries.l.length ≤ 131072 := by rw [e1, parts4_len]; omega
 rw [← e1]
 exact bd_11 q w (show q.kind = 11 from congrArg Pkt.kind hq) hL (by omega)
theorem dest_12 (z : List Int) {L : Nat} (hd : Hd z false 15 206 L) (hzl : z.length = 4 * (L + 1)) (hl : z.length ≤ 131072) (n v : Nat) (hm0 : rd32 ((z.drop 4).drop 4) 0 = 0) (hrm : (strB (((z.drop 4).drop 8).take 4)).toList = (⟨#[82, 69, 77, 66]⟩ : ByteArray).toList) (hlen : ((z.drop 4).drop 8).length = 8 + 4 * n) (hn : gi ((z.drop 4).drop 8) 4 = (n : Int)) (hv : rd24 (((z.drop 4).drop 8).drop 5) 0 = (v : Int)) (hM : v % 262144 ≠ 0) : DestOk z := by
 have hld : (z.drop 4).length = z.length - 4 := List.length_drop
 have hnb : n ≤ 131072 := by simp only [List.length_drop] at hlen; omega
 refine dest_of (ds := (parts4 srcB 4 n (((z.drop 4).drop 8).drop 8))) hd hzl hl (by rw [parts4_len]; omega) { known := by decide, k12 := fun _ _ => umr_12 z hd hzl hl n v hm0 hrm hlen hn hv hM } { known := by decide, k12 := fun _ _ => ⟨n, hrm, hlen, hn, rfl⟩ } fun q hq w hL => ?_
 have e1 : q.sources.l = (parts4 srcB 4 n (((z.drop 4).drop 8).drop 8)) := congrArg (fun r : Pkt => r.sources.l) hq
 have hsl : q.sources.l.length = n := by rw [e1, parts4_len]
 rw [← e1]
 exact bd_12 q w (show q.kind = 12 from congrArg Pkt.kind hq) hL (by omega)
theorem dest_13 (z : List Int) {n L : Nat} (hd : Hd z false 15 205 L) (hzl : z.length = 4 * (L + 1)) (hl : z.length ≤ 131072) (h20 : 20 ≤ z.length) (hT : TOk (rd16 (z.drop 14) 0) (z.drop 20) n) : DestOk z := by
 have hld : (z.drop 4).length = z.length - 4 := List.length_drop
 have hby := hd.byts.drop 20
 have hyl : (z.drop 20).length ≤ 131072 := by rw [List.length_drop]; omega
 have hdl := tok_dl hT
 have hnl := (tok_len hT).1
 have hcl : (stasN (z.drop 20) n).length = n := by simp [stasN]
 have hr24 : rd24 ((z.take 19).drop 16) 0 = rd24 (z.drop 16) 0 := by
  unfold rd24
  rw [gi_cut _ _ _ _ (by omega), gi_cut _ _ _ _ (by omega), gi_cut _ _ _ _ (by omega)]
 have hdn : ∀ rs b m, (dltN rs b m).length = m := fun rs b m => by simp [dltN]
 have hst : ∀ x ∈ stasN (z.drop 20) n, x.list.l.length ≤ 8191 := fun x hx => by
  obtain ⟨k, _, rfl⟩ := List.mem_map.1 hx
  unfold staC
  split
  ·exact Nat.zero_le _
  ·exact symL_le (tw_lt hby k).1
 have hls : ∀ x ∈ stasN (z.drop 20) n, x.list.l.length ≤ 14 := fun x hx => by
  have hc : x.cln = x := by
   obtain ⟨k, _, rfl⟩ := List.mem_map.1 hx
   unfold staC
   split <;> rfl
  have := sta_shape hby (x := x) (by rw [hc]; exact hx)
  cases hv : x.vec with
  | true => exact (this.1 hv).2.2
  | false => rw [(this.2 hv).2]; exact Nat.zero_le _
 refine dest_of (ds := [rd32 (z.drop 8) 0]) hd hzl hl (by simp) { known := by decide, k13 := fun _ _ => umr_13 z hd hzl hl h20 hT } { known := by decide, kM := fun _ => ⟨by omega, rfl⟩ } fun q hq w hL => ?_
 have e1 : q.media = rd32 (z.drop 8) 0 := congrArg (fun r : Pkt => r.media) hq
 have e2 : q.stats.l.map Sta.cln = stasN (z.drop 20) n := congrArg (fun r : Pkt => r.stats.l) hq
 have e3 : q.deltas.l = dltN (rcvN (z.drop 20) n) ((z.drop 20).drop (2 * n)) (rcvN (z.drop 20) n).length := congrArg (fun r : Pkt => r.deltas.l) hq
 have hql : q.stats.l.length = n := by rw [← hcl, ← e2, List.length_map]
 have hqd : q.deltas.l.length = (rcvN (z.drop 20) n).length := by rw [e3, hdn]
 rw [← e1]
 exact bd_13 q w (show q.kind = 13 from congrArg Pkt.kind hq) hL (by omega) (fun x hx => by
  have h1 := hst x.cln (by rw [← e2]; exact List.mem_map_of_mem hx)
  have h2 : x.cln.list.l.length = x.list.l.length := rfl
  omega) (by omega)
end Go.Proofs.YtmmfpgoodfgkbaaGreatDoor
namespace Go.Proofs.YtmmfpgoodfgkbaaGreatDoor
open Go Go.RowKit
set_option linter.unusedVariables false
set_option linter.unusedSimpArgs false

theorem RoneOut.mono {w : World} {R R' : Pkt → Prop} {e : Ending} {w' : World} (h : RoneOut w R e w') (hR : ∀ q, R q → R' q) : RoneOut w R' e w' :=
 h.imp id fun ⟨q, h1, h2, h3⟩ => ⟨q, h1, hR q h2, h3⟩
theorem dest_13b (z : List Int) {L : Nat} {m : Int} (hd : Hd z false 15 205 L) (hzl : z.length = 4 * (L + 1)) (hl : z.length ≤ 131072) (q : Pkt) (hm : m = rd32 ((z.drop 4).drop 4) 0) (h : TrR (rd32 (z.drop 4) 0) m false 15 205 L ((z.drop 4).drop 8) q) : DestOk z := by
 obtain ⟨n, A, c, l, A2, c2, hq, h1, h2, h3⟩ := h
 have e3 : (z.drop 4).drop 4 = z.drop 8 := List.drop_drop
 have e12 : (z.drop 4).drop 8 = z.drop 12 := List.drop_drop
 have e14 : (z.drop 12).drop 2 = z.drop 14 := List.drop_drop
 have e16 : (z.drop 12).drop 4 = z.drop 16 := List.drop_drop
 have e20 : (z.drop 12).drop 8 = z.drop 20 := List.drop_drop
 have e7 : gi (z.drop 12) 7 = gi z 19 := gi_drop z 12 7
 rw [e12, e20] at h1
 rw [e12, e14, e20] at h2
 have h20 : 20 ≤ z.length := by rw [e12, List.length_drop] at h3; omega
 exact dest_13 z hd hzl hl h20 h2
section
variable (B b o c : Nat) (z : List Int) (w : World) (hr : Reads w B 1 (some ⟨b, o, none⟩) z.length (u8s z)) (hB : B ≤ w.heap.size) (hc : z.length ≤ c) (hl : z.length ≤ 131072) (L : Nat) (hzl : z.length = 4 * (L + 1))
include hr hB hc hl hzl
theorem rod_7 (hd : Hd z false 5 205 L) : Calls Tryz.prog 10 #[.slice (some ⟨b, o, none⟩) z.length c] w (RoneOut w fun q => q.kind = 0 ∨ DestOk z) := by
 have hll : (z.drop 4).length ≤ 1048576 := by rw [List.length_drop]; omega
 refine (readOne_fb 7 (fun q => q = pFb 7 (rd32 (z.drop 4) 0) (rd32 ((z.drop 4).drop 4) 0) ∧ (z.drop 4).length = 8) B b o c z w hr hB hc hl 5 205 L hd hzl rfl (by decide) fun g B b o c w' hb hr hBg h8 hcc => fb_7 g B b o c (z.drop 4) _ _ _ _ w' _ _ hb hr hBg (hd.byts.drop 4) h8 hcc hll).mono fun e w2 h => h.mono fun q ⟨hq, hy⟩ => ?_
 rw [List.length_drop] at hy
 exact .inr (dest_7 z hd hzl hl (by omega))
theorem rod_9 (hd : Hd z false 1 206 L) : Calls Tryz.prog 10 #[.slice (some ⟨b, o, none⟩) z.length c] w (RoneOut w fun q => q.kind = 0 ∨ DestOk z) := by
 have hll : (z.drop 4).length ≤ 1048576 := by rw [List.length_drop]; omega
 refine (readOne_fb 9 (fun q => q = pFb 9 (rd32 (z.drop 4) 0) (rd32 ((z.drop 4).drop 4) 0) ∧ (z.drop 4).length = 8) B b o c z w hr hB hc hl 1 206 L hd hzl rfl (by decide) fun g B b o c w' hb hr hBg h8 hcc => fb_9 g B b o c (z.drop 4) _ _ _ _ w' _ _ hb hr hBg (hd.byts.drop 4) h8 hcc hll).mono fun e w2 h => h.mono fun q ⟨hq, hy⟩ => ?_
 rw [List.length_drop] at hy
 exact .inr (dest_9 z hd hzl hl (by omega))
theorem rod_6 (hd : Hd z false 1 205 L) : Calls Tryz.prog 10 #[.slice (some ⟨b, o, none⟩) z.length c] w (RoneOut w fun q => q.kind = 0 ∨ DestOk z) := by
 have hll : (z.drop 4).length ≤ 1048576 := by rw [List.length_drop]; omega
 refine (readOne_fb 6 (fun q => (∃ A c, q = { pFb 6 (rd32 (z.drop 4) 0) (rd32 ((z.drop 4).drop 4) 0) with pairs := ⟨A, c, parts4 pairB 4 (((z.drop 4).length - 8) / 4) ((z.drop 4).drop 8)⟩ }) ∧ 0 < ((z.drop 4).length - 8) / 4) B b o c z w hr hB hc hl 1 205 L hd hzl rfl (by decide) fun g B b o c w' hb hr hBg h8 hcc => (fb_6 g B b o c (z.drop 4) _ _ _ _ w' _ _ hb hr hBg (hd.byts.drop 4) h8 hcc hll)).mono fun e w2 h => h.mono fun q ⟨⟨A, c1, hq⟩, h0⟩ => ?_
 have hy : (z.drop 4).length = z.length - 4 := List.length_drop
 exact .inr (dest_6 z hd hzl hl (by omega) h0)
theorem rod_10 (hd : Hd z false 2 206 L) : Calls Tryz.prog 10 #[.slice (some ⟨b, o, none⟩) z.length c] w (RoneOut w fun q => q.kind = 0 ∨ DestOk z) := by
 have hll : (z.drop 4).length ≤ 1048576 := by rw [List.length_drop]; omega
 refine (readOne_fb 10 (fun q => (∃ A c, q = { pFb 10 (rd32 (z.drop 4) 0) (rd32 ((z.drop 4).drop 4) 0) with slices := ⟨A, c, parts4 slcB 4 (((z.drop 4).length - 8) / 4) ((z.drop 4).drop 8)⟩ }) ∧ 0 < ((z.drop 4).length - 8) / 4) B b o c z w hr hB hc hl 2 206 L hd hzl rfl (by decide) fun g B b o c w' hb hr hBg h8 hcc => (fb_10 g B b o c (z.drop 4) _ _ _ _ w' _ _ hb hr hBg (hd.byts.drop 4) h8 hcc hll)).mono fun e w2 h => h.mono fun q ⟨⟨A, c1, hq⟩, h0⟩ => ?_
 have hy : (z.drop 4).length = z.length - 4 := List.length_drop
 exact .inr (dest_10 z hd hzl hl (by omega) h0)
theorem rod_11 (hd : Hd z false 4 206 L) : Calls Tryz.prog 10 #[.slice (some ⟨b, o, none⟩) z.length c] w (RoneOut w fun q => q.kind = 0 ∨ DestOk z) := by
 have hll : (z.drop 4).length ≤ 1048576 := by rw [List.length_drop]; omega
 refine (readOne_fb 11 (fun q => (∃ A c, q = { pFb 11 (rd32 (z.drop 4) 0) (rd32 ((z.drop 4).drop 4) 0) with entries := ⟨A, c, parts4 entB 8 (((z.drop 4).length - 8) / 8) ((z.drop 4).drop 8)⟩ }) ∧ 0 < ((z.drop 4).length - 8) / 8 ∧ ((z.drop 4).length - 8) % 8 = 0) B b o c z w hr hB hc hl 4 206 L hd hzl rfl (by decide) fun g B b o c w' hb hr hBg h8 hcc => (fb_11 g B b o c (z.drop 4) _ _ _ _ w' _ _ hb hr hBg (hd.byts.drop 4) h8 hcc hll)).mono fun e w2 h => h.mono fun q ⟨⟨A, c1, hq⟩, h0, h8⟩ => ?_
 have hy : (z.drop 4).length = z.length - 4 := List.length_drop
 exact .inr (dest_11 z hd hzl hl (by omega) h0 h8)
theorem rod_12 (hd : Hd z false 15 206 L) : Calls Tryz.prog 10 #[.slice (some ⟨b, o, none⟩) z.length c] w (RoneOut w fun q => q.kind = 0 ∨ DestOk z) := by
 have hll : (z.drop 4).length ≤ 1048576 := by rw [List.length_drop]; omega
 refine (readOne_fb 12 (BrR (rd32 (z.drop 4) 0) (rd32 ((z.drop 4).drop 4) 0) ((z.drop 4).drop 8)) B b o c z w hr hB hc hl 15 206 L hd hzl rfl (by decide) fun g B b o c w' hb hr hBg h8 hcc => (fb_12 g B b o c (z.drop 4) _ _ _ _ w' _ _ hb hr hBg (hd.byts.drop 4) h8 hcc hll)).mono fun e w2 h => h.mono fun q ⟨n, v, A, c1, hq, h1, h2, h3, h4, h5, h6⟩ => ?_
 exact .inr (dest_12 z hd hzl hl n v h1 h2 h3 h4 h5 h6)
theorem rod_8 (hd : Hd z false 11 205 L) : Calls Tryz.prog 10 #[.slice (some ⟨b, o, none⟩) z.length c] w (RoneOut w fun q => q.kind = 0 ∨ DestOk z) := by
 have hll : (z.drop 4).length ≤ 1048576 := by rw [List.length_drop]; omega
 have hk : kindOf ((11 : Nat) : Int) 205 = 8 := by decide
 have h := readOne_fb 8 (CgR (rd32 (z.drop 4) 0) ((z.drop 4).drop 4)) B b o c z w hr hB hc hl 11 205 L hd hzl hk (by decide) (fun g B b o c w' hb hr hBg h8 hcc => fb_8 g B b o c (z.drop 4) (.bool false) (.int .u8 ((11 : Nat) : Int)) (.int .u8 205) (.int .u16 (L : Nat)) w' (rd32 (z.drop 4) 0) (rd32 ((z.drop 4).drop 4) 0) hb hr hBg (hd.byts.drop 4) h8 hcc hll)
 refine h.mono fun e w2 h => h.mono fun q hq => ?_
 obtain ⟨n, A, c1, l, hq, h1, h2⟩ := hq
 have e8 : (z.drop 4).drop 4 = z.drop 8 := List.drop_drop
 rw [e8] at h2
 exact .inr (dest_8 z hd hzl hl h2)
theorem rod_13 (hd : Hd z false 15 205 L) : Calls Tryz.prog 10 #[.slice (some ⟨b, o, none⟩) z.length c] w (RoneOut w fun q => q.kind = 0 ∨ DestOk z) := by
 have hll : (z.drop 4).length ≤ 1048576 := by rw [List.length_drop]; omega
 have hk : kindOf ((15 : Nat) : Int) 205 = 13 := by decide
 have h := readOne_fb 13 (TrR (rd32 (z.drop 4) 0) (rd32 ((z.drop 4).drop 4) 0) false 15 205 L ((z.drop 4).drop 8)) B b o c z w hr hB hc hl 15 205 L hd hzl hk (by decide) (fun g B b o c w' hb hr hBg h8 hcc => fb_13 g B b o c (z.drop 4) false 15 205 L w' (rd32 (z.drop 4) 0) (rd32 ((z.drop 4).drop 4) 0) hb hr hBg (hd.byts.drop 4) h8 hcc hll)
 exact h.mono fun e w2 h => h.mono fun q hq => .inr (dest_13b z hd hzl hl q rfl hq)
theorem rod_3 {n : Nat} (hd : Hd z false n 202 L) : Calls Tryz.prog 10 #[.slice (some ⟨b, o, none⟩) z.length c] w (RoneOut w fun q => q.kind = 0 ∨ DestOk z) := by
 have hll : (z.drop 4).length ≤ 1048576 := by rw [List.length_drop]; omega
 have hk : kindOf (n : Int) 202 = 3 := by simp [kindOf]
 have h := readOne_3 (SdR n (z.drop 4)) B b o c z w hr hB hc hl n 202 L hd hzl hk (fun g B b o c w' hb hr hBg hcc => readChunks_any g n B b o c (z.drop 4) w' hb hr hBg (hd.byts.drop 4) hcc hll hd.cnt31)
 refine h.mono fun e w2 h => h.mono fun q hq => ?_
 obtain ⟨A, c1, l, hq, h1, h2⟩ := hq
 exact .inr (dest_3 z hd hzl hl h2)
theorem rod_4 {n : Nat} (hd : Hd z false n 203 L) : Calls Tryz.prog 10 #[.slice (some ⟨b, o, none⟩) z.length c] w (RoneOut w fun q => q.kind = 0 ∨ DestOk z) := by
 have hll : (z.drop 4).length ≤ 1048576 := by rw [List.length_drop]; omega
 have hk : kindOf (n : Int) 203 = 4 := by simp [kindOf]
 have h := readOne_4 (ByeR n (z.drop 4)) B b o c z w hr hB hc hl n 203 L hd hzl hk (fun g B b o c w' hb hr hBg hcc => readBye_any g n B b o c (z.drop 4) w' hb hr hBg (hd.byts.drop 4) hcc hll hd.cnt31)
 refine h.mono fun e w2 h => h.mono fun q hq => ?_
 obtain ⟨A, c1, t, hq, h1, h2⟩ := hq
 refine .inr (dest_4 z hd hzl hl t h1 h2 ?_)
 rcases h2 with ⟨_, h2⟩ | ⟨r, _, h3, h2⟩
 ·rw [h2]; decide
 ·rw [h2, strB_size]; simp only [List.length_drop, List.length_take] at h3 ⊢; omega
theorem rod_5 {n : Nat} (hd : Hd z false n 204 L) : Calls Tryz.prog 10 #[.slice (some ⟨b, o, none⟩) z.length c] w (RoneOut w fun q => q.kind = 0 ∨ DestOk z) := by
 have hk : kindOf (n : Int) 204 = 5 := by simp [kindOf]
 refine (readOne_5 B b o c z w hr hB hc hl n 204 L hd hzl hk).mono fun e w2 h => h.mono fun q hq => ?_
 obtain ⟨h8, A, c1, hq⟩ := hq
 exact .inr (dest_5 z hd hzl hl h8)
theorem rod_1 {n : Nat} (hd : Hd z false n 200 L) : Calls Tryz.prog 10 #[.slice (some ⟨b, o, none⟩) z.length c] w (RoneOut w fun q => q.kind = 0 ∨ DestOk z) := by
 have hk : kindOf (n : Int) 200 = 1 := by simp [kindOf]
 refine (readOne_1 B b o c z w hr hB hc hl n 200 L hd hzl hk).mono fun e w2 h => h.mono fun q hq => ?_
 obtain ⟨h8, A, c1, A2, c2, hq⟩ := hq
 exact .inr (dest_1 z hd hzl hl h8)
theorem rod_2 {n : Nat} (hd : Hd z false n 201 L) : Calls Tryz.prog 10 #[.slice (some ⟨b, o, none⟩) z.length c] w (RoneOut w fun q => q.kind = 0 ∨ DestOk z) := by
 have hk : kindOf (n : Int) 201 = 2 := by simp [kindOf]
 refine (readOne_2 B b o c z w hr hB hc hl n 201 L hd hzl hk).mono fun e w2 h => h.mono fun q hq => ?_
 obtain ⟨h8, A, c1, A2, c2, hq⟩ := hq
 exact .inr (dest_2 z hd hzl hl h8)
theorem rod_0 {pad : Bool} {n : Nat} {t : Int} (hd : Hd z pad n t L) (hk : kindOf (n : Int) t = 0) : Calls Tryz.prog 10 #[.slice (some ⟨b, o, none⟩) z.length c] w (RoneOut w fun q => q.kind = 0 ∨ DestOk z) := by
 refine (readOne_0 B b o c z w hr hB hc hl pad n t L hd hzl hk).mono fun e w2 h => h.mono fun q hq => ?_
 obtain ⟨_, A, c1, hq⟩ := hq
 exact .inl (by rw [hq]; rfl)
end
theorem rod_k (B b o c : Nat) (z : List Int) (w : World) (hr : Reads w B 1 (some ⟨b, o, none⟩) z.length (u8s z)) (hB : B ≤ w.heap.size) (hc : z.length ≤ c) (hl : z.length ≤ 131072) (n : Nat) (t : Int) (L : Nat) (hzl : z.length = 4 * (L + 1)) (pad : Bool) (hd : Hd z pad n t L) :
  Calls Tryz.prog 10 #[.slice (some ⟨b, o, none⟩) z.length c] w (RoneOut w fun q => q.kind = 0 ∨ DestOk z) := by
 by_cases h0 : kindOf (n : Int) t = 0
 ·exact rod_0 B b o c z w hr hB hc hl L hzl hd h0
 cases pad with
 | true => exact readOne_pad _ _ B b o c z w hr hB hc hl n t L hd hzl rfl h0
 | false =>
  by_cases h1 : t = 200
  ·subst h1; exact rod_1 B b o c z w hr hB hc hl L hzl hd
  by_cases h2 : t = 201
  ·subst h2; exact rod_2 B b o c z w hr hB hc hl L hzl hd
  by_cases h3 : t = 202
  ·subst h3; exact rod_3 B b o c z w hr hB hc hl L hzl hd
  by_cases h4 : t = 203
  ·subst h4; exact rod_4 B b o c z w hr hB hc hl L hzl hd
  by_cases h5 : t = 204
  ·subst h5; exact rod_5 B b o c z w hr hB hc hl L hzl hd
  by_cases h6 : t = 205
  ·subst h6
   by_cases c1 : n = 1
   ·subst c1; exact rod_6 B b o c z w hr hB hc hl L hzl hd
   by_cases c5 : n = 5
   ·subst c5; exact rod_7 B b o c z w hr hB hc hl L hzl hd
   by_cases c11 : n = 11
   ·subst c11; exact rod_8 B b o c z w hr hB hc hl L hzl hd
   by_cases c15 : n = 15
   ·subst c15; exact rod_13 B b o c z w hr hB hc hl L hzl hd
   ·refine absurd ?_ h0
    unfold kindOf
    rw [if_neg (by decide), if_neg (by decide), if_neg (by decide), if_neg (by decide), if_neg (by decide), if_pos rfl, if_neg (by omega), if_neg (by omega), if_neg (by omega), if_neg (by omega)]
  by_cases h7 : t = 206
  ·subst h7
   by_cases c1 : n = 1
   ·subst c1; exact rod_9 B b o c z w hr hB hc hl L hzl hd
   by_cases c2 : n = 2
   ·subst c2; exact rod_10 B b o c z w hr hB hc hl L hzl hd
   by_cases c4 : n = 4
   ·subst c4; exact rod_11 B b o c z w hr hB hc hl L hzl hd
   by_cases c15 : n = 15
   ·subst c15; exact rod_12 B b o c z w hr hB hc hl L hzl hd
   ·refine absurd ?_ h0
    unfold kindOf
    rw [if_neg (by decide), if_neg (by decide), if_neg (by decide), if_neg (by decide), if_neg (by decide), if_neg (by decide), if_pos rfl, if_neg (by omega), if_neg (by omega), if_neg (by omega), if_neg (by omega)]
  ·refine absurd ?_ h0
   unfold kindOf
   rw [if_neg h1, if_neg h2, if_neg h3, if_neg h4, if_neg h5, if_neg h6, if_neg h7]
theorem rod_any (b o c : Nat) (z : List Int) (w : World) (hz : Byts z) (hc : z.length ≤ c) (hl : z.length ≤ 131072) (hr : Reads w w.heap.size 1 (some ⟨b, o, none⟩) z.length (u8s z)) :
  Calls Tryz.prog 10 #[.slice (some ⟨b, o, none⟩) z.length c] w (RoneOut w fun q => q.kind = 0 ∨ DestOk z) := by
 by_cases h4 : 4 ≤ z.length
 ·by_cases hv : gi z 0 / 64 = 2
  ·obtain ⟨pad, n, t, L, hd⟩ := hd_any hz h4 hv
   by_cases hzl : z.length = 4 * (L + 1)
   ·exact (rod_k w.heap.size b o c z w hr (Nat.le_refl _) hc hl n t L hzl pad hd)
   ·exact readOne_len _ w.heap.size b o c z w hr (Nat.le_refl _) hc hl pad n t L hd hzl
  ·exact readOne_hdr _ _ c z w fun w' hb => (readHeader_bad (hr.below hb) hb.size (hz.gi 0) (hz.gi 1) (hz.gi 2) (hz.gi 3) h4 hc hz hv)
 ·exact readOne_hdr _ _ c z w fun w' hb => readHeader_short _ z.length c w' (by omega)
end Go.Proofs.YtmmfpgoodfgkbaaGreatDoor
