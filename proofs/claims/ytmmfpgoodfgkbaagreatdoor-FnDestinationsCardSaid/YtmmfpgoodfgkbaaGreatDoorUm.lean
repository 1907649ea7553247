/-
  THE WALKS of the package's reading of packets. Condition: the bytes lie in memory, apart from the packet's block; the header says the kind.
-/
import Derived.Test.YtmmfpgoodfgkbaaGreatDoorRone
namespace Go.Proofs.YtmmfpgoodfgkbaaGreatDoor
open Go Go.RowKit
set_option maxHeartbeats 4000000
set_option maxRecDepth 100000
set_option linter.unusedVariables false
set_option linter.unusedSimpArgs false

theorem shr0 (k : IntKind) (x : Int) : Value.int k (x.fdiv 1) = .int k x := by rw [Int.fdiv_one]
theorem pad_bit : ∀ k : Fin 256, (bits .and .u8 ((k.val : Nat) : Int) 32 != 0) = decide (bits .and .u8 (((k.val : Nat) : Int) / 32) 1 > 0) := by decide +kernel
theorem Hd.padB {z : List Int} {pad : Bool} {n : Nat} {t : Int} {L : Nat} (h : Hd z pad n t L) : decide (bits .and .u8 (gi z 0 / 32) 1 > 0) = pad := by
 have h0 := h.byts.gi 0
 have := pad_bit ⟨(gi z 0).toNat, by omega⟩
 simp only at this
 rw [show (((gi z 0).toNat : Nat) : Int) = gi z 0 by omega, h.pad] at this
 exact this.symm
theorem hdrUm_any (g b o c : Nat) (z : List Int) (D : Nat → Prop) (w : World) {pad : Bool} {n : Nat} {t : Int} {L : Nat} (hd : Hd z pad n t L) (hb : Blk w g 83 #[.bool false, .int .u8 0, .int .u8 0, .int .u16 0]) (hr : RowD w D (some ⟨b, o, none⟩) z) (hD : ∀ x, D x → x < w.heap.size ∧ x ≠ g) (hc : z.length ≤ c) :
  Calls Tryz.prog 71 #[.pointer (some ⟨g, 0, none⟩), .slice (some ⟨b, o, none⟩) z.length c] w fun e w' => e = .returned .nilIface ∧ w.grownBy w' (some g) ∧ Blk w' g 83 #[.bool pad, .int .u8 (n : Nat), .int .u8 t, .int .u16 (L : Nat)] := by
 refine go_in Tryz.func71 rfl Tryz.ntmps71 [pt g 0, sv b o z.length c] fun a hE => ?_
 have hS := stp_blk1 101 hb
 have hS := stp_ry1 hS 110 hr (fun x hx => ⟨(hD x hx).1, (hD x hx).2⟩) hd.byts
 have h4 := hd.len
 have hg0 := hd.byts.gi 0
 refine rg hE hS [pu] (fun _ => kp [(4, .nilIface)]) kP0 fun _ a u hE hS => ?_
 refine wp_seq ?_
 refine rgp hE hS [pu, pu, pe (.bool false)] (fun _ => kp [(8, .bool false)]) kP0 (fun _ => ⟨kr (cbV (dfV (show ¬ (((z.length : Nat) : Int) < 4) by omega))), trivial⟩) fun _ a u hE hS => iff hE <| wp_skip ?_
 refine rgp hE hS [pu, ix, rb 110 0, pe (.int .u8 2), pu, pu] (fun _ => kp [(5, .int .u8 2)]) kP0 (fun _ => ⟨kr (show 0 < z.length by omega), kr (show 0 < (z).length by omega), kr (show Value.int .u8 ((gi z 0).fdiv 64) = .int .u8 2 from (shrv .u8 (gi z 0) 64 (by decide)).trans (by rw [hd.ver])), trivial⟩) fun _ a u hE hS => ?_
 refine wp_seq ?_
 refine rg hE hS [pu, pu] (fun _ => kp [(16, .bool false)]) kP0 fun _ a u hE hS => iff hE <| wp_skip ?_
 refine rgp hE hS [pu, pu, ix, rb 110 0, pe (.int .u8 (gi z 0 / 32)), pu, pe (.bool pad), pu, pu, st 101] kp0 (fun _ => kP [(101, some (.blk g 83 #[.bool pad, .int .u8 0, .int .u8 0, .int .u16 0]))]) (fun _ => ⟨kr (show 0 < z.length by omega), kr (show 0 < (z).length by omega), kr (shrv .u8 (gi z 0) 32 (by decide)), kr (congrArg Value.bool hd.padB), trivial⟩) fun _ a u hE hS => ?_
 refine rgp hE hS [pu, pu, ix, rb 110 0, pe (.int .u8 (gi z 0)), pe (.int .u8 (n : Nat)), pu, pu, st 101] kp0 (fun _ => kP [(101, some (.blk g 83 #[.bool pad, .int .u8 (n : Nat), .int .u8 0, .int .u16 0]))]) (fun _ => ⟨kr (show 0 < z.length by omega), kr (show 0 < (z).length by omega), kr (shr0 .u8 (gi z 0)), kr (congrArg (Value.int .u8) hd.cnt), trivial⟩) fun _ a u hE hS => ?_
 refine rgp hE hS [pu, pu, ix, rb 110 1, pu, pu, st 101] kp0 (fun _ => kP [(101, some (.blk g 83 #[.bool pad, .int .u8 (n : Nat), .int .u8 (gi z 1), .int .u16 0]))]) (fun _ => ⟨kr (show 1 < z.length by omega), kr (show 1 < (z).length by omega), trivial⟩) fun _ a u hE hS => ?_
 refine rgp hE hS [pu, pu, rsl 110 112, cl cB16 [112] [], pu, pu, st 101] kp0 (fun _ => kP [(101, some (.blk g 83 #[.bool pad, .int .u8 (n : Nat), .int .u8 (gi z 1), .int .u16 (rd16 (z.drop 2) 0)]))]) (fun _ => ⟨kr (show 2 ≤ z.length ∧ z.length ≤ z.length ∧ z.length ≤ c by omega), kr (show 2 ≤ (z.drop 2).length ∧ (z.drop 2).length ≤ (c - 2) ∧ 0 < (z.drop 2).length by simp only [List.length_drop]; omega), trivial⟩) fun _ a u hE hS => ?_
 refine rg hE hS [pu] kp0 kP0 fun _ a u hE hS => ?_
 refine wp_ret ?_
 have hbl := pcB (g := g) (T := 83) (cs := #[.bool pad, .int .u8 (n : Nat), .int .u8 (gi z 1), .int .u16 (rd16 (z.drop 2) 0)]) hS 101
 rw [rd16_drop, hd.ty, hd.ln] at hbl
 exact ret1 hE Tryz.results71 .nilIface ⟨rfl, hS.grownBy (some g) (fun _ e => by rw [e]), hbl⟩
theorem cu_hum {olds : Nat → Prop} {w0 : World} {z : List Int} {pad : Bool} {n : Nat} {t : Int} {L : Nat} (hd : Hd z pad n t L) {D : Nat → Prop} (j k : Nat) (b o m c g : Nat) (hm : m = z.length) (hc : z.length ≤ c)
  (L' : PL) (w : World) (hps : [some (.ry D (some ⟨b, o, none⟩) z), some (.blk g 83 #[.bool false, .int .u8 0, .int .u8 0, .int .u16 0])] = ([j] ++ [k]).map (lookP L')) (hS : Stp olds w0 w (restr ([j] ++ [k]) (lookM (den olds w0 L')))) :
  Calls Tryz.prog 71 #[.pointer (some ⟨g, 0, none⟩), .slice (some ⟨b, o, none⟩) m c] w fun e w' => ∃ x : Pay, e = .returned .nilIface ∧ Stp (blksOf (lookM (den olds w0 L')) [k]) w w' (lookM (den olds w0 (zipW [k] [some (.blk g 83 #[.bool pad, .int .u8 (n : Nat), .int .u8 t, .int .u16 (L : Nat)])]))) := by
 subst hm
 simp only [List.cons_append, List.nil_append, List.map_cons, List.map_nil, List.cons.injEq] at hps
 have hl1 : lookM (den olds w0 L') k = some (ckB g 83 #[.bool false, .int .u8 0, .int .u8 0, .int .u16 0]) := by rw [lookM_den, ← hps.2.1]; rfl
 have r1 : restr ([j] ++ [k]) (lookM (den olds w0 L')) k = some (ckB g 83 #[.bool false, .int .u8 0, .int .u8 0, .int .u16 0]) := by simp [restr, hasN, hl1]
 have rj : restr ([j] ++ [k]) (lookM (den olds w0 L')) j = some (ckP (RdB olds w0 D (some ⟨b, o, none⟩) z ∧ Byts z)) := by simp [restr, hasN, lookM_den, ← hps.1, Pc.den]
 have hb := hS.blk k r1
 have hpc := hS.pure_ j rj
 have hg := (hS.lt k _ r1 g rfl)
 have hr : RowD w D (some ⟨b, o, none⟩) z := fun hn => by
  obtain ⟨ad, e, h1, h2⟩ := hpc.1.1 hn
  have h3 := hpc.1.2 _ h1
  exact ⟨ad, e, h1, fun i u hu => (World.cell?_of_block (by rw [block_of_add]; exact hS.kept _ h3.1 h3.2)).trans (h2 i u hu)⟩
 refine (hdrUm_any g b o c z D w hd hb hr (fun x hx => ?_) hc).mono ?_
 ·have h3 := hpc.1.2 _ hx
  refine ⟨Nat.lt_of_lt_of_le h3.1 hS.size, fun e => ?_⟩
  subst e
  rcases hg.2 with h | h
  ·omega
  ·exact h3.2 h
 ·rintro e w' ⟨rfl, hgr, hbl⟩
  exact ⟨pay0, rfl, stp_one k _ (.inr ⟨g, ⟨k, by simp, _, hl1, rfl⟩, hgr⟩) hbl fun y hy => by have e : y = g := hy; subst e; exact ⟨hbl.lt, .inr ⟨k, by simp, _, hl1, rfl⟩⟩⟩

theorem um_7 (g b o c : Nat) (z : List Int) (D : Nat → Prop) (w : World) {L : Nat} (hd : Hd z false 5 205 L) (hb : Blk w g 178 #[.int .u32 0, .int .u32 0]) (hr : RowD w D (some ⟨b, o, none⟩) z) (hD : ∀ x, D x → x < w.heap.size ∧ x ≠ g) (hc : z.length ≤ c) (h12 : 12 ≤ z.length) :
  Calls Tryz.prog 84 #[.pointer (some ⟨g, 0, none⟩), .slice (some ⟨b, o, none⟩) z.length c] w fun e w' => e = .returned .nilIface ∧ w.grownBy w' (some g) ∧ Blk w' g 178 #[.int .u32 (rd32 (z.drop 4) 0), .int .u32 (rd32 (z.drop 8) 0)] := by
 refine go_in Tryz.func84 rfl Tryz.ntmps84 [pt g 0, sv b o z.length c] fun a hE => ?_
 have hS := stp_blk1 101 hb
 have hS := stp_ry1 hS 110 hr (fun x hx => ⟨(hD x hx).1, (hD x hx).2⟩) hd.byts
 have h4 := hd.len
 have hL : L ≤ 65535 := by have h1 := hd.ln; have h2 := rd16_lt hd.byts 2; omega
 refine rg hE hS [pu] (fun _ => kp [(4, .nilIface)]) kP0 fun _ a u hE hS => ?_
 refine wp_seq ?_
 refine rgp hE hS [pu, pu, pe (.bool false)] (fun _ => kp [(9, .bool false)]) kP0 (fun _ => ⟨kr (cbV (dfV (show ¬ (((z.length : Nat) : Int) < 12) by omega))), trivial⟩) fun _ a u hE hS => iff hE <| wp_skip ?_
 refine rg hE hS [nw 103] (fun p3 => kp [(5, pt (p3 0).g 0)]) (fun p3 => kP [(103, some (.blk (p3 0).g 83 #[.bool false, .int .u8 0, .int .u8 0, .int .u16 0]))]) fun p3 a u hE hS => ?_
 refine wp_seq ?_
 refine rgp hE hS [pu, cu 71 [110] [103] (fun _ => .nilIface) (fun _ => [some (.blk (p3 0).g 83 #[.bool false, .int .u8 5, .int .u8 205, .int .u16 (L : Nat)])]), pu] (fun _ => kp [(6, .nilIface)]) (fun _ => kP [(103, some (.blk (p3 0).g 83 #[.bool false, .int .u8 5, .int .u8 205, .int .u16 (L : Nat)]))]) (fun _ => ⟨kr (cu_hum (w0 := w) (olds := (· = g)) hd (D := D) 110 103 b o z.length c (p3 0).g rfl hc), trivial⟩) fun _ a u hE hS => ?_
 refine rg hE hS [pu, pu] (fun _ => kp [(14, .bool false)]) kP0 fun _ a u hE hS => iff hE <| wp_skip ?_
 refine wp_seq ?_
 refine rg hE hS [pu, ld 103, pu, pu, pu, ld 103, pu, pu] (fun _ => kp [(23, .bool false)]) kP0 fun _ a u hE hS => iff hE <| wp_skip ?_
 refine rgp hE hS [pu, pu, rsl 110 111, cl cB32 [111] [], pu, pu, st 101] kp0 (fun p7 => kP [(111, some (.ry D ((some ⟨(p7 2).g, (p7 2).c, none⟩)) (z.drop 4))), (101, some (.blk g 178 #[.int .u32 (rd32 (z.drop 4) 0), .int .u32 0]))]) (fun _ => ⟨kr (show 4 ≤ z.length ∧ z.length ≤ z.length ∧ z.length ≤ c by omega), kr (show 4 ≤ (z.drop 4).length ∧ (z.drop 4).length ≤ (c - 4) ∧ 0 < (z.drop 4).length by simp only [List.length_drop]; omega), trivial⟩) fun p7 a u hE hS => ?_
 refine rgp hE hS [pu, pu, rsl 110 112, cl cB32 [112] [], pu, pu, st 101] kp0 (fun _ => kP [(101, some (.blk g 178 #[.int .u32 (rd32 (z.drop 4) 0), .int .u32 (rd32 (z.drop 8) 0)]))]) (fun _ => ⟨kr (show 8 ≤ z.length ∧ z.length ≤ z.length ∧ z.length ≤ c by omega), kr (show 4 ≤ (z.drop 8).length ∧ (z.drop 8).length ≤ (c - 8) ∧ 0 < (z.drop 8).length by simp only [List.length_drop]; omega), trivial⟩) fun _ a u hE hS => ?_
 refine rg hE hS [pu] kp0 kP0 fun _ a u hE hS => ?_
 refine wp_ret ?_
 exact ret1 hE Tryz.results84 .nilIface ⟨rfl, hS.grownBy (some g) (fun _ e => by rw [e]), pcB hS 101⟩

theorem um_9 (g b o c : Nat) (z : List Int) (D : Nat → Prop) (w : World) {L : Nat} (hd : Hd z false 1 206 L) (hb : Blk w g 183 #[.int .u32 0, .int .u32 0]) (hr : RowD w D (some ⟨b, o, none⟩) z) (hD : ∀ x, D x → x < w.heap.size ∧ x ≠ g) (hc : z.length ≤ c) (h12 : 12 ≤ z.length) :
  Calls Tryz.prog 87 #[.pointer (some ⟨g, 0, none⟩), .slice (some ⟨b, o, none⟩) z.length c] w fun e w' => e = .returned .nilIface ∧ w.grownBy w' (some g) ∧ Blk w' g 183 #[.int .u32 (rd32 (z.drop 4) 0), .int .u32 (rd32 (z.drop 8) 0)] := by
 refine go_in Tryz.func87 rfl Tryz.ntmps87 [pt g 0, sv b o z.length c] fun a hE => ?_
 have hS := stp_blk1 101 hb
 have hS := stp_ry1 hS 110 hr (fun x hx => ⟨(hD x hx).1, (hD x hx).2⟩) hd.byts
 have h4 := hd.len
 have hL : L ≤ 65535 := by have h1 := hd.ln; have h2 := rd16_lt hd.byts 2; omega
 refine rg hE hS [pu] (fun _ => kp [(4, .nilIface)]) kP0 fun _ a u hE hS => ?_
 refine wp_seq ?_
 refine rgp hE hS [pu, pu, pe (.bool false)] (fun _ => kp [(9, .bool false)]) kP0 (fun _ => ⟨kr (cbV (dfV (show ¬ (((z.length : Nat) : Int) < 12) by omega))), trivial⟩) fun _ a u hE hS => iff hE <| wp_skip ?_
 refine rg hE hS [nw 103] (fun p3 => kp [(5, pt (p3 0).g 0)]) (fun p3 => kP [(103, some (.blk (p3 0).g 83 #[.bool false, .int .u8 0, .int .u8 0, .int .u16 0]))]) fun p3 a u hE hS => ?_
 refine wp_seq ?_
 refine rgp hE hS [pu, cu 71 [110] [103] (fun _ => .nilIface) (fun _ => [some (.blk (p3 0).g 83 #[.bool false, .int .u8 1, .int .u8 206, .int .u16 (L : Nat)])]), pu] (fun _ => kp [(6, .nilIface)]) (fun _ => kP [(103, some (.blk (p3 0).g 83 #[.bool false, .int .u8 1, .int .u8 206, .int .u16 (L : Nat)]))]) (fun _ => ⟨kr (cu_hum (w0 := w) (olds := (· = g)) hd (D := D) 110 103 b o z.length c (p3 0).g rfl hc), trivial⟩) fun _ a u hE hS => ?_
 refine rg hE hS [pu, pu] (fun _ => kp [(14, .bool false)]) kP0 fun _ a u hE hS => iff hE <| wp_skip ?_
 refine wp_seq ?_
 refine rg hE hS [pu, ld 103, pu, pu, pu, ld 103, pu, pu] (fun _ => kp [(23, .bool false)]) kP0 fun _ a u hE hS => iff hE <| wp_skip ?_
 refine rgp hE hS [pu, pu, rsl 110 111, cl cB32 [111] [], pu, pu, st 101] kp0 (fun p7 => kP [(111, some (.ry D ((some ⟨(p7 2).g, (p7 2).c, none⟩)) (z.drop 4))), (101, some (.blk g 183 #[.int .u32 (rd32 (z.drop 4) 0), .int .u32 0]))]) (fun _ => ⟨kr (show 4 ≤ z.length ∧ z.length ≤ z.length ∧ z.length ≤ c by omega), kr (show 4 ≤ (z.drop 4).length ∧ (z.drop 4).length ≤ (c - 4) ∧ 0 < (z.drop 4).length by simp only [List.length_drop]; omega), trivial⟩) fun p7 a u hE hS => ?_
 refine rgp hE hS [pu, pu, rsl 110 112, cl cB32 [112] [], pu, pu, st 101] kp0 (fun _ => kP [(101, some (.blk g 183 #[.int .u32 (rd32 (z.drop 4) 0), .int .u32 (rd32 (z.drop 8) 0)]))]) (fun _ => ⟨kr (show 8 ≤ z.length ∧ z.length ≤ z.length ∧ z.length ≤ c by omega), kr (show 4 ≤ (z.drop 8).length ∧ (z.drop 8).length ≤ (c - 8) ∧ 0 < (z.drop 8).length by simp only [List.length_drop]; omega), trivial⟩) fun _ a u hE hS => ?_
 refine rg hE hS [pu] kp0 kP0 fun _ a u hE hS => ?_
 refine wp_ret ?_
 exact ret1 hE Tryz.results87 .nilIface ⟨rfl, hS.grownBy (some g) (fun _ e => by rw [e]), pcB hS 101⟩

def pairU (z : List Int) (i : Nat) : Pair := ⟨rd16 (z.drop i) 0, rd16 (z.drop (i + 2)) 0⟩
def slcU (z : List Int) (i : Nat) : Slc := ⟨rd32 (z.drop i) 0 / 524288 % 8192, rd32 (z.drop i) 0 / 64 % 8192, rd32 (z.drop i) 0 % 64⟩
def entU (z : List Int) (i : Nat) : Ent := ⟨rd32 ((z.take (i + 8)).drop i) 0, gi ((z.take (i + 8)).drop i) 4⟩
theorem drop3 (z : List Int) (i : Nat) : ((z.drop 4).drop 8).drop i = z.drop (12 + i) := by rw [List.drop_drop, List.drop_drop]; congr 1; omega
theorem pairU_eq (z : List Int) (k : Nat) : pairU z (12 + 4 * k) = pairB (((z.drop 4).drop 8).drop (4 * k)) := by
 unfold pairU pairB
 rw [drop3, List.drop_drop]
theorem slcU_eq {z : List Int} (hz : Byts z) (k : Nat) : slcU z (12 + 4 * k) = slcB (((z.drop 4).drop 8).drop (4 * k)) := by
 unfold slcU slcB
 rw [drop3]
 have := rd32_lt (hz.drop (12 + 4 * k)) 0
 rw [Int.emod_eq_of_lt (by omega) (by omega)]
theorem gi_part (z : List Int) (i n j : Nat) (hj : j < n) : gi ((z.take (i + n)).drop i) j = gi (z.drop i) j := by
 unfold gi
 rw [List.getD_eq_getElem?_getD, List.getD_eq_getElem?_getD, List.getElem?_drop, List.getElem?_drop, List.getElem?_take, if_pos (by omega)]
theorem entU_eq (z : List Int) (k : Nat) : entU z (12 + 8 * k) = entB (((z.drop 4).drop 8).drop (8 * k)) := by
 unfold entU entB rd32
 rw [drop3, gi_part _ _ _ _ (by omega), gi_part _ _ _ _ (by omega), gi_part _ _ _ _ (by omega), gi_part _ _ _ _ (by omega), gi_part _ _ _ _ (by omega)]
theorem um_6 (g b o c : Nat) (z : List Int) (D : Nat → Prop) (w : World) {L : Nat} (hd : Hd z false 1 205 L) (hb : Blk w g 173 #[.int .u32 0, .int .u32 0, .slice none 0 0]) (hr : RowD w D (some ⟨b, o, none⟩) z) (hD : ∀ x, D x → x < w.heap.size ∧ x ≠ g) (hc : z.length ≤ c) (hzl : z.length = 4 * (L + 1)) (h12 : 12 ≤ z.length) (h8 : 2 < L) :
  Calls Tryz.prog 149 #[.pointer (some ⟨g, 0, none⟩), .slice (some ⟨b, o, none⟩) z.length c] w fun e w' => e = .returned .nilIface ∧ w.grownBy w' (some g) ∧ ∃ A c2, Blk w' g 173 #[.int .u32 (rd32 (z.drop 4) 0), .int .u32 (rd32 (z.drop 8) 0), .slice A ((4 * L - 8) / 4) c2] ∧ InRows w' w.heap.size w'.heap.size 2 A ((4 * L - 8) / 4) ((parts4 pairB 4 ((4 * L - 8) / 4) ((z.drop 4).drop 8)).flatMap Pair.cells) := by
 refine go_in Tryz.func149 rfl Tryz.ntmps149 [pt g 0, sv b o z.length c] fun a hE => ?_
 have hS := stp_blk1 101 hb
 have hS := stp_ry1 hS 110 hr (fun x hx => ⟨(hD x hx).1, (hD x hx).2⟩) hd.byts
 have h4 := hd.len
 have hL : L ≤ 65535 := by have h1 := hd.ln; have h2 := rd16_lt hd.byts 2; omega
 have hl : z.length ≤ 262144 := by omega
 refine rg hE hS [pu] (fun _ => kp [(4, .nilIface)]) kP0 fun _ a u hE hS => ?_
 refine wp_seq ?_
 refine rgp hE hS [pu, pu, pe (.bool false)] (fun _ => kp [(10, .bool false)]) kP0 (fun _ => ⟨kr (cbV (dfV (show ¬ (((z.length : Nat) : Int) < 8) by omega))), trivial⟩) fun _ a u hE hS => iff hE <| wp_skip ?_
 refine rg hE hS [nw 103] (fun p3 => kp [(5, pt (p3 0).g 0)]) (fun p3 => kP [(103, some (.blk (p3 0).g 83 #[.bool false, .int .u8 0, .int .u8 0, .int .u16 0]))]) fun p3 a u hE hS => ?_
 refine wp_seq ?_
 refine rgp hE hS [pu, cu 71 [110] [103] (fun _ => .nilIface) (fun _ => [some (.blk (p3 0).g 83 #[.bool false, .int .u8 1, .int .u8 205, .int .u16 (L : Nat)])]), pu] (fun _ => kp [(6, .nilIface)]) (fun _ => kP [(103, some (.blk (p3 0).g 83 #[.bool false, .int .u8 1, .int .u8 205, .int .u16 (L : Nat)]))]) (fun _ => ⟨kr (cu_hum (w0 := w) (olds := (· = g)) hd (D := D) 110 103 b o z.length c (p3 0).g rfl hc), trivial⟩) fun _ a u hE hS => ?_
 refine rg hE hS [pu, pu] (fun _ => kp [(15, .bool false)]) kP0 fun _ a u hE hS => iff hE <| wp_skip ?_
 refine wp_seq ?_
 refine rgp hE hS [pu, pu, pu, ld 103, pe (.int .i64 (L : Nat)), pe (.int .i64 ((4 * L : Nat) : Int)), pe (.int .i64 ((4 + 4 * L : Nat) : Int)), pe (.bool false)] (fun _ => kp [(24, .bool false)]) kP0 (fun _ => ⟨kr (ciV (wiV ((L : Nat) : Int) (by omega))), kr (ciV (show IntKind.i64.wrap ((4 : Int) * ((L : Nat) : Int)) = ((4 * L : Nat) : Int) from by rw [wiV _ (by omega)]; omega)), kr (ciV (show IntKind.i64.wrap ((4 : Int) + ((4 * L : Nat) : Int)) = ((4 + 4 * L : Nat) : Int) from by rw [wiV _ (by omega)]; omega)), kr (cbV (dfV (show ¬ (((z.length : Nat) : Int) < ((4 + 4 * L : Nat) : Int)) by omega))), trivial⟩) fun _ a u hE hS => iff hE <| wp_skip ?_
 refine wp_seq ?_
 refine rg hE hS [pu, ld 103, pu, pu, pu, ld 103, pu, pu] (fun _ => kp [(33, .bool false)]) kP0 fun _ a u hE hS => iff hE <| wp_skip ?_
 refine wp_seq ?_
 refine rgp hE hS [pu, ld 103, pe (.int .i64 (L : Nat)), pe (.int .i64 ((4 * L : Nat) : Int)), pe (.bool false)] (fun _ => kp [(39, .bool false)]) kP0 (fun _ => ⟨kr (ciV (wiV ((L : Nat) : Int) (by omega))), kr (ciV (show IntKind.i64.wrap ((4 : Int) * ((L : Nat) : Int)) = ((4 * L : Nat) : Int) from by rw [wiV _ (by omega)]; omega)), kr (cbV (dfV (show ¬ (((4 * L : Nat) : Int) ≤ 8) by omega))), trivial⟩) fun _ a u hE hS => iff hE <| wp_skip ?_
 refine rgp hE hS [pu, pu, rsl 110 111, cl cB32 [111] [], pu, pu, st 101] kp0 (fun p9 => kP [(111, some (.ry D ((some ⟨(p9 2).g, (p9 2).c, none⟩)) (z.drop 4))), (101, some (.blk g 173 #[.int .u32 (rd32 (z.drop 4) 0), .int .u32 0, .slice none 0 0]))]) (fun _ => ⟨kr (show 4 ≤ z.length ∧ z.length ≤ z.length ∧ z.length ≤ c by omega), kr (show 4 ≤ (z.drop 4).length ∧ (z.drop 4).length ≤ (c - 4) ∧ 0 < (z.drop 4).length by simp only [List.length_drop]; omega), trivial⟩) fun p9 a u hE hS => ?_
 refine rgp hE hS [pu, pu, rsl 110 112, cl cB32 [112] [], pu, pu, st 101] kp0 (fun _ => kP [(101, some (.blk g 173 #[.int .u32 (rd32 (z.drop 4) 0), .int .u32 (rd32 (z.drop 8) 0), .slice none 0 0]))]) (fun _ => ⟨kr (show 8 ≤ z.length ∧ z.length ≤ z.length ∧ z.length ≤ c by omega), kr (show 4 ≤ (z.drop 8).length ∧ (z.drop 8).length ≤ (c - 8) ∧ 0 < (z.drop 8).length by simp only [List.length_drop]; omega), trivial⟩) fun _ a u hE hS => ?_
 refine wp_seq ?_
 refine rg hE hS [pu] (fun _ => kn [(7, .int .i64 12)] [0, 1, 4, 5]) (fun _ => kN [] [111, 103, 110, 101]) fun _ a u hE hS => ?_
 have hS := stp_row0 hS 1 w.heap.size 176 2
 refine wp_block ?_
 refine loop_k hE hS ((4 * L - 8) / 4) (fun k x => kd [7] [(7, .int .i64 ((12 + 4 * k : Nat) : Int))]) (fun k x => kN [(101, some (.blk g 173 #[.int .u32 (rd32 (z.drop 4) 0), .int .u32 (rd32 (z.drop 8) 0), .slice x.p.a x.n x.p.c])), (1, some (.row w.heap.size 176 2 (.slice x.p.a x.n x.p.c) x.n x.xs))] [103, 110]) (fun k (x : Lx Unit) => x.n = k ∧ x.xs = (parts4 pairB 4 k ((z.drop 4).drop 8)).flatMap Pair.cells) ⟨pay0, 0, [], ()⟩ (⟨rfl, by simp [parts4]⟩) ?_
 intro k x a u hkk hI hE hS K hK
 obtain ⟨hk1, hk2⟩ := hI
 obtain ⟨xp, xn, xs, _⟩ := x
 simp only at hk1 hk2
 by_cases hlt : k < (4 * L - 8) / 4
 ·skip
  have hk8 : (12 + 4 * k) + 4 ≤ z.length := by omega
  refine wp_seq ?_
  refine rgp hE hS [pu, pu, ld 103, pe (.int .i64 (L : Nat)), pe (.int .i64 ((4 * L : Nat) : Int)), pe (.int .i64 ((4 + 4 * L : Nat) : Int)), pe (.bool true)] (fun _ => kp [(59, .bool true)]) kP0 (fun _ => ⟨kr (ciV (wiV ((L : Nat) : Int) (by omega))), kr (ciV (show IntKind.i64.wrap ((4 : Int) * ((L : Nat) : Int)) = ((4 * L : Nat) : Int) from by rw [wiV _ (by omega)]; omega)), kr (ciV (show IntKind.i64.wrap ((4 : Int) + ((4 * L : Nat) : Int)) = ((4 + 4 * L : Nat) : Int) from by rw [wiV _ (by omega)]; omega)), kr (cbV (dtV (show ((12 + 4 * k : Nat) : Int) < ((4 + 4 * L : Nat) : Int) by omega))), trivial⟩) fun _ a u hE hS => ift hE <| wp_skip ?_
  refine wp_seq ?_
  refine wp_block ?_
  refine dgE hE hS [pu, pu, pu, pu, ld 101, pu, pu, rsl 110 111, cl cB16 [111] [], pu, pu, pe (.int .i64 ((12 + 4 * k + 2 : Nat) : Int)), rsl 110 112, cl cB16 [112] [], pu, nw 92, ap 1 [92], pu, pu, st 101] kp0 (fun p13 => kP [(101, some (.blk g 173 #[.int .u32 (rd32 (z.drop 4) 0), .int .u32 (rd32 (z.drop 8) 0), .slice (p13 16).a (xn + 1) (p13 16).c])), (1, some (.row w.heap.size 176 2 (.slice (p13 16).a (xn + 1) (p13 16).c) (xn + 1) (xs ++ (pairU z (12 + 4 * k)).cells))), (111, some (.ry D ((some ⟨(p13 7).g, (p13 7).c, none⟩)) (z.drop (12 + 4 * k))))]) (fun _ => ⟨kr (show (12 + 4 * k) ≤ z.length ∧ z.length ≤ z.length ∧ z.length ≤ c by omega), kr (show 2 ≤ (z.drop (12 + 4 * k)).length ∧ (z.drop (12 + 4 * k)).length ≤ (c - (12 + 4 * k)) ∧ 0 < (z.drop (12 + 4 * k)).length by simp only [List.length_drop]; omega), kr (ciV (show IntKind.i64.wrap (((12 + 4 * k : Nat) : Int) + (2 : Int)) = ((12 + 4 * k + 2 : Nat) : Int) from by rw [wiV _ (by omega)]; omega)), kr (show (12 + 4 * k + 2) ≤ z.length ∧ z.length ≤ z.length ∧ z.length ≤ c by omega), kr (show 2 ≤ (z.drop (12 + 4 * k + 2)).length ∧ (z.drop (12 + 4 * k + 2)).length ≤ (c - (12 + 4 * k + 2)) ∧ 0 < (z.drop (12 + 4 * k + 2)).length by simp only [List.length_drop]; omega), kr (show w.heap.size ≤ w.heap.size ∧ (xn + 1) * 4 ≤ 140737488355328 ∧ ∀ u ∈ (pairU z (12 + 4 * k)).cells, u.oneCell' = true from ⟨Nat.le_refl _, by omega, by intro u hu; simp [Pair.cells] at hu; rcases hu with rfl | rfl <;> rfl⟩), trivial⟩) fun p13 a u hE hS => ?_
  refine rgE hE hS [pu, pe (.int .i64 ((12 + 4 * (k + 1) : Nat) : Int)), pu] (fun _ => kp [(7, .int .i64 (12 + 4 * (k + 1) : Nat))]) kP0 (fun _ => ⟨kr (ciV (show IntKind.i64.wrap (((12 + 4 * k : Nat) : Int) + (4 : Int)) = ((12 + 4 * (k + 1) : Nat) : Int) from by rw [wiV _ (by omega)]; omega)), trivial⟩) fun _ a u hE hS => ?_
  exact hK ⟨(p13 16), xn + 1, xs ++ (pairU z (12 + 4 * k)).cells, ()⟩ a u _ _ hlt ⟨congrArg (· + 1) hk1, by show xs ++ _ = _; rw [hk2, parts4_succ, List.flatMap_append, pairU_eq z k]; simp⟩ hE hS (by kernel_rfl)
 ·obtain rfl : k = (4 * L - 8) / 4 := by omega
  refine wp_seq ?_
  refine rgp hE hS [pu, pu, ld 103, pe (.int .i64 (L : Nat)), pe (.int .i64 ((4 * L : Nat) : Int)), pe (.int .i64 ((4 + 4 * L : Nat) : Int)), pe (.bool false)] (fun _ => kp [(59, .bool false)]) kP0 (fun _ => ⟨kr (ciV (wiV ((L : Nat) : Int) (by omega))), kr (ciV (show IntKind.i64.wrap ((4 : Int) * ((L : Nat) : Int)) = ((4 * L : Nat) : Int) from by rw [wiV _ (by omega)]; omega)), kr (ciV (show IntKind.i64.wrap ((4 : Int) + ((4 * L : Nat) : Int)) = ((4 + 4 * L : Nat) : Int) from by rw [wiV _ (by omega)]; omega)), kr (cbV (dfV (show ¬ (((12 + 4 * ((4 * L - 8) / 4) : Nat) : Int) < ((4 + 4 * L : Nat) : Int)) by omega))), trivial⟩) fun _ a u hE hS => iff hE ?_
  refine wp_exit ?_
  refine rg hE hS [pu] kp0 kP0 fun _ a u hE hS => ?_
  refine wp_ret ?_
  subst hk1
  have hrow := pcR (base := w.heap.size) (e := 176) (size := 2) (v := .slice xp.a ((4 * L - 8) / 4) xp.c) (n := (4 * L - 8) / 4) (xs := xs) hS 1
  exact ret1 hE Tryz.results149 .nilIface ⟨rfl, hS.grownBy (some g) (fun _ e => by rw [e]), xp.a, xp.c, pcB hS 101, by rw [← hk2]; exact InRows.of_own hrow⟩

theorem um_10 (g b o c : Nat) (z : List Int) (D : Nat → Prop) (w : World) {L : Nat} (hd : Hd z false 2 206 L) (hb : Blk w g 186 #[.int .u32 0, .int .u32 0, .slice none 0 0]) (hr : RowD w D (some ⟨b, o, none⟩) z) (hD : ∀ x, D x → x < w.heap.size ∧ x ≠ g) (hc : z.length ≤ c) (hzl : z.length = 4 * (L + 1)) (h12 : 12 ≤ z.length) :
  Calls Tryz.prog 164 #[.pointer (some ⟨g, 0, none⟩), .slice (some ⟨b, o, none⟩) z.length c] w fun e w' => e = .returned .nilIface ∧ w.grownBy w' (some g) ∧ ∃ A c2, Blk w' g 186 #[.int .u32 (rd32 (z.drop 4) 0), .int .u32 (rd32 (z.drop 8) 0), .slice A ((4 * L - 8) / 4) c2] ∧ InRows w' w.heap.size w'.heap.size 3 A ((4 * L - 8) / 4) ((parts4 slcB 4 ((4 * L - 8) / 4) ((z.drop 4).drop 8)).flatMap Slc.cells) := by
 refine go_in Tryz.func164 rfl Tryz.ntmps164 [pt g 0, sv b o z.length c] fun a hE => ?_
 have hS := stp_blk1 101 hb
 have hS := stp_ry1 hS 110 hr (fun x hx => ⟨(hD x hx).1, (hD x hx).2⟩) hd.byts
 have h4 := hd.len
 have hL : L ≤ 65535 := by have h1 := hd.ln; have h2 := rd16_lt hd.byts 2; omega
 have hl : z.length ≤ 262144 := by omega
 refine rg hE hS [pu] (fun _ => kp [(4, .nilIface)]) kP0 fun _ a u hE hS => ?_
 refine wp_seq ?_
 refine rgp hE hS [pu, pu, pe (.bool false)] (fun _ => kp [(11, .bool false)]) kP0 (fun _ => ⟨kr (cbV (dfV (show ¬ (((z.length : Nat) : Int) < 12) by omega))), trivial⟩) fun _ a u hE hS => iff hE <| wp_skip ?_
 refine rg hE hS [nw 103] (fun p3 => kp [(5, pt (p3 0).g 0)]) (fun p3 => kP [(103, some (.blk (p3 0).g 83 #[.bool false, .int .u8 0, .int .u8 0, .int .u16 0]))]) fun p3 a u hE hS => ?_
 refine wp_seq ?_
 refine rgp hE hS [pu, cu 71 [110] [103] (fun _ => .nilIface) (fun _ => [some (.blk (p3 0).g 83 #[.bool false, .int .u8 2, .int .u8 206, .int .u16 (L : Nat)])]), pu] (fun _ => kp [(6, .nilIface)]) (fun _ => kP [(103, some (.blk (p3 0).g 83 #[.bool false, .int .u8 2, .int .u8 206, .int .u16 (L : Nat)]))]) (fun _ => ⟨kr (cu_hum (w0 := w) (olds := (· = g)) hd (D := D) 110 103 b o z.length c (p3 0).g rfl hc), trivial⟩) fun _ a u hE hS => ?_
 refine rg hE hS [pu, pu] (fun _ => kp [(16, .bool false)]) kP0 fun _ a u hE hS => iff hE <| wp_skip ?_
 refine wp_seq ?_
 refine rgp hE hS [pu, pu, pu, ld 103, pe (.int .i64 (L : Nat)), pe (.int .i64 ((4 * L : Nat) : Int)), pe (.int .i64 ((4 + 4 * L : Nat) : Int)), pe (.bool false)] (fun _ => kp [(25, .bool false)]) kP0 (fun _ => ⟨kr (ciV (wiV ((L : Nat) : Int) (by omega))), kr (ciV (show IntKind.i64.wrap ((4 : Int) * ((L : Nat) : Int)) = ((4 * L : Nat) : Int) from by rw [wiV _ (by omega)]; omega)), kr (ciV (show IntKind.i64.wrap ((4 : Int) + ((4 * L : Nat) : Int)) = ((4 + 4 * L : Nat) : Int) from by rw [wiV _ (by omega)]; omega)), kr (cbV (dfV (show ¬ (((z.length : Nat) : Int) < ((4 + 4 * L : Nat) : Int)) by omega))), trivial⟩) fun _ a u hE hS => iff hE <| wp_skip ?_
 refine wp_seq ?_
 refine rg hE hS [pu, ld 103, pu, pu, pu, ld 103, pu, pu] (fun _ => kp [(34, .bool false)]) kP0 fun _ a u hE hS => iff hE <| wp_skip ?_
 refine rgp hE hS [pu, pu, rsl 110 111, cl cB32 [111] [], pu, pu, st 101] kp0 (fun p8 => kP [(111, some (.ry D ((some ⟨(p8 2).g, (p8 2).c, none⟩)) (z.drop 4))), (101, some (.blk g 186 #[.int .u32 (rd32 (z.drop 4) 0), .int .u32 0, .slice none 0 0]))]) (fun _ => ⟨kr (show 4 ≤ z.length ∧ z.length ≤ z.length ∧ z.length ≤ c by omega), kr (show 4 ≤ (z.drop 4).length ∧ (z.drop 4).length ≤ (c - 4) ∧ 0 < (z.drop 4).length by simp only [List.length_drop]; omega), trivial⟩) fun p8 a u hE hS => ?_
 refine rgp hE hS [pu, pu, rsl 110 112, cl cB32 [112] [], pu, pu, st 101] kp0 (fun _ => kP [(101, some (.blk g 186 #[.int .u32 (rd32 (z.drop 4) 0), .int .u32 (rd32 (z.drop 8) 0), .slice none 0 0]))]) (fun _ => ⟨kr (show 8 ≤ z.length ∧ z.length ≤ z.length ∧ z.length ≤ c by omega), kr (show 4 ≤ (z.drop 8).length ∧ (z.drop 8).length ≤ (c - 8) ∧ 0 < (z.drop 8).length by simp only [List.length_drop]; omega), trivial⟩) fun _ a u hE hS => ?_
 refine wp_seq ?_
 refine rg hE hS [pu] (fun _ => kn [(7, .int .i64 12)] [0, 1, 4, 5]) (fun _ => kN [] [111, 103, 110, 101]) fun _ a u hE hS => ?_
 have hS := stp_row0 hS 1 w.heap.size 187 3
 refine wp_block ?_
 refine loop_k hE hS ((4 * L - 8) / 4) (fun k x => kd [7] [(7, .int .i64 ((12 + 4 * k : Nat) : Int))]) (fun k x => kN [(101, some (.blk g 186 #[.int .u32 (rd32 (z.drop 4) 0), .int .u32 (rd32 (z.drop 8) 0), .slice x.p.a x.n x.p.c])), (1, some (.row w.heap.size 187 3 (.slice x.p.a x.n x.p.c) x.n x.xs))] [103, 110]) (fun k (x : Lx Unit) => x.n = k ∧ x.xs = (parts4 slcB 4 k ((z.drop 4).drop 8)).flatMap Slc.cells) ⟨pay0, 0, [], ()⟩ (⟨rfl, by simp [parts4]⟩) ?_
 intro k x a u hkk hI hE hS K hK
 obtain ⟨hk1, hk2⟩ := hI
 obtain ⟨xp, xn, xs, _⟩ := x
 simp only at hk1 hk2
 by_cases hlt : k < (4 * L - 8) / 4
 ·skip
  have hk8 : (12 + 4 * k) + 4 ≤ z.length := by omega
  have hu := rd32_lt (hd.byts.drop (12 + 4 * k)) 0
  refine wp_seq ?_
  refine rgp hE hS [pu, pu, ld 103, pe (.int .i64 (L : Nat)), pe (.int .i64 ((4 * L : Nat) : Int)), pe (.int .i64 ((4 + 4 * L : Nat) : Int)), pe (.bool true)] (fun _ => kp [(54, .bool true)]) kP0 (fun _ => ⟨kr (ciV (wiV ((L : Nat) : Int) (by omega))), kr (ciV (show IntKind.i64.wrap ((4 : Int) * ((L : Nat) : Int)) = ((4 * L : Nat) : Int) from by rw [wiV _ (by omega)]; omega)), kr (ciV (show IntKind.i64.wrap ((4 : Int) + ((4 * L : Nat) : Int)) = ((4 + 4 * L : Nat) : Int) from by rw [wiV _ (by omega)]; omega)), kr (cbV (dtV (show ((12 + 4 * k : Nat) : Int) < ((4 + 4 * L : Nat) : Int) by omega))), trivial⟩) fun _ a u hE hS => ift hE <| wp_skip ?_
  refine wp_seq ?_
  refine wp_block ?_
  refine rgp hE hS [pu, pu, rsl 110 111, cl cB32 [111] [], pu] (fun _ => kp [(8, .int .u32 (rd32 (z.drop (12 + 4 * k)) 0))]) (fun p12 => kP [(111, some (.ry D ((some ⟨(p12 2).g, (p12 2).c, none⟩)) (z.drop (12 + 4 * k))))]) (fun _ => ⟨kr (show (12 + 4 * k) ≤ z.length ∧ z.length ≤ z.length ∧ z.length ≤ c by omega), kr (show 4 ≤ (z.drop (12 + 4 * k)).length ∧ (z.drop (12 + 4 * k)).length ≤ (c - (12 + 4 * k)) ∧ 0 < (z.drop (12 + 4 * k)).length by simp only [List.length_drop]; omega), trivial⟩) fun p12 a u hE hS => ?_
  refine rgE hE hS [pu, pu, pu, pu, ld 101, pu, pe (.int .u32 (rd32 (z.drop (12 + 4 * k)) 0 / 524288)), pe (.int .u32 (rd32 (z.drop (12 + 4 * k)) 0 / 524288 % 8192)), pe (.int .u16 (rd32 (z.drop (12 + 4 * k)) 0 / 524288 % 8192)), pu, pe (.int .u32 (rd32 (z.drop (12 + 4 * k)) 0 / 64)), pe (.int .u32 (rd32 (z.drop (12 + 4 * k)) 0 / 64 % 8192)), pe (.int .u16 (rd32 (z.drop (12 + 4 * k)) 0 / 64 % 8192)), pu, pe (.int .u32 (rd32 (z.drop (12 + 4 * k)) 0 % 64)), pe (.int .u8 (rd32 (z.drop (12 + 4 * k)) 0 % 64)), pu, nw 92, ap 1 [92], pu, pu, st 101] kp0 (fun p13 => kP [(101, some (.blk g 186 #[.int .u32 (rd32 (z.drop 4) 0), .int .u32 (rd32 (z.drop 8) 0), .slice (p13 18).a (xn + 1) (p13 18).c])), (1, some (.row w.heap.size 187 3 (.slice (p13 18).a (xn + 1) (p13 18).c) (xn + 1) (xs ++ (slcU z (12 + 4 * k)).cells)))]) (fun _ => ⟨kr (shrv .u32 (rd32 (z.drop (12 + 4 * k)) 0) 524288 (by decide)), kr (congrArg (Value.int .u32) (and8191 (rd32 (z.drop (12 + 4 * k)) 0 / 524288) (by omega) (by omega))), kr (c16 (rd32 (z.drop (12 + 4 * k)) 0 / 524288 % 8192) (by omega) (by omega)), kr (shrv .u32 (rd32 (z.drop (12 + 4 * k)) 0) 64 (by decide)), kr (congrArg (Value.int .u32) (and8191 (rd32 (z.drop (12 + 4 * k)) 0 / 64) (by omega) (by omega))), kr (c16 (rd32 (z.drop (12 + 4 * k)) 0 / 64 % 8192) (by omega) (by omega)), kr (congrArg (Value.int .u32) (and63 (rd32 (z.drop (12 + 4 * k)) 0) (by omega) (by omega))), kr (c8 (rd32 (z.drop (12 + 4 * k)) 0 % 64) (by omega) (by omega)), kr (show w.heap.size ≤ w.heap.size ∧ (xn + 1) * 6 ≤ 140737488355328 ∧ ∀ u ∈ (slcU z (12 + 4 * k)).cells, u.oneCell' = true from ⟨Nat.le_refl _, by omega, by intro u hu; simp [Slc.cells] at hu; rcases hu with rfl | rfl | rfl <;> rfl⟩), trivial⟩) fun p13 a u hE hS => ?_
  refine rgE hE hS [pu, pe (.int .i64 ((12 + 4 * (k + 1) : Nat) : Int)), pu] (fun _ => kp [(7, .int .i64 (12 + 4 * (k + 1) : Nat))]) kP0 (fun _ => ⟨kr (ciV (show IntKind.i64.wrap (((12 + 4 * k : Nat) : Int) + (4 : Int)) = ((12 + 4 * (k + 1) : Nat) : Int) from by rw [wiV _ (by omega)]; omega)), trivial⟩) fun _ a u hE hS => ?_
  exact hK ⟨(p13 18), xn + 1, xs ++ (slcU z (12 + 4 * k)).cells, ()⟩ a u _ _ hlt ⟨congrArg (· + 1) hk1, by show xs ++ _ = _; rw [hk2, parts4_succ, List.flatMap_append, slcU_eq hd.byts k]; simp⟩ hE hS (by kernel_rfl)
 ·obtain rfl : k = (4 * L - 8) / 4 := by omega
  refine wp_seq ?_
  refine rgp hE hS [pu, pu, ld 103, pe (.int .i64 (L : Nat)), pe (.int .i64 ((4 * L : Nat) : Int)), pe (.int .i64 ((4 + 4 * L : Nat) : Int)), pe (.bool false)] (fun _ => kp [(54, .bool false)]) kP0 (fun _ => ⟨kr (ciV (wiV ((L : Nat) : Int) (by omega))), kr (ciV (show IntKind.i64.wrap ((4 : Int) * ((L : Nat) : Int)) = ((4 * L : Nat) : Int) from by rw [wiV _ (by omega)]; omega)), kr (ciV (show IntKind.i64.wrap ((4 : Int) + ((4 * L : Nat) : Int)) = ((4 + 4 * L : Nat) : Int) from by rw [wiV _ (by omega)]; omega)), kr (cbV (dfV (show ¬ (((12 + 4 * ((4 * L - 8) / 4) : Nat) : Int) < ((4 + 4 * L : Nat) : Int)) by omega))), trivial⟩) fun _ a u hE hS => iff hE ?_
  refine wp_exit ?_
  refine rg hE hS [pu] kp0 kP0 fun _ a u hE hS => ?_
  refine wp_ret ?_
  subst hk1
  have hrow := pcR (base := w.heap.size) (e := 187) (size := 3) (v := .slice xp.a ((4 * L - 8) / 4) xp.c) (n := (4 * L - 8) / 4) (xs := xs) hS 1
  exact ret1 hE Tryz.results164 .nilIface ⟨rfl, hS.grownBy (some g) (fun _ e => by rw [e]), xp.a, xp.c, pcB hS 101, by rw [← hk2]; exact InRows.of_own hrow⟩

theorem um_11 (g b o c : Nat) (z : List Int) (D : Nat → Prop) (w : World) {L : Nat} (hd : Hd z false 4 206 L) (hb : Blk w g 190 #[.int .u32 0, .int .u32 0, .slice none 0 0]) (hr : RowD w D (some ⟨b, o, none⟩) z) (hD : ∀ x, D x → x < w.heap.size ∧ x ≠ g) (hc : z.length ≤ c) (hzl : z.length = 4 * (L + 1)) (h12 : 12 ≤ z.length) (h8 : 2 < L) (hm : L % 2 = 0) :
  Calls Tryz.prog 167 #[.pointer (some ⟨g, 0, none⟩), .slice (some ⟨b, o, none⟩) z.length c] w fun e w' => e = .returned .nilIface ∧ w.grownBy w' (some g) ∧ ∃ A c2, Blk w' g 190 #[.int .u32 (rd32 (z.drop 4) 0), .int .u32 (rd32 (z.drop 8) 0), .slice A ((4 * L - 8) / 8) c2] ∧ InRows w' w.heap.size w'.heap.size 2 A ((4 * L - 8) / 8) ((parts4 entB 8 ((4 * L - 8) / 8) ((z.drop 4).drop 8)).flatMap Ent.cells) := by
 refine go_in Tryz.func167 rfl Tryz.ntmps167 [pt g 0, sv b o z.length c] fun a hE => ?_
 have hS := stp_blk1 101 hb
 have hS := stp_ry1 hS 110 hr (fun x hx => ⟨(hD x hx).1, (hD x hx).2⟩) hd.byts
 have h4 := hd.len
 have hL : L ≤ 65535 := by have h1 := hd.ln; have h2 := rd16_lt hd.byts 2; omega
 have hl : z.length ≤ 262144 := by omega
 refine rg hE hS [pu] (fun _ => kp [(4, .nilIface)]) kP0 fun _ a u hE hS => ?_
 refine wp_seq ?_
 refine rgp hE hS [pu, pu, pe (.bool false)] (fun _ => kp [(11, .bool false)]) kP0 (fun _ => ⟨kr (cbV (dfV (show ¬ (((z.length : Nat) : Int) < 8) by omega))), trivial⟩) fun _ a u hE hS => iff hE <| wp_skip ?_
 refine rg hE hS [nw 103] (fun p3 => kp [(5, pt (p3 0).g 0)]) (fun p3 => kP [(103, some (.blk (p3 0).g 83 #[.bool false, .int .u8 0, .int .u8 0, .int .u16 0]))]) fun p3 a u hE hS => ?_
 refine wp_seq ?_
 refine rgp hE hS [pu, cu 71 [110] [103] (fun _ => .nilIface) (fun _ => [some (.blk (p3 0).g 83 #[.bool false, .int .u8 4, .int .u8 206, .int .u16 (L : Nat)])]), pu] (fun _ => kp [(6, .nilIface)]) (fun _ => kP [(103, some (.blk (p3 0).g 83 #[.bool false, .int .u8 4, .int .u8 206, .int .u16 (L : Nat)]))]) (fun _ => ⟨kr (cu_hum (w0 := w) (olds := (· = g)) hd (D := D) 110 103 b o z.length c (p3 0).g rfl hc), trivial⟩) fun _ a u hE hS => ?_
 refine rg hE hS [pu, pu] (fun _ => kp [(16, .bool false)]) kP0 fun _ a u hE hS => iff hE <| wp_skip ?_
 refine wp_seq ?_
 refine rgp hE hS [pu, pu, pu, ld 103, pe (.int .i64 (L : Nat)), pe (.int .i64 ((4 * L : Nat) : Int)), pe (.int .i64 ((4 + 4 * L : Nat) : Int)), pe (.bool false)] (fun _ => kp [(25, .bool false)]) kP0 (fun _ => ⟨kr (ciV (wiV ((L : Nat) : Int) (by omega))), kr (ciV (show IntKind.i64.wrap ((4 : Int) * ((L : Nat) : Int)) = ((4 * L : Nat) : Int) from by rw [wiV _ (by omega)]; omega)), kr (ciV (show IntKind.i64.wrap ((4 : Int) + ((4 * L : Nat) : Int)) = ((4 + 4 * L : Nat) : Int) from by rw [wiV _ (by omega)]; omega)), kr (cbV (dfV (show ¬ (((z.length : Nat) : Int) < ((4 + 4 * L : Nat) : Int)) by omega))), trivial⟩) fun _ a u hE hS => iff hE <| wp_skip ?_
 refine wp_seq ?_
 refine rg hE hS [pu, ld 103, pu, pu, pu, ld 103, pu, pu] (fun _ => kp [(34, .bool false)]) kP0 fun _ a u hE hS => iff hE <| wp_skip ?_
 refine wp_seq ?_
 refine rgp hE hS [pu, ld 103, pe (.int .i64 (L : Nat)), pe (.int .i64 ((4 * L : Nat) : Int)), pe (.int .i64 ((4 * L - 8 : Nat) : Int)), pe (.bool false), pu, pu, ld 103, pe (.int .i64 (L : Nat)), pe (.int .i64 ((4 * L : Nat) : Int)), pu, pe (.bool false), pu] (fun _ => kp [(49, .bool false)]) kP0 (fun _ => ⟨kr (ciV (wiV ((L : Nat) : Int) (by omega))), kr (ciV (show IntKind.i64.wrap ((4 : Int) * ((L : Nat) : Int)) = ((4 * L : Nat) : Int) from by rw [wiV _ (by omega)]; omega)), kr (ciV (show IntKind.i64.wrap (((4 * L : Nat) : Int) - 8) = ((4 * L - 8 : Nat) : Int) from (wiV _ (by omega)).trans (by omega))), kr (cbV (dfV (show ¬ (((4 * L - 8 : Nat) : Int) ≤ 0) by omega))), kr (ciV (wiV ((L : Nat) : Int) (by omega))), kr (ciV (show IntKind.i64.wrap ((4 : Int) * ((L : Nat) : Int)) = ((4 * L : Nat) : Int) from by rw [wiV _ (by omega)]; omega)), kr (cbV (show (((4 * L : Nat) : Int).tmod 8 != 0) = false by rw [Int.tmod_eq_emod_of_nonneg (by omega)]; simp; omega)), trivial⟩) fun _ a u hE hS => iff hE <| wp_skip ?_
 refine rgp hE hS [pu, pu, rsl 110 111, cl cB32 [111] [], pu, pu, st 101] kp0 (fun p9 => kP [(111, some (.ry D ((some ⟨(p9 2).g, (p9 2).c, none⟩)) (z.drop 4))), (101, some (.blk g 190 #[.int .u32 (rd32 (z.drop 4) 0), .int .u32 0, .slice none 0 0]))]) (fun _ => ⟨kr (show 4 ≤ z.length ∧ z.length ≤ z.length ∧ z.length ≤ c by omega), kr (show 4 ≤ (z.drop 4).length ∧ (z.drop 4).length ≤ (c - 4) ∧ 0 < (z.drop 4).length by simp only [List.length_drop]; omega), trivial⟩) fun p9 a u hE hS => ?_
 refine rgp hE hS [pu, pu, rsl 110 112, cl cB32 [112] [], pu, pu, st 101] kp0 (fun _ => kP [(101, some (.blk g 190 #[.int .u32 (rd32 (z.drop 4) 0), .int .u32 (rd32 (z.drop 8) 0), .slice none 0 0]))]) (fun _ => ⟨kr (show 8 ≤ z.length ∧ z.length ≤ z.length ∧ z.length ≤ c by omega), kr (show 4 ≤ (z.drop 8).length ∧ (z.drop 8).length ≤ (c - 8) ∧ 0 < (z.drop 8).length by simp only [List.length_drop]; omega), trivial⟩) fun _ a u hE hS => ?_
 refine wp_seq ?_
 refine rg hE hS [pu] (fun _ => kn [(7, .int .i64 12)] [0, 1, 4, 5]) (fun _ => kN [] [111, 103, 110, 101]) fun _ a u hE hS => ?_
 have hS := stp_row0 hS 1 w.heap.size 192 2
 refine wp_block ?_
 refine loop_k hE hS ((4 * L - 8) / 8) (fun k x => kd [7] [(7, .int .i64 ((12 + 8 * k : Nat) : Int))]) (fun k x => kN [(101, some (.blk g 190 #[.int .u32 (rd32 (z.drop 4) 0), .int .u32 (rd32 (z.drop 8) 0), .slice x.p.a x.n x.p.c])), (1, some (.row w.heap.size 192 2 (.slice x.p.a x.n x.p.c) x.n x.xs))] [103, 110]) (fun k (x : Lx Unit) => x.n = k ∧ x.xs = (parts4 entB 8 k ((z.drop 4).drop 8)).flatMap Ent.cells) ⟨pay0, 0, [], ()⟩ (⟨rfl, by simp [parts4]⟩) ?_
 intro k x a u hkk hI hE hS K hK
 obtain ⟨hk1, hk2⟩ := hI
 obtain ⟨xp, xn, xs, _⟩ := x
 simp only at hk1 hk2
 by_cases hlt : k < (4 * L - 8) / 8
 ·skip
  have hk8 : (12 + 8 * k) + 8 ≤ z.length := by omega
  refine wp_seq ?_
  refine rgp hE hS [pu, pu, ld 103, pe (.int .i64 (L : Nat)), pe (.int .i64 ((4 * L : Nat) : Int)), pe (.int .i64 ((4 + 4 * L : Nat) : Int)), pe (.bool true)] (fun _ => kp [(69, .bool true)]) kP0 (fun _ => ⟨kr (ciV (wiV ((L : Nat) : Int) (by omega))), kr (ciV (show IntKind.i64.wrap ((4 : Int) * ((L : Nat) : Int)) = ((4 * L : Nat) : Int) from by rw [wiV _ (by omega)]; omega)), kr (ciV (show IntKind.i64.wrap ((4 : Int) + ((4 * L : Nat) : Int)) = ((4 + 4 * L : Nat) : Int) from by rw [wiV _ (by omega)]; omega)), kr (cbV (dtV (show ((12 + 8 * k : Nat) : Int) < ((4 + 4 * L : Nat) : Int) by omega))), trivial⟩) fun _ a u hE hS => ift hE <| wp_skip ?_
  refine wp_seq ?_
  refine wp_block ?_
  refine rgp hE hS [pu, pu, pu, pe (.int .i64 ((12 + 8 * k + 8 : Nat) : Int)), rsl 110 111, pu] (fun p13 => kp [(8, sv (p13 4).g (p13 4).c ((z.take (12 + 8 * k + 8)).drop (12 + 8 * k)).length (c - (12 + 8 * k)))]) (fun p13 => kP [(111, some (.ry D ((some ⟨(p13 4).g, (p13 4).c, none⟩)) ((z.take (12 + 8 * k + 8)).drop (12 + 8 * k))))]) (fun _ => ⟨kr (ciV (show IntKind.i64.wrap (((12 + 8 * k : Nat) : Int) + (8 : Int)) = ((12 + 8 * k + 8 : Nat) : Int) from by rw [wiV _ (by omega)]; omega)), kr (show (12 + 8 * k) ≤ (12 + 8 * k + 8) ∧ (12 + 8 * k + 8) ≤ z.length ∧ z.length ≤ c by omega), trivial⟩) fun p13 a u hE hS => ?_
  refine dgE hE hS [pu, pu, pu, pu, ld 101, pu, cl cB32 [111] [], pu, ix, rb 111 4, pu, nw 92, ap 1 [92], pu, pu, st 101] kp0 (fun p14 => kP [(101, some (.blk g 190 #[.int .u32 (rd32 (z.drop 4) 0), .int .u32 (rd32 (z.drop 8) 0), .slice (p14 12).a (xn + 1) (p14 12).c])), (1, some (.row w.heap.size 192 2 (.slice (p14 12).a (xn + 1) (p14 12).c) (xn + 1) (xs ++ (entU z (12 + 8 * k)).cells)))]) (fun _ => ⟨kr (show 4 ≤ ((z.take (12 + 8 * k + 8)).drop (12 + 8 * k)).length ∧ ((z.take (12 + 8 * k + 8)).drop (12 + 8 * k)).length ≤ (c - (12 + 8 * k)) ∧ 0 < ((z.take (12 + 8 * k + 8)).drop (12 + 8 * k)).length by simp only [List.length_drop, List.length_take]; omega), kr (show 4 < ((z.take (12 + 8 * k + 8)).drop (12 + 8 * k)).length by simp only [List.length_drop, List.length_take]; omega), kr (show 4 < ((z.take (12 + 8 * k + 8)).drop (12 + 8 * k)).length by simp only [List.length_drop, List.length_take]; omega), kr (show w.heap.size ≤ w.heap.size ∧ (xn + 1) * 8 ≤ 140737488355328 ∧ ∀ u ∈ (entU z (12 + 8 * k)).cells, u.oneCell' = true from ⟨Nat.le_refl _, by omega, by intro u hu; simp [Ent.cells] at hu; rcases hu with rfl | rfl <;> rfl⟩), trivial⟩) fun p14 a u hE hS => ?_
  refine rgE hE hS [pu, pe (.int .i64 ((12 + 8 * (k + 1) : Nat) : Int)), pu] (fun _ => kp [(7, .int .i64 (12 + 8 * (k + 1) : Nat))]) kP0 (fun _ => ⟨kr (ciV (show IntKind.i64.wrap (((12 + 8 * k : Nat) : Int) + (8 : Int)) = ((12 + 8 * (k + 1) : Nat) : Int) from by rw [wiV _ (by omega)]; omega)), trivial⟩) fun _ a u hE hS => ?_
  exact hK ⟨(p14 12), xn + 1, xs ++ (entU z (12 + 8 * k)).cells, ()⟩ a u _ _ hlt ⟨congrArg (· + 1) hk1, by show xs ++ _ = _; rw [hk2, parts4_succ, List.flatMap_append, entU_eq z k]; simp⟩ hE hS (by kernel_rfl)
 ·obtain rfl : k = (4 * L - 8) / 8 := by omega
  refine wp_seq ?_
  refine rgp hE hS [pu, pu, ld 103, pe (.int .i64 (L : Nat)), pe (.int .i64 ((4 * L : Nat) : Int)), pe (.int .i64 ((4 + 4 * L : Nat) : Int)), pe (.bool false)] (fun _ => kp [(69, .bool false)]) kP0 (fun _ => ⟨kr (ciV (wiV ((L : Nat) : Int) (by omega))), kr (ciV (show IntKind.i64.wrap ((4 : Int) * ((L : Nat) : Int)) = ((4 * L : Nat) : Int) from by rw [wiV _ (by omega)]; omega)), kr (ciV (show IntKind.i64.wrap ((4 : Int) + ((4 * L : Nat) : Int)) = ((4 + 4 * L : Nat) : Int) from by rw [wiV _ (by omega)]; omega)), kr (cbV (dfV (show ¬ (((12 + 8 * ((4 * L - 8) / 8) : Nat) : Int) < ((4 + 4 * L : Nat) : Int)) by omega))), trivial⟩) fun _ a u hE hS => iff hE ?_
  refine wp_exit ?_
  refine rg hE hS [pu] kp0 kP0 fun _ a u hE hS => ?_
  refine wp_ret ?_
  subst hk1
  have hrow := pcR (base := w.heap.size) (e := 192) (size := 2) (v := .slice xp.a ((4 * L - 8) / 8) xp.c) (n := (4 * L - 8) / 8) (xs := xs) hS 1
  exact ret1 hE Tryz.results167 .nilIface ⟨rfl, hS.grownBy (some g) (fun _ e => by rw [e]), xp.a, xp.c, pcB hS 101, by rw [← hk2]; exact InRows.of_own hrow⟩

end Go.Proofs.YtmmfpgoodfgkbaaGreatDoor
