/-
  THE LAW on the sources of raw packets, walked. Condition: the contract of the reference's reading, and what follows from it.
-/
import Derived.Test.YtmmfpgoodfgkbaaGreatDoorMUnm
import Derived.Test.YtmmfpgoodfgkbaaGreatDoorMDst
namespace Go.Proofs.YtmmfpgoodfgkbaaGreatDoor
open Go Go.RowKit
set_option maxHeartbeats 4000000
set_option maxRecDepth 100000
set_option linter.unusedVariables false
set_option linter.unusedSimpArgs false

theorem Pkt.Lies.moreD {p : Pkt} {w : World} {B B' : Nat} (h : p.Lies w B) (hB : B ≤ B') : p.Lies w B' :=
 ⟨Reads.more h.reports hB, Reads.more h.ext hB, Reads.more h.chunks hB, fun x hx => Reads.more (h.items x hx) hB, Reads.more h.sources hB, Reads.more h.data hB, Reads.more h.pairs hB, Reads.more h.slices hB, Reads.more h.entries hB, Reads.more h.blocks hB, fun x hx => Reads.more (h.mets x hx) hB, Reads.more h.stats hB, fun x hx => Reads.more (h.lists x hx) hB, Reads.more h.deltas hB⟩
def DestOk (z : List Int) : Prop :=
 ∃ (ds : List Int) (R : Pkt → Prop), ds.length ≤ 1048576 ∧ 0 < z.length ∧ FacP z R ∧ PrsP z ds ∧ ∀ q, R q → ∀ w, q.Lies w w.heap.size → Calls Tryz.prog 22 #[.agg q.cells] w (BuiltD w ds)
def ckV0 (R : Pkt → Prop) (x : Pay) : Ck := ⟨fun _ => False, fun _ => (x.c : Int) - (x.g : Int) = 0 → R (dP x.v), fun _ _ _ h => h⟩
section
variable {w0 : World}
theorem cu_ron {A : Option Addr} {c n : Nat} {R : Pkt → Prop} {ps : List (Option Pc)} (k : Nat) (hs : ∀ w', Below w0.heap.size w0 w' → Calls Tryz.prog 10 #[.slice A n c] w' (RoneOut w' R)) (L : PL) (w : World)
  (_ : ps = ([] ++ [k]).map (lookP L)) (hS : Stp (fun _ => False) w0 w (restr ([] ++ [k]) (lookM (den (fun _ => False) w0 L)))) :
  Calls Tryz.prog 10 #[.slice A n c] w fun e w' => ∃ x : Pay, e = .returned (.tuple #[.agg (dP x.v).cells, .int .i64 ((x.c : Int) - (x.g : Int))]) ∧ Stp (blksOf (lookM (den (fun _ => False) w0 L)) [k]) w w' (lookM (den (fun _ => False) w0 (zipW [k] [some (.ck (ckV0 R x))]))) := by
 refine (hs w hS.below).mono ?_
 rintro e w' (⟨cs, v, rfl, hv, rfl, hB⟩ | ⟨q, rfl, hR, hL, hB⟩)
 ·refine ⟨⟨(-v).toNat, v.toNat, vP pNul, none⟩, ?_, stp_make (c' := .ck (ckV0 R ⟨(-v).toNat, v.toNat, vP pNul, none⟩)) hB (fun h => ?_) fun y hy => hy.elim⟩
  ·have e : ((v.toNat : Nat) : Int) - (((-v).toNat : Nat) : Int) = v := by omega
   show Ending.returned (.tuple #[.agg pNul.cells, .int .i64 v]) = Ending.returned (.tuple #[.agg (dP (vP pNul)).cells, .int .i64 (((v.toNat : Nat) : Int) - (((-v).toNat : Nat) : Int))])
   rw [e, dP_v]
  ·have h : ((v.toNat : Nat) : Int) - (((-v).toNat : Nat) : Int) = 0 := h
   omega
 ·refine ⟨⟨0, 0, vP q, none⟩, ?_, stp_make (c' := .ck (ckV0 R ⟨0, 0, vP q, none⟩)) hB (fun _ => ?_) fun y hy => hy.elim⟩
  ·show Ending.returned (.tuple #[.agg q.cells, .int .i64 0]) = Ending.returned (.tuple #[.agg (dP (vP q)).cells, .int .i64 (((0 : Nat) : Int) - ((0 : Nat) : Int))])
   rw [dP_v]; rfl
  ·show R (dP (vP q)); rw [dP_v]; exact hR
theorem cu_unmD {A : Option Addr} {c : Nat} {z : List Int} {R : Pkt → Prop} {ps : List (Option Pc)} (k : Nat) (hz : 0 < z.length) (hz2 : z.length ≤ 262144) (hby : Byts z) (hF : FacP z R) (hr : Reads w0 w0.heap.size 1 A z.length (u8s z)) (L : PL) (w : World)
  (_ : ps = ([] ++ [k]).map (lookP L)) (hS : Stp (fun _ => False) w0 w (restr ([] ++ [k]) (lookM (den (fun _ => False) w0 L)))) :
  Calls Tryz.prog 11 #[.slice A z.length c] w fun e w' => ∃ x : Pay, e = .returned (.tuple #[.slice x.a (0 + 1) x.c, .bool true]) ∧ Stp (blksOf (lookM (den (fun _ => False) w0 L)) [k]) w w' (lookM (den (fun _ => False) w0 (zipW [k] [some (.ck (ckQL R x))]))) := by
 refine (unmarshal_any A c z R hz hz2 hby hF w ((hr.below hS.below).more hS.size)).mono ?_
 rintro e w' ⟨A2, c2, q, rfl, hrow, hq, hR, hB⟩
 exact ⟨⟨w.heap.size, c2, .iface w'.heap.size (vP q), A2⟩, rfl, stp_make (c' := .ck (ckQL R ⟨w.heap.size, c2, .iface w'.heap.size (vP q), A2⟩)) hB ⟨by show InRows w' w.heap.size w'.heap.size 30 A2 (0 + 1) (dP (vP q)).cells.toList; rw [dP_v]; exact hrow, by show (dP (vP q)).NewX w' w.heap.size w'.heap.size; rw [dP_v]; exact hq, by show R (dP (vP q)); rw [dP_v]; exact hR⟩ fun y hy => ⟨hy.2, hy.1⟩⟩
theorem cu_rawD {A : Option Addr} {c : Nat} {z ds : List Int} {ps : List (Option Pc)} (k : Nat) (hz : 0 < z.length) (hz2 : z.length ≤ 262144) (hP : PrsP z ds) (hr : Reads w0 w0.heap.size 1 A z.length (u8s z)) (L : PL) (w : World)
  (_ : ps = ([] ++ [k]).map (lookP L)) (hS : Stp (fun _ => False) w0 w (restr ([] ++ [k]) (lookM (den (fun _ => False) w0 L)))) :
  Calls Tryz.prog 12 #[.slice A z.length c] w fun e w' => ∃ x : Pay, e = .returned (.tuple #[.slice x.a ds.length x.c, .bool true]) ∧ Stp (blksOf (lookM (den (fun _ => False) w0 L)) [k]) w w' (lookM (den (fun _ => False) w0 (zipW [k] [some (.ck (ck32 x.a ds.length (ds.flatMap u32c)))]))) := by
 refine (rawD_any A c z ds hz hz2 hP w ((hr.below hS.below).more hS.size)).mono ?_
 rintro e w' ⟨A2, m, c2, rfl, hrow, hB⟩
 have hm : m = ds.length := by have h1 := hrow.1; rw [u32c_len] at h1; omega
 subst hm
 exact ⟨⟨0, c2, undef, A2⟩, rfl, stp_32 hB hrow⟩
theorem cu_dstD {q : Pkt} {ds : List Int} {ps : List (Option Pc)} (k : Nat) (hn : ds.length ≤ 1048576) (hb : ∀ w', Below w0.heap.size w0 w' → Calls Tryz.prog 22 #[.agg q.cells] w' (BuiltD w' ds)) (L : PL) (w : World)
  (_ : ps = ([] ++ [k]).map (lookP L)) (hS : Stp (fun _ => False) w0 w (restr ([] ++ [k]) (lookM (den (fun _ => False) w0 L)))) :
  Calls Tryz.prog 13 #[.agg q.cells] w fun e w' => ∃ x : Pay, e = .returned (.slice x.a ds.length x.c) ∧ Stp (blksOf (lookM (den (fun _ => False) w0 L)) [k]) w w' (lookM (den (fun _ => False) w0 (zipW [k] [some (.ck (ck32 x.a ds.length (ds.flatMap u32c)))]))) := by
 refine (dstD_any q ds hn w fun w' hw' => hb w' (hS.below.trans (hw'.mono hS.size))).mono ?_
 rintro e w' ⟨A2, m, c2, rfl, hrow, hB⟩
 have hm : m = ds.length := by have h1 := hrow.1; rw [u32c_len] at h1; omega
 subst hm
 exact ⟨⟨0, c2, undef, A2⟩, rfl, stp_32 hB hrow⟩
end
theorem lawD_big (A : Option Addr) (c0 : Nat) (z : List Int) (w : World) (hz : 131072 < z.length) :
  Calls Tryz.prog 4 #[.slice A (z.length : Nat) c0] w fun e w' => e = .returned (.bool true) ∧ Below w.heap.size w w' := by
 refine go_in Tryz.func4 rfl Tryz.ntmps4 [.slice A (z.length : Nat) c0] fun a hE => ?_
 have hS := stp_in w
 refine rg hE hS [pu] (fun _ => kp [(2, .bool false)]) kP0 fun _ a u hE hS => ?_
 refine wp_seq ?_
 by_cases h1 : 2147483647 < z.length
 ·skip
  refine rgp hE hS [pu, pu, pe (.bool true)] (fun _ => kp [(13, .bool true)]) kP0 (fun _ => ⟨kr (cbV (dtV (show ((z.length : Nat) : Int) > 2147483647 by omega))), trivial⟩) fun _ a u hE hS => ift hE ?_
  refine rg hE hS [pu] (fun _ => kp [(2, .bool true)]) kP0 fun _ a u hE hS => ?_
  refine wp_ret (thR ?_)
  exact ret1 hE Tryz.results4 (.bool true) ⟨rfl, hS.below⟩
 refine rgp hE hS [pu, pu, pe (.bool false)] (fun _ => kp [(13, .bool false)]) kP0 (fun _ => ⟨kr (cbV (dfV (show ¬ (((z.length : Nat) : Int) > 2147483647) by omega))), trivial⟩) fun _ a u hE hS => iff hE <| wp_skip ?_
 refine wp_seq ?_
 refine rgp hE hS [pu, pu, pe (.bool true)] (fun _ => kp [(16, .bool true)]) kP0 (fun _ => ⟨kr (cbV (dtV (show ((z.length : Nat) : Int) > 131072 by omega))), trivial⟩) fun _ a u hE hS => ift hE ?_
 refine rg hE hS [pu] (fun _ => kp [(2, .bool true)]) kP0 fun _ a u hE hS => ?_
 refine wp_ret (thR ?_)
 exact ret1 hE Tryz.results4 (.bool true) ⟨rfl, hS.below⟩
theorem lawD_any (R0 : Pkt → Prop) (A : Option Addr) (c0 : Nat) (z : List Int) (w : World) (hr : Reads w w.heap.size 1 A z.length (u8s z)) (hz2 : z.length ≤ 131072) (hby : Byts z) (hs : ∀ w', Below w.heap.size w w' → Calls Tryz.prog 10 #[.slice A z.length c0] w' (RoneOut w' R0)) (hR : ∀ q, R0 q → q.kind = 0 ∨ DestOk z) :
  Calls Tryz.prog 4 #[.slice A (z.length : Nat) c0] w fun e w' => e = .returned (.bool true) ∧ Below w.heap.size w w' := by
 refine go_in Tryz.func4 rfl Tryz.ntmps4 [.slice A (z.length : Nat) c0] fun a hE => ?_
 have hS := stp_in w
 refine rg hE hS [pu] (fun _ => kp [(2, .bool false)]) kP0 fun _ a u hE hS => ?_
 refine wp_seq ?_
 refine rgp hE hS [pu, pu, pe (.bool false)] (fun _ => kp [(13, .bool false)]) kP0 (fun _ => ⟨kr (cbV (dfV (show ¬ (((z.length : Nat) : Int) > 2147483647) by omega))), trivial⟩) fun _ a u hE hS => iff hE <| wp_skip ?_
 refine wp_seq ?_
 refine rgp hE hS [pu, pu, pe (.bool false)] (fun _ => kp [(16, .bool false)]) kP0 (fun _ => ⟨kr (cbV (dfV (show ¬ (((z.length : Nat) : Int) > 131072) by omega))), trivial⟩) fun _ a u hE hS => iff hE <| wp_skip ?_
 refine rgp hE hS [pu, cu 10 [] [96] (fun y => .tuple #[.agg (dP y.v).cells, .int .i64 ((y.c : Int) - (y.g : Int))]) (fun y => [some (.ck (ckV0 R0 y))]), pu, pu, pu, nw 103, st 103, pu] (fun p4 => kp [(3, pt (p4 5).g 0), (4, .int .i64 (((p4 1).c : Int) - ((p4 1).g : Int)))]) (fun p4 => kP [(96, some (.ck (ckV0 R0 (p4 1)))), (103, some (.blk (p4 5).g 38 ((dP (p4 1).v).cells)))]) (fun _ => ⟨kr (cu_ron (w0 := w) (ps := [none]) (R := R0) 96 hs), trivial⟩) fun p4 a u hE hS => ?_
 refine wp_seq ?_
 by_cases hv : ¬ (((p4 1).c : Int) - ((p4 1).g : Int)) = 0
 ·skip
  refine rgp hE hS [pu, pe (.bool true), pu, sk, sk, sk, pu] (fun _ => kp [(28, .bool true)]) kP0 (fun _ => ⟨kr (cbV (bne_iff_ne.2 (show (((p4 1).c : Int) - ((p4 1).g : Int)) ≠ 0 from hv))), trivial⟩) fun _ a u hE hS => ift hE ?_
  refine rg hE hS [pu] (fun _ => kp [(2, .bool true)]) kP0 fun _ a u hE hS => ?_
  refine wp_ret (thR ?_)
  exact ret1 hE Tryz.results4 (.bool true) ⟨rfl, hS.below⟩
 replace hv := Classical.not_not.1 hv
 by_cases hk : (dP (p4 1).v).kind = 0
 ·skip
  refine rgp hE hS [pu, pe (.bool false), pu, pu, ld 103, pe (.bool true), pu] (fun _ => kp [(28, .bool true)]) kP0 (fun _ => ⟨kr (cbV (show ((((p4 1).c : Int) - ((p4 1).g : Int)) != 0) = false by rw [hv]; rfl)), kr (cbV (beq_iff_eq.2 hk)), trivial⟩) fun _ a u hE hS => ift hE ?_
  refine rg hE hS [pu] (fun _ => kp [(2, .bool true)]) kP0 fun _ a u hE hS => ?_
  refine wp_ret (thR ?_)
  exact ret1 hE Tryz.results4 (.bool true) ⟨rfl, hS.below⟩
 obtain ⟨ds, R, hn, hz0, hF, hP, hD⟩ := (hR _ (hS.ok 96 (ckV0 R0 (p4 1)) (by kernel_rfl) hv)).resolve_left hk
 refine rgp hE hS [pu, pe (.bool false), pu, pu, ld 103, pe (.bool false), pu] (fun _ => kp [(28, .bool false)]) kP0 (fun _ => ⟨kr (cbV (show ((((p4 1).c : Int) - ((p4 1).g : Int)) != 0) = false by rw [hv]; rfl)), kr (cbV (beq_eq_false_iff_ne.2 hk)), trivial⟩) fun _ a u hE hS => iff hE <| wp_skip ?_
 refine rgp hE hS [pu, cu 11 [] [94] (fun y => .tuple #[.slice y.a (0 + 1) y.c, .bool true]) (fun y => [some (.ck (ckQL R y))]), pu, pu, pu, pu, pu] (fun p10 => kp [(5, .slice (p10 1).a (0 + 1) (p10 1).c), (6, .bool true)]) (fun p10 => kP [(94, some (.ck (ckQL R (p10 1))))]) (fun _ => ⟨kr (cu_unmD (w0 := w) (c := c0) (ps := [none]) (R := R) 94 hz0 (by omega) hby hF hr), trivial⟩) fun p10 a u hE hS => ?_
 refine rgp hE hS [pu, cu 12 [] [93] (fun y => .tuple #[.slice y.a ds.length y.c, .bool true]) (fun y => [some (.ck (ck32 y.a ds.length (ds.flatMap u32c)))]), pu, pu, pu, pu, pu] (fun p11 => kp [(7, .slice (p11 1).a ds.length (p11 1).c), (8, .bool true)]) (fun p11 => kP [(93, some (.ck (ck32 (p11 1).a ds.length (ds.flatMap u32c))))]) (fun _ => ⟨kr (cu_rawD (w0 := w) (c := c0) (ps := [none]) (ds := ds) 93 hz0 (by omega) hP hr), trivial⟩) fun p11 a u hE hS => ?_
 refine wp_seq ?_
 refine rg hE hS [pu, pu, pu, pu, pu, pu, pu, pu, pu, pu, pu] (fun _ => kp [(49, .bool false)]) kP0 fun _ a u hE hS => iff hE <| wp_skip ?_
 have hq := hS.ok 94 (ckQL R (p10 1)) (by kernel_rfl)
 have hlt := hS.lt 94 (ckQL R (p10 1)) (by kernel_rfl)
 have hraw : Reads u u.heap.size 1 (p11 1).a ds.length (ds.flatMap u32c) := (in_of32 hS 93).reads
 have hB1 := hS.below
 have hLq := hq.2.1.liesH fun g hg => (hlt g hg).1
 have hRq := hq.2.2
 have hrow : Reads u u.heap.size 30 (p10 1).a (0 + 1) (dP (ifv (p10 1).v)).cells.toList := hq.1.readsH fun g hg => (hlt g hg).1
 clear hq hlt
 obtain ⟨q, hqe⟩ : ∃ q, dP (ifv (p10 1).v) = q := ⟨_, rfl⟩
 rw [hqe] at hLq hRq hrow
 obtain ⟨w1, rfl⟩ : ∃ w1 : World, w1 = u := ⟨_, rfl⟩
 have hrl : Reads w1 w1.heap.size 30 (p10 1).a (0 + 1) (([q] : List Pkt).flatMap fun p => p.cells.toList) := hrow
 have hS := stp_in w1
 have hS := stp_el hS 90 (el_at (l := ([q] : List Pkt)) (f := fun p : Pkt => p.cells.toList) hrl (fun _ _ => rfl) rfl (fun g hg => ⟨hg, id⟩) 0 Nat.zero_lt_one (by omega))
 refine rgp hE hS [pu, ie 90, le 90 0, cu 13 [] [95] (fun y => .slice y.a ds.length y.c) (fun y => [some (.ck (ck32 y.a ds.length (ds.flatMap u32c)))]), pu] (fun p13 => kn [(9, .slice (p13 3).a ds.length (p13 3).c)] [2, 7]) (fun p13 => kN [(95, some (.ck (ck32 (p13 3).a ds.length (ds.flatMap u32c))))] []) (fun _ => ⟨kr (show 0 < 0 + 1 by omega), kr (cu_dstD (w0 := w1) (ps := [none]) (ds := ds) (q := q) 95 hn (fun w' hw' => hD q hRq w' ((hLq.below hw').moreD hw'.size))), trivial⟩) fun p13 a u hE hS => ?_
 refine wp_seq ?_
 refine rgp hE hS [pu, pu, pu, pu, pe (.bool false)] (fun _ => kp [(58, .bool false)]) kP0 (fun _ => ⟨kr (cbV (show (((ds.length : Nat) : Int) != ((ds.length : Nat) : Int)) = false by simp)), trivial⟩) fun _ a u hE hS => iff hE <| wp_skip ?_
 refine wp_seq ?_
 have hdst : Reads u u.heap.size 1 (p13 3).a ds.length (ds.flatMap u32c) := (in_of32 hS 95).reads
 have hB2 := hS.below
 have hraw2 := (hraw.below hB2).more hB2.size
 obtain ⟨w2, rfl⟩ : ∃ w2 : World, w2 = u := ⟨_, rfl⟩
 have hS := stp_in w2
 refine rg hE hS [pu, pu, pu] (fun _ => kn [(60, .int .i64 (ds.length : Nat)), (61, .int .i64 0)] [2, 7, 9]) (fun _ => kN [] []) fun _ a u hE hS => ?_
 refine range_up hE hS 61 ds.length (fun _ _ => kd [61, 62, 73] []) (fun _ x => kP []) (fun k (x : Unit) => True) () (by omega) (trivial) (fun k x a u hk hI hE hS K hK RK hRK => ?_) fun _ a u hI hE hS => ?_
 ·obtain hk1 := hI
  have hS := stp_el hS 90 (el_at hraw2 (fun _ _ => rfl) rfl (fun g hg => ⟨hg, id⟩) k hk (by omega))
  have hS := stp_el hS 91 (el_at hdst (fun _ _ => rfl) rfl (fun g hg => ⟨hg, id⟩) k hk (by omega))
  generalize hrk : ds[k] = r at hS
  refine rg hE hS [pu, pu] (fun _ => kp [(10, .int .i64 (k : Nat))]) kP0 fun _ a u hE hS => ?_
  refine dgp hE hS [pu, pu, ie 90, le 90 0, pu, pu, ie 91, le 91 0, pe (.bool false)] (fun _ => kp [(72, .bool false)]) kP0 (fun _ => ⟨kr (show k < ds.length from hk), kr (show k < ds.length from hk), kr (cbV (show (r != r) = false by simp)), trivial⟩) fun _ a u hE hS => iff hE <| wp_skip ?_
  exact hK () a u _ _ trivial hE hS (by kernel_rfl)
 refine rg hE hS [pu] (fun _ => kp [(2, .bool true)]) kP0 fun _ a u hE hS => ?_
 refine wp_ret ?_
 exact ret1 hE Tryz.results4 (.bool true) ⟨rfl, hB1.trans ((hB2.trans (hS.below.mono hB2.size)).mono hB1.size)⟩
end Go.Proofs.YtmmfpgoodfgkbaaGreatDoor
