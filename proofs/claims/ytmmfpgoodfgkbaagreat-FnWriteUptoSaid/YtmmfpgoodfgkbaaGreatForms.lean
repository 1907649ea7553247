/-
  THE WALK of the reference's body of a packet. Condition: the kind; the numbers fit their kinds; fewer than 2^31 parts.
-/
import Derived.Test.YtmmfpgoodfgkbaaGreatCtRep
namespace Go.Proofs.YtmmfpgoodfgkbaaGreat
open Go Go.RowKit
set_option linter.unusedVariables false

theorem fl_len {α : Type} (l : List α) (f : α → List Int) (n : Nat) (h : ∀ x, (f x).length = n) : (l.flatMap f).length = n * l.length := by
  induction l with
  | nil => rfl
  | cons x l ih => rw [List.flatMap_cons, List.length_append, ih, h, List.length_cons, Nat.mul_succ]; omega
set_option maxHeartbeats 4000000 in
set_option maxRecDepth 100000 in
theorem form_1 (p : Pkt) (w : World) (hk : p.kind = 1) (hs0 : 0 ≤ p.sender) (hs1 : p.sender < 4294967296) (hm0 : 0 ≤ p.media) (hm1 : p.media < 4294967296) (hr : p.reports.Lies w w.heap.size 7 Rep.cells) (hn : p.reports.l.length ≤ 2147483647) (hl : ∀ x ∈ p.reports.l, x.Ok) (hre : p.ext.Lies w w.heap.size 1 u8c) (hne : p.ext.l.length ≤ 2147483647) (hn0 : 0 ≤ p.ntp) (hn1 : p.ntp < 18446744073709551616) (hr0 : 0 ≤ p.rtp ∧ p.rtp < 4294967296) (hp0 : 0 ≤ p.packets ∧ p.packets < 4294967296) (ho0 : 0 ≤ p.octets ∧ p.octets < 4294967296) :
    Calls Tryz.prog 52 #[.agg p.cells] w (Formed w ((p.reports.l.length : Nat) % 32) 200 (be32 p.sender ++ be32 (p.ntp / 4294967296) ++ be32 (p.ntp % 4294967296) ++ be32 p.rtp ++ be32 p.packets ++ be32 p.octets ++ repsB p.reports.l ++ p.ext.l) ((decide (((p.reports.l.length : Nat) : Int) ≤ 31) && p.reports.l.all repOk) && (((p.ext.l.length : Nat) : Int).tmod 4 == 0))) := by
  generalize hd0 : decide (((p.reports.l.length : Nat) : Int) ≤ 31) = d0
  generalize hd1 : (((p.ext.l.length : Nat) : Int).tmod 4 == 0) = d1
  have hlies := hr
  clear hr
  have hrx : Reads w w.heap.size 1 p.ext.A p.ext.l.length (u8s p.ext.l) := by have := hre; unfold Sl.Lies at this; rwa [u8c_flat] at this
  have hw1 : IntKind.u32.wrap (p.ntp.fdiv 4294967296) = p.ntp / 4294967296 := by rw [IntKind.wrap_u32, Int.fdiv_eq_ediv_of_nonneg _ (by omega)]; omega
  have hw2 : IntKind.u32.wrap p.ntp = p.ntp % 4294967296 := IntKind.wrap_u32 _
  refine go_in Tryz.func52 rfl Tryz.ntmps52 [.agg p.cells] fun a hE => ?_
  have hS := stp_in w
  refine rg hE hS [nw 1, nw 2, pu, nw 3] (fun p1 => kp [(1, pt (p1 0).g 0), (2, pt (p1 1).g 0), (3, .slice none 0 0), (4, pt (p1 3).g 0)]) (fun p1 => kP [(1, some (.blk (p1 0).g 38 p.cells)), (2, some (.blk (p1 1).g 36 #[.bool false, .int .u8 0, .int .u8 0, .int .u16 0])), (3, some (.blk (p1 3).g 4 #[.bool false]))]) fun p1 a u hE hS => ?_
  refine rg hE hS [st 3] (fun _ => kp []) (fun _ => kP [(3, some (.blk (p1 3).g 4 #[.bool true]))]) fun _ a u hE hS => ?_
  refine dgp hE hS [nw 4, pu, ov (ld 1) (.int .i64 1), ix, ld 4, nw 5, pu, ov (ld 1) (.int .i64 1), ix, ld 5, pu, st 2] (fun _ => kp []) (fun _ => kP [(2, some (.blk (p1 1).g 36 #[.bool false, .int .u8 0, .int .u8 200, .int .u16 0]))]) (fun _ => ⟨fun _ => kr (congrArg (Value.int .i64) hk), kr (show 1 < 14 by omega), fun _ => kr (congrArg (Value.int .i64) hk), kr (show 1 < 14 by omega), trivial⟩) fun _ a u hE hS => ?_
  refine rg hE hS [pu, pu] (fun _ => kp [(5, .func (.func 72) #[] #[pt (p1 3).g 0, pt (p1 1).g 0])]) (fun _ => kP []) fun _ a u hE hS => ?_
  have hS := stp_bytes0 hS 21 w.heap.size
  have hS := stp_bytes0 hS 20 w.heap.size
  refine dgp hE hS [pu, ld 1, cl p32c [] [20], pu, ld 1, cl p32c [] [20], pu] (fun p5 => kp [(6, .slice (p5 5).a (be32 p.sender ++ be32 p.media).length (p5 5).c)]) (fun p5 => kP [(20, some (.bytes w.heap.size (.slice (p5 5).a (be32 p.sender ++ be32 p.media).length (p5 5).c) (be32 p.sender ++ be32 p.media)))]) (fun _ => ⟨kr (show w.heap.size ≤ w.heap.size ∧ 0 ≤ 70368744177000 ∧ 0 ≤ p.sender ∧ p.sender < 4294967296 from ⟨Nat.le_refl _, by simp, hs0, hs1⟩), kr (show w.heap.size ≤ w.heap.size ∧ (be32 p.sender).length ≤ 70368744177000 ∧ 0 ≤ p.media ∧ p.media < 4294967296 from ⟨Nat.le_refl _, by simp [be32_len], hm0, hm1⟩), trivial⟩) fun p5 a u hE hS => ?_
  refine wp_seq ?_
  refine rgp hE hS [pu, ov (ld 1) (.int .i64 1)] (fun _ => kp [(51, .int .i64 1)]) (fun _ => kP []) (fun _ => ⟨fun _ => kr (congrArg (Value.int .i64) hk), trivial⟩) fun _ a u hE hS => ?_
  refine wp_block ?_
  refine wp_seq ?_
  refine rg hE hS [pu, pu] (fun _ => kp [(52, .bool true)]) (fun _ => kP []) fun _ a u hE hS => ?_
  refine ift hE ?_
  refine wp_skip ?_
  refine ift hE ?_
  refine rgp hE hS [pu, ld 1, cl p32c [] [21], pu] (fun p8 => kp [(3, .slice (p8 2).a (be32 p.sender).length (p8 2).c)]) (fun p8 => kP [(21, some (.bytes w.heap.size (.slice (p8 2).a (be32 p.sender).length (p8 2).c) (be32 p.sender)))]) (fun _ => ⟨kr (show w.heap.size ≤ w.heap.size ∧ 0 ≤ 70368744177000 ∧ 0 ≤ p.sender ∧ p.sender < 4294967296 from ⟨Nat.le_refl _, by simp, hs0, hs1⟩), trivial⟩) fun p8 a u hE hS => ?_
  refine wp_seq ?_
  refine rgp hE hS [pu, ov (ld 1) (.int .i64 1), pu] (fun _ => kn [(60, .bool true)] [1, 2, 3, 4, 5]) (fun _ => kN [] [21, 1, 2, 3]) (fun _ => ⟨fun _ => kr (congrArg (Value.int .i64) hk), trivial⟩) fun _ a u hE hS => ?_
  refine ift hE ?_
  refine dgE hE hS [pu, pu, ld 1, pu, pe (.int .u32 (p.ntp / 4294967296)), cl p32c [] [21], pu, ld 1, pe (.int .u32 (p.ntp % 4294967296)), cl p32c [] [21], pu, ld 1, cl p32c [] [21], pu, ld 1, cl p32c [] [21], pu, ld 1, cl p32c [] [21], pu] (fun p10 => kp [(3, .slice (p10 18).a (be32 p.sender ++ be32 (p.ntp / 4294967296) ++ be32 (p.ntp % 4294967296) ++ be32 p.rtp ++ be32 p.packets ++ be32 p.octets).length (p10 18).c)]) (fun p10 => kP [(21, some (.bytes w.heap.size (.slice (p10 18).a (be32 p.sender ++ be32 (p.ntp / 4294967296) ++ be32 (p.ntp % 4294967296) ++ be32 p.rtp ++ be32 p.packets ++ be32 p.octets).length (p10 18).c) (be32 p.sender ++ be32 (p.ntp / 4294967296) ++ be32 (p.ntp % 4294967296) ++ be32 p.rtp ++ be32 p.packets ++ be32 p.octets)))]) (fun _ => ⟨kr (congrArg (Value.int .u32) hw1), kr (show w.heap.size ≤ w.heap.size ∧ (be32 p.sender).length ≤ 70368744177000 ∧ 0 ≤ (p.ntp / 4294967296) ∧ (p.ntp / 4294967296) < 4294967296 from ⟨Nat.le_refl _, by simp [be32_len], by omega, by omega⟩), kr (congrArg (Value.int .u32) hw2), kr (show w.heap.size ≤ w.heap.size ∧ (be32 p.sender ++ be32 (p.ntp / 4294967296)).length ≤ 70368744177000 ∧ 0 ≤ (p.ntp % 4294967296) ∧ (p.ntp % 4294967296) < 4294967296 from ⟨Nat.le_refl _, by simp [be32_len], by omega, by omega⟩), kr (show w.heap.size ≤ w.heap.size ∧ (be32 p.sender ++ be32 (p.ntp / 4294967296) ++ be32 (p.ntp % 4294967296)).length ≤ 70368744177000 ∧ 0 ≤ p.rtp ∧ p.rtp < 4294967296 from ⟨Nat.le_refl _, by simp [be32_len], hr0.1, hr0.2⟩), kr (show w.heap.size ≤ w.heap.size ∧ (be32 p.sender ++ be32 (p.ntp / 4294967296) ++ be32 (p.ntp % 4294967296) ++ be32 p.rtp).length ≤ 70368744177000 ∧ 0 ≤ p.packets ∧ p.packets < 4294967296 from ⟨Nat.le_refl _, by simp [be32_len], hp0.1, hp0.2⟩), kr (show w.heap.size ≤ w.heap.size ∧ (be32 p.sender ++ be32 (p.ntp / 4294967296) ++ be32 (p.ntp % 4294967296) ++ be32 p.rtp ++ be32 p.packets).length ≤ 70368744177000 ∧ 0 ≤ p.octets ∧ p.octets < 4294967296 from ⟨Nat.le_refl _, by simp [be32_len], ho0.1, ho0.2⟩), trivial⟩) fun p10 a u hE hS => ?_
  refine rgp hE hS [pu, pu, ld 1, pu, cl countc [] [3, 2]] (fun _ => kp []) (fun _ => kP [(3, some (.blk (p1 3).g 4 #[.bool (decide (((p.reports.l.length : Nat) : Int) ≤ 31))])), (2, some (.blk (p1 1).g 36 #[.bool false, .int .u8 (((p.reports.l.length : Nat) : Int) % 32), .int .u8 200, .int .u16 0]))]) (fun _ => ⟨kr (show 0 ≤ ((p.reports.l.length : Nat) : Int) from by omega), trivial⟩) fun _ a u hE hS => ?_
  rw [hd0] at hS
  refine wp_seq ?_
  refine rg hE hS [pu, ld 1, pu, pu] (fun _ => kn [(86, .slice p.reports.A (p.reports.l.length : Nat) p.reports.c), (87, .int .i64 (p.reports.l.length : Nat)), (88, .int .i64 0)] [1, 2, 3, 4]) (fun _ => kN [] [3, 2, 21, 1]) fun _ a u hE hS => ?_
  refine range_up hE hS 88 p.reports.l.length (fun _ x => kd [88, 89, 104] [(3, .slice x.p.a x.y.1.length x.p.c)]) (fun _ x => kP [(21, some (.bytes w.heap.size (.slice x.p.a x.y.1.length x.p.c) x.y.1)), (3, some (.blk (p1 3).g 4 #[.bool x.y.2]))]) (fun k (x : Lx (List Int × Bool)) => x.y.1 = be32 p.sender ++ be32 (p.ntp / 4294967296) ++ be32 (p.ntp % 4294967296) ++ be32 p.rtp ++ be32 p.packets ++ be32 p.octets ++ (p.reports.l.take k).flatMap repB ∧ x.y.2 = (d0 && (p.reports.l.take k).all repOk)) ⟨⟨0, (p10 18).c, undef, (p10 18).a⟩, 0, [], be32 p.sender ++ be32 (p.ntp / 4294967296) ++ be32 (p.ntp % 4294967296) ++ be32 p.rtp ++ be32 p.packets ++ be32 p.octets, d0⟩ (by omega) (by simp) (fun k x a u hk hI hE hS K hK RK hRK => ?_) fun ⟨qq, _, _, y1, y2⟩ a u hI hE hS => ?_
  · obtain ⟨hk1, hk2⟩ := hI
    obtain ⟨q0, n0, xs0, l0, b0⟩ := x
    simp only at hk1 hk2
    have hr := hl _ (List.getElem_mem hk)
    have hS := stp_el hS 90 (el_at hlies (fun _ _ => rfl) rfl (fun g hg => ⟨hg, id⟩) k hk (by omega))
    generalize hrk : p.reports.l[k] = r at hS hr
    have hxl : l0.length ≤ 70368744170000 := by rw [hk1]; have := repsB_le (p.reports.l.take k); unfold repsB at this; simp only [List.length_take] at this; simp only [List.length_append, be32_len]; omega
    have hrb := repB_le r
    generalize hc1 : repOk r = c1
    refine rgp hE hS [ie 90, le 90 0, nw 91, st 91] (fun p13 => kp [(8, pt (p13 2).g 0)]) (fun p13 => kP [(91, some (.blk (p13 2).g 85 (Rep.cells r).toArray))]) (fun _ => ⟨kr (show k < p.reports.l.length from hk), trivial⟩) fun p13 a u hE hS => ?_
    refine rgp hE hS [ld 91, cl repc [] [94], pu, pu, pu, pu, pu] (fun p14 => kp [(9, .slice (p14 1).a (repB r).length (p14 1).c), (10, .bool (repOk r))]) (fun p14 => kP [(94, some (.bytes 0 (.slice (p14 1).a (repB r).length (p14 1).c) (repB r)))]) (fun _ => ⟨kr (show r.Ok from hr), trivial⟩) fun p14 a u hE hS => ?_
    rw [hc1] at hE
    refine dgE (hchk := by intro p; cases b0 <;> kernel_rfl) (hsep := by cases b0 <;> kernel_rfl) hE hS [pu, pu, ab .bytes 21 94, ld 3, pu, gs (b0) (pu), pu, pu, st 3] (fun p15 => kn [(3, .slice (p15 2).a (l0 ++ repB r).length (p15 2).c)] [1, 2, 4, 86, 87, 88]) (fun p15 => kN [(21, some (.bytes w.heap.size (.slice (p15 2).a (l0 ++ repB r).length (p15 2).c) (l0 ++ repB r))), (3, some (.blk (p1 3).g 4 #[.bool (b0 && c1)]))] [90, 2, 1]) (fun _ => ⟨kr (show w.heap.size ≤ w.heap.size ∧ (l0 ++ repB r).length ≤ 140737488355328 from ⟨Nat.le_refl _, by simp only [List.length_append]; omega⟩), trivial⟩) fun p15 a u hE hS => ?_
    exact hK ⟨(p15 2), 0, [], l0 ++ repB r, (b0 && c1)⟩ a u _ _ ⟨by rw [hk1, List.take_succ_eq_append_getElem hk, List.flatMap_append, hrk]; simp, by rw [hk2, List.take_succ_eq_append_getElem hk, List.all_append, hrk]; simp [hc1, Bool.and_assoc]⟩ hE hS (by kernel_rfl)
  simp only [List.take_length] at hI
  obtain ⟨h1, h2⟩ := hI
  subst h1 h2
  have hS := stp_rd hS 93 hrx (fun g hg => ⟨hg, id⟩)
  have hrl := repsB_le p.reports.l
  unfold repsB at hrl
  generalize hok2 : (d0 && p.reports.l.all repOk) = d2 at hS ⊢
  refine dgE (hchk := by intro p; cases d2 <;> kernel_rfl) (hsep := by cases d2 <;> kernel_rfl) hE hS [pu, pu, ld 1, ab .rd 21 93, ld 3, pu, gs (d2) (pu), gs (d2) (ld 1), gs (d2) (pu), gs (d2) (pu), gs (d2) (pe (.bool d1)), pu, pu, st 3] (fun p16 => kp [(3, .slice (p16 3).a (be32 p.sender ++ be32 (p.ntp / 4294967296) ++ be32 (p.ntp % 4294967296) ++ be32 p.rtp ++ be32 p.packets ++ be32 p.octets ++ p.reports.l.flatMap repB ++ p.ext.l).length (p16 3).c)]) (fun p16 => kP [(21, some (.bytes w.heap.size (.slice (p16 3).a (be32 p.sender ++ be32 (p.ntp / 4294967296) ++ be32 (p.ntp % 4294967296) ++ be32 p.rtp ++ be32 p.packets ++ be32 p.octets ++ p.reports.l.flatMap repB ++ p.ext.l).length (p16 3).c) (be32 p.sender ++ be32 (p.ntp / 4294967296) ++ be32 (p.ntp % 4294967296) ++ be32 p.rtp ++ be32 p.packets ++ be32 p.octets ++ p.reports.l.flatMap repB ++ p.ext.l))), (3, some (.blk (p1 3).g 4 #[.bool (d2 && d1)]))]) (fun _ => ⟨kr (show w.heap.size ≤ w.heap.size ∧ (be32 p.sender ++ be32 (p.ntp / 4294967296) ++ be32 (p.ntp % 4294967296) ++ be32 p.rtp ++ be32 p.packets ++ be32 p.octets ++ p.reports.l.flatMap repB ++ p.ext.l).length ≤ 140737488355328 from ⟨Nat.le_refl _, by simp only [List.length_append, be32_len]; omega⟩), fun hb => by cases hb; exact kr (congrArg Value.bool hd1), trivial⟩) fun p16 a u hE hS => ?_
  refine dgp hE hS [ld 2, pu, ld 3, st 2, pu, st 3] (fun _ => kn [] [2, 3, 4]) (fun _ => kN [] [21, 3, 2]) (fun _ => trivial) fun _ a u hE hS => ?_
  refine wp_ret ?_
  refine retctc hE hS Tryz.results52 2 3 (p1 1).g (p1 3).g 36 4 #[.bool false, .int .u8 (((p.reports.l.length : Nat) : Int) % 32), .int .u8 200, .int .u16 0] #[.bool (d2 && d1)] (.agg #[.bool false, .int .u8 (((p.reports.l.length : Nat) : Int) % 32), .int .u8 200, .int .u16 0]) (.slice (p16 3).a (be32 p.sender ++ be32 (p.ntp / 4294967296) ++ be32 (p.ntp % 4294967296) ++ be32 p.rtp ++ be32 p.packets ++ be32 p.octets ++ p.reports.l.flatMap repB ++ p.ext.l).length (p16 3).c) (.bool (d2 && d1)) ?_
  exact ⟨_, rfl, pcO (base := w.heap.size) hS 21, hS.below⟩
set_option maxHeartbeats 4000000 in
set_option maxRecDepth 100000 in
theorem form_2 (p : Pkt) (w : World) (hk : p.kind = 2) (hs0 : 0 ≤ p.sender) (hs1 : p.sender < 4294967296) (hm0 : 0 ≤ p.media) (hm1 : p.media < 4294967296) (hr : p.reports.Lies w w.heap.size 7 Rep.cells) (hn : p.reports.l.length ≤ 2147483647) (hl : ∀ x ∈ p.reports.l, x.Ok) (hre : p.ext.Lies w w.heap.size 1 u8c) (hne : p.ext.l.length ≤ 2147483647) :
    Calls Tryz.prog 52 #[.agg p.cells] w (Formed w ((p.reports.l.length : Nat) % 32) 201 (be32 p.sender ++ repsB p.reports.l ++ p.ext.l) ((decide (((p.reports.l.length : Nat) : Int) ≤ 31) && p.reports.l.all repOk) && (((p.ext.l.length : Nat) : Int).tmod 4 == 0))) := by
  generalize hd0 : decide (((p.reports.l.length : Nat) : Int) ≤ 31) = d0
  generalize hd1 : (((p.ext.l.length : Nat) : Int).tmod 4 == 0) = d1
  have hlies := hr
  clear hr
  have hrx : Reads w w.heap.size 1 p.ext.A p.ext.l.length (u8s p.ext.l) := by have := hre; unfold Sl.Lies at this; rwa [u8c_flat] at this
  refine go_in Tryz.func52 rfl Tryz.ntmps52 [.agg p.cells] fun a hE => ?_
  have hS := stp_in w
  refine rg hE hS [nw 1, nw 2, pu, nw 3] (fun p1 => kp [(1, pt (p1 0).g 0), (2, pt (p1 1).g 0), (3, .slice none 0 0), (4, pt (p1 3).g 0)]) (fun p1 => kP [(1, some (.blk (p1 0).g 38 p.cells)), (2, some (.blk (p1 1).g 36 #[.bool false, .int .u8 0, .int .u8 0, .int .u16 0])), (3, some (.blk (p1 3).g 4 #[.bool false]))]) fun p1 a u hE hS => ?_
  refine rg hE hS [st 3] (fun _ => kp []) (fun _ => kP [(3, some (.blk (p1 3).g 4 #[.bool true]))]) fun _ a u hE hS => ?_
  refine dgp hE hS [nw 4, pu, ov (ld 1) (.int .i64 2), ix, ld 4, nw 5, pu, ov (ld 1) (.int .i64 2), ix, ld 5, pu, st 2] (fun _ => kp []) (fun _ => kP [(2, some (.blk (p1 1).g 36 #[.bool false, .int .u8 0, .int .u8 201, .int .u16 0]))]) (fun _ => ⟨fun _ => kr (congrArg (Value.int .i64) hk), kr (show 2 < 14 by omega), fun _ => kr (congrArg (Value.int .i64) hk), kr (show 2 < 14 by omega), trivial⟩) fun _ a u hE hS => ?_
  refine rg hE hS [pu, pu] (fun _ => kp [(5, .func (.func 72) #[] #[pt (p1 3).g 0, pt (p1 1).g 0])]) (fun _ => kP []) fun _ a u hE hS => ?_
  have hS := stp_bytes0 hS 21 w.heap.size
  have hS := stp_bytes0 hS 20 w.heap.size
  refine dgp hE hS [pu, ld 1, cl p32c [] [20], pu, ld 1, cl p32c [] [20], pu] (fun p5 => kp [(6, .slice (p5 5).a (be32 p.sender ++ be32 p.media).length (p5 5).c)]) (fun p5 => kP [(20, some (.bytes w.heap.size (.slice (p5 5).a (be32 p.sender ++ be32 p.media).length (p5 5).c) (be32 p.sender ++ be32 p.media)))]) (fun _ => ⟨kr (show w.heap.size ≤ w.heap.size ∧ 0 ≤ 70368744177000 ∧ 0 ≤ p.sender ∧ p.sender < 4294967296 from ⟨Nat.le_refl _, by simp, hs0, hs1⟩), kr (show w.heap.size ≤ w.heap.size ∧ (be32 p.sender).length ≤ 70368744177000 ∧ 0 ≤ p.media ∧ p.media < 4294967296 from ⟨Nat.le_refl _, by simp [be32_len], hm0, hm1⟩), trivial⟩) fun p5 a u hE hS => ?_
  refine wp_seq ?_
  refine rgp hE hS [pu, ov (ld 1) (.int .i64 2)] (fun _ => kp [(51, .int .i64 2)]) (fun _ => kP []) (fun _ => ⟨fun _ => kr (congrArg (Value.int .i64) hk), trivial⟩) fun _ a u hE hS => ?_
  refine wp_block ?_
  refine wp_seq ?_
  refine rg hE hS [pu, pu] (fun _ => kp [(52, .bool false)]) (fun _ => kP []) fun _ a u hE hS => ?_
  refine iff hE ?_
  refine rgE hE hS [pu, pu] (fun _ => kp [(52, .bool true)]) (fun _ => kP []) (fun _ => trivial) fun _ a u hE hS => ?_
  refine ift hE ?_
  refine rgp hE hS [pu, ld 1, cl p32c [] [21], pu] (fun p9 => kp [(3, .slice (p9 2).a (be32 p.sender).length (p9 2).c)]) (fun p9 => kP [(21, some (.bytes w.heap.size (.slice (p9 2).a (be32 p.sender).length (p9 2).c) (be32 p.sender)))]) (fun _ => ⟨kr (show w.heap.size ≤ w.heap.size ∧ 0 ≤ 70368744177000 ∧ 0 ≤ p.sender ∧ p.sender < 4294967296 from ⟨Nat.le_refl _, by simp, hs0, hs1⟩), trivial⟩) fun p9 a u hE hS => ?_
  refine wp_seq ?_
  refine rgp hE hS [pu, ov (ld 1) (.int .i64 2), pu] (fun _ => kn [(60, .bool false)] [1, 2, 3, 4, 5]) (fun _ => kN [] [21, 1, 2, 3]) (fun _ => ⟨fun _ => kr (congrArg (Value.int .i64) hk), trivial⟩) fun _ a u hE hS => ?_
  refine iff hE ?_
  refine wp_skip ?_
  refine rgp hE hS [pu, pu, ld 1, pu, cl countc [] [3, 2]] (fun _ => kp []) (fun _ => kP [(3, some (.blk (p1 3).g 4 #[.bool (decide (((p.reports.l.length : Nat) : Int) ≤ 31))])), (2, some (.blk (p1 1).g 36 #[.bool false, .int .u8 (((p.reports.l.length : Nat) : Int) % 32), .int .u8 201, .int .u16 0]))]) (fun _ => ⟨kr (show 0 ≤ ((p.reports.l.length : Nat) : Int) from by omega), trivial⟩) fun _ a u hE hS => ?_
  rw [hd0] at hS
  refine wp_seq ?_
  refine rg hE hS [pu, ld 1, pu, pu] (fun _ => kn [(86, .slice p.reports.A (p.reports.l.length : Nat) p.reports.c), (87, .int .i64 (p.reports.l.length : Nat)), (88, .int .i64 0)] [1, 2, 3, 4]) (fun _ => kN [] [3, 2, 21, 1]) fun _ a u hE hS => ?_
  refine range_up hE hS 88 p.reports.l.length (fun _ x => kd [88, 89, 104] [(3, .slice x.p.a x.y.1.length x.p.c)]) (fun _ x => kP [(21, some (.bytes w.heap.size (.slice x.p.a x.y.1.length x.p.c) x.y.1)), (3, some (.blk (p1 3).g 4 #[.bool x.y.2]))]) (fun k (x : Lx (List Int × Bool)) => x.y.1 = be32 p.sender ++ (p.reports.l.take k).flatMap repB ∧ x.y.2 = (d0 && (p.reports.l.take k).all repOk)) ⟨⟨0, (p9 2).c, undef, (p9 2).a⟩, 0, [], be32 p.sender, d0⟩ (by omega) (by simp) (fun k x a u hk hI hE hS K hK RK hRK => ?_) fun ⟨qq, _, _, y1, y2⟩ a u hI hE hS => ?_
  · obtain ⟨hk1, hk2⟩ := hI
    obtain ⟨q0, n0, xs0, l0, b0⟩ := x
    simp only at hk1 hk2
    have hr := hl _ (List.getElem_mem hk)
    have hS := stp_el hS 90 (el_at hlies (fun _ _ => rfl) rfl (fun g hg => ⟨hg, id⟩) k hk (by omega))
    generalize hrk : p.reports.l[k] = r at hS hr
    have hxl : l0.length ≤ 70368744170000 := by rw [hk1]; have := repsB_le (p.reports.l.take k); unfold repsB at this; simp only [List.length_take] at this; simp only [List.length_append, be32_len]; omega
    have hrb := repB_le r
    generalize hc1 : repOk r = c1
    refine rgp hE hS [ie 90, le 90 0, nw 91, st 91] (fun p13 => kp [(8, pt (p13 2).g 0)]) (fun p13 => kP [(91, some (.blk (p13 2).g 85 (Rep.cells r).toArray))]) (fun _ => ⟨kr (show k < p.reports.l.length from hk), trivial⟩) fun p13 a u hE hS => ?_
    refine rgp hE hS [ld 91, cl repc [] [94], pu, pu, pu, pu, pu] (fun p14 => kp [(9, .slice (p14 1).a (repB r).length (p14 1).c), (10, .bool (repOk r))]) (fun p14 => kP [(94, some (.bytes 0 (.slice (p14 1).a (repB r).length (p14 1).c) (repB r)))]) (fun _ => ⟨kr (show r.Ok from hr), trivial⟩) fun p14 a u hE hS => ?_
    rw [hc1] at hE
    refine dgE (hchk := by intro p; cases b0 <;> kernel_rfl) (hsep := by cases b0 <;> kernel_rfl) hE hS [pu, pu, ab .bytes 21 94, ld 3, pu, gs (b0) (pu), pu, pu, st 3] (fun p15 => kn [(3, .slice (p15 2).a (l0 ++ repB r).length (p15 2).c)] [1, 2, 4, 86, 87, 88]) (fun p15 => kN [(21, some (.bytes w.heap.size (.slice (p15 2).a (l0 ++ repB r).length (p15 2).c) (l0 ++ repB r))), (3, some (.blk (p1 3).g 4 #[.bool (b0 && c1)]))] [90, 2, 1]) (fun _ => ⟨kr (show w.heap.size ≤ w.heap.size ∧ (l0 ++ repB r).length ≤ 140737488355328 from ⟨Nat.le_refl _, by simp only [List.length_append]; omega⟩), trivial⟩) fun p15 a u hE hS => ?_
    exact hK ⟨(p15 2), 0, [], l0 ++ repB r, (b0 && c1)⟩ a u _ _ ⟨by rw [hk1, List.take_succ_eq_append_getElem hk, List.flatMap_append, hrk]; simp, by rw [hk2, List.take_succ_eq_append_getElem hk, List.all_append, hrk]; simp [hc1, Bool.and_assoc]⟩ hE hS (by kernel_rfl)
  simp only [List.take_length] at hI
  obtain ⟨h1, h2⟩ := hI
  subst h1 h2
  have hS := stp_rd hS 93 hrx (fun g hg => ⟨hg, id⟩)
  have hrl := repsB_le p.reports.l
  unfold repsB at hrl
  generalize hok2 : (d0 && p.reports.l.all repOk) = d2 at hS ⊢
  refine dgE (hchk := by intro p; cases d2 <;> kernel_rfl) (hsep := by cases d2 <;> kernel_rfl) hE hS [pu, pu, ld 1, ab .rd 21 93, ld 3, pu, gs (d2) (pu), gs (d2) (ld 1), gs (d2) (pu), gs (d2) (pu), gs (d2) (pe (.bool d1)), pu, pu, st 3] (fun p16 => kp [(3, .slice (p16 3).a (be32 p.sender ++ p.reports.l.flatMap repB ++ p.ext.l).length (p16 3).c)]) (fun p16 => kP [(21, some (.bytes w.heap.size (.slice (p16 3).a (be32 p.sender ++ p.reports.l.flatMap repB ++ p.ext.l).length (p16 3).c) (be32 p.sender ++ p.reports.l.flatMap repB ++ p.ext.l))), (3, some (.blk (p1 3).g 4 #[.bool (d2 && d1)]))]) (fun _ => ⟨kr (show w.heap.size ≤ w.heap.size ∧ (be32 p.sender ++ p.reports.l.flatMap repB ++ p.ext.l).length ≤ 140737488355328 from ⟨Nat.le_refl _, by simp only [List.length_append, be32_len]; omega⟩), fun hb => by cases hb; exact kr (congrArg Value.bool hd1), trivial⟩) fun p16 a u hE hS => ?_
  refine dgp hE hS [ld 2, pu, ld 3, st 2, pu, st 3] (fun _ => kn [] [2, 3, 4]) (fun _ => kN [] [21, 3, 2]) (fun _ => trivial) fun _ a u hE hS => ?_
  refine wp_ret ?_
  refine retctc hE hS Tryz.results52 2 3 (p1 1).g (p1 3).g 36 4 #[.bool false, .int .u8 (((p.reports.l.length : Nat) : Int) % 32), .int .u8 201, .int .u16 0] #[.bool (d2 && d1)] (.agg #[.bool false, .int .u8 (((p.reports.l.length : Nat) : Int) % 32), .int .u8 201, .int .u16 0]) (.slice (p16 3).a (be32 p.sender ++ p.reports.l.flatMap repB ++ p.ext.l).length (p16 3).c) (.bool (d2 && d1)) ?_
  exact ⟨_, rfl, pcO (base := w.heap.size) hS 21, hS.below⟩
set_option maxHeartbeats 4000000 in
set_option maxRecDepth 100000 in
theorem form_3 (p : Pkt) (w : World) (hk : p.kind = 3) (hs0 : 0 ≤ p.sender) (hs1 : p.sender < 4294967296) (hm0 : 0 ≤ p.media) (hm1 : p.media < 4294967296) (hr : p.chunks.Lies w w.heap.size 2 Chunk.cells) (hn : p.chunks.l.length ≤ 2147483647) (hri : ∀ x ∈ p.chunks.l, x.items.Lies w w.heap.size 2 Item.cells) (hl : ∀ x ∈ p.chunks.l, 0 ≤ x.src ∧ x.src < 4294967296 ∧ x.items.l.length ≤ 2147483647 ∧ ∀ i ∈ x.items.l, i.text.size ≤ 2147483647) (hB : (chunksB p.chunks.l).length ≤ 70368744100000) :
    Calls Tryz.prog 52 #[.agg p.cells] w (Formed w ((p.chunks.l.length : Nat) % 32) 202 (chunksB p.chunks.l) (decide (((p.chunks.l.length : Nat) : Int) ≤ 31) && p.chunks.l.all chunkOk)) := by
  generalize hd0 : decide (((p.chunks.l.length : Nat) : Int) ≤ 31) = d0
  have hlies := hr
  clear hr
  refine go_in Tryz.func52 rfl Tryz.ntmps52 [.agg p.cells] fun a hE => ?_
  have hS := stp_in w
  refine rg hE hS [nw 1, nw 2, pu, nw 3] (fun p1 => kp [(1, pt (p1 0).g 0), (2, pt (p1 1).g 0), (3, .slice none 0 0), (4, pt (p1 3).g 0)]) (fun p1 => kP [(1, some (.blk (p1 0).g 38 p.cells)), (2, some (.blk (p1 1).g 36 #[.bool false, .int .u8 0, .int .u8 0, .int .u16 0])), (3, some (.blk (p1 3).g 4 #[.bool false]))]) fun p1 a u hE hS => ?_
  refine rg hE hS [st 3] (fun _ => kp []) (fun _ => kP [(3, some (.blk (p1 3).g 4 #[.bool true]))]) fun _ a u hE hS => ?_
  refine dgp hE hS [nw 4, pu, ov (ld 1) (.int .i64 3), ix, ld 4, nw 5, pu, ov (ld 1) (.int .i64 3), ix, ld 5, pu, st 2] (fun _ => kp []) (fun _ => kP [(2, some (.blk (p1 1).g 36 #[.bool false, .int .u8 0, .int .u8 202, .int .u16 0]))]) (fun _ => ⟨fun _ => kr (congrArg (Value.int .i64) hk), kr (show 3 < 14 by omega), fun _ => kr (congrArg (Value.int .i64) hk), kr (show 3 < 14 by omega), trivial⟩) fun _ a u hE hS => ?_
  refine rg hE hS [pu, pu] (fun _ => kp [(5, .func (.func 72) #[] #[pt (p1 3).g 0, pt (p1 1).g 0])]) (fun _ => kP []) fun _ a u hE hS => ?_
  have hS := stp_bytes0 hS 21 w.heap.size
  have hS := stp_bytes0 hS 20 w.heap.size
  refine dgp hE hS [pu, ld 1, cl p32c [] [20], pu, ld 1, cl p32c [] [20], pu] (fun p5 => kp [(6, .slice (p5 5).a (be32 p.sender ++ be32 p.media).length (p5 5).c)]) (fun p5 => kP [(20, some (.bytes w.heap.size (.slice (p5 5).a (be32 p.sender ++ be32 p.media).length (p5 5).c) (be32 p.sender ++ be32 p.media)))]) (fun _ => ⟨kr (show w.heap.size ≤ w.heap.size ∧ 0 ≤ 70368744177000 ∧ 0 ≤ p.sender ∧ p.sender < 4294967296 from ⟨Nat.le_refl _, by simp, hs0, hs1⟩), kr (show w.heap.size ≤ w.heap.size ∧ (be32 p.sender).length ≤ 70368744177000 ∧ 0 ≤ p.media ∧ p.media < 4294967296 from ⟨Nat.le_refl _, by simp [be32_len], hm0, hm1⟩), trivial⟩) fun p5 a u hE hS => ?_
  refine wp_seq ?_
  refine rgp hE hS [pu, ov (ld 1) (.int .i64 3)] (fun _ => kp [(51, .int .i64 3)]) (fun _ => kP []) (fun _ => ⟨fun _ => kr (congrArg (Value.int .i64) hk), trivial⟩) fun _ a u hE hS => ?_
  refine wp_block ?_
  refine wp_seq ?_
  refine rg hE hS [pu, pu] (fun _ => kp [(52, .bool false)]) (fun _ => kP []) fun _ a u hE hS => ?_
  refine iff hE ?_
  refine rgE hE hS [pu, pu] (fun _ => kp []) (fun _ => kP []) (fun _ => trivial) fun _ a u hE hS => ?_
  refine iff hE ?_
  refine rg hE hS [pu, pu] (fun _ => kp [(117, .bool true)]) (fun _ => kP []) fun _ a u hE hS => ?_
  refine ift hE ?_
  refine rgp hE hS [pu, pu, ld 1, pu, cl countc [] [3, 2]] (fun _ => kp []) (fun _ => kP [(3, some (.blk (p1 3).g 4 #[.bool (decide (((p.chunks.l.length : Nat) : Int) ≤ 31))])), (2, some (.blk (p1 1).g 36 #[.bool false, .int .u8 (((p.chunks.l.length : Nat) : Int) % 32), .int .u8 202, .int .u16 0]))]) (fun _ => ⟨kr (show 0 ≤ ((p.chunks.l.length : Nat) : Int) from by omega), trivial⟩) fun _ a u hE hS => ?_
  rw [hd0] at hS
  refine rg hE hS [pu, ld 1, pu, pu] (fun _ => kn [(125, .slice p.chunks.A (p.chunks.l.length : Nat) p.chunks.c), (126, .int .i64 (p.chunks.l.length : Nat)), (127, .int .i64 0)] [2, 3, 4]) (fun _ => kN [] [3, 2, 21]) fun _ a u hE hS => ?_
  refine range_up hE hS 127 p.chunks.l.length (fun _ x => kd [127, 128, 171] [(3, .slice x.p.a x.y.1.length x.p.c)]) (fun _ x => kP [(21, some (.bytes w.heap.size (.slice x.p.a x.y.1.length x.p.c) x.y.1)), (3, some (.blk (p1 3).g 4 #[.bool x.y.2]))]) (fun k (x : Lx (List Int × Bool)) => x.y.1 = chunksB (p.chunks.l.take k) ∧ x.y.2 = (d0 && (p.chunks.l.take k).all chunkOk)) ⟨⟨0, 0, undef, none⟩, 0, [], [], d0⟩ (by omega) (by simp [chunksB]) (fun k x a u hk hI hE hS K hK RK hRK => ?_) fun ⟨qq, _, _, y1, y2⟩ a u hI hE hS => ?_
  · obtain ⟨hk1, hk2⟩ := hI
    obtain ⟨q0, n0, xs0, l0, b0⟩ := x
    simp only at hk1 hk2
    have hr := hl _ (List.getElem_mem hk)
    have hi := hri _ (List.getElem_mem hk)
    have hct := chunksB_take p.chunks.l k hk
    have hS := stp_el hS 90 (el_at hlies (fun _ _ => rfl) rfl (fun g hg => ⟨hg, id⟩) k hk (by omega))
    generalize hrk : p.chunks.l[k] = r at hS hr hi hct
    rw [← hk1] at hct; unfold itemsB at hct
    have hxl : l0.length ≤ 70368744170000 := by omega
    refine rgp hE hS [ie 90, le 90 0, nw 91, st 91] (fun p12 => kp [(12, pt (p12 2).g 0)]) (fun p12 => kP [(91, some (.blk (p12 2).g 89 (Chunk.cells r).toArray))]) (fun _ => ⟨kr (show k < p.chunks.l.length from hk), trivial⟩) fun p12 a u hE hS => ?_
    refine rgp hE hS [pu, pu, ld 91, cl p32c [] [21], pu] (fun p13 => kp [(3, .slice (p13 3).a (l0 ++ be32 r.src).length (p13 3).c)]) (fun p13 => kP [(21, some (.bytes w.heap.size (.slice (p13 3).a (l0 ++ be32 r.src).length (p13 3).c) (l0 ++ be32 r.src)))]) (fun _ => ⟨kr (show w.heap.size ≤ w.heap.size ∧ l0.length ≤ 70368744177000 ∧ 0 ≤ r.src ∧ r.src < 4294967296 from ⟨Nat.le_refl _, by omega, hr.1, hr.2.1⟩), trivial⟩) fun p13 a u hE hS => ?_
    refine wp_seq ?_
    refine rg hE hS [pu, ld 91, pu, pu] (fun _ => kn [(136, .slice r.items.A (r.items.l.length : Nat) r.items.c), (137, .int .i64 (r.items.l.length : Nat)), (138, .int .i64 0)] [2, 3, 4, 125, 126, 127]) (fun _ => kN [] [21, 90, 3, 2]) fun _ a u hE hS => ?_
    refine range_up hE hS 138 r.items.l.length (fun _ z => kd [138, 139, 166] [(3, .slice z.p.a z.y.1.length z.p.c)]) (fun _ z => kP [(21, some (.bytes w.heap.size (.slice z.p.a z.y.1.length z.p.c) z.y.1)), (3, some (.blk (p1 3).g 4 #[.bool z.y.2]))]) (fun j (z : Lx (List Int × Bool)) => z.y.1 = l0 ++ be32 r.src ++ (r.items.l.take j).flatMap itemB ∧ z.y.2 = (b0 && (r.items.l.take j).all itemOk)) ⟨⟨0, (p13 3).c, undef, (p13 3).a⟩, 0, [], l0 ++ be32 r.src, b0⟩ (by omega) (by simp) (fun j z a u hj hI hE hS J hJ RJ hRJ => ?_) fun ⟨qq1, _, _, y1, y2⟩ a u hI1 hE hS => ?_
    · obtain ⟨hj1, hj2⟩ := hI
      obtain ⟨q1, n1, xs1, l1, b1⟩ := z
      simp only at hj1 hj2
      have hs := hr.2.2.2 _ (List.getElem_mem hj)
      have hS := stp_el hS 95 (el_at hi (fun _ _ => rfl) rfl (fun g hg => ⟨hg, id⟩) j hj (by omega))
      generalize hsj : r.items.l[j] = s at hS hs
      have hzl : l1.length ≤ 70368744170000 := by rw [hj1]; simp only [List.length_append, be32_len]; have := itemsB_take r.items.l j; unfold itemsB at this; omega
      generalize hc1 : (s.ty != 0) = c1
      generalize hc2 : decide ((s.text.size : Int) ≤ 255) = c2
      refine rgp hE hS [ie 95, le 95 0, nw 96, st 96] (fun p15 => kp [(14, pt (p15 2).g 0)]) (fun p15 => kP [(96, some (.blk (p15 2).g 94 (Item.cells s).toArray))]) (fun _ => ⟨kr (show j < r.items.l.length from hj), trivial⟩) fun p15 a u hE hS => ?_
      refine rgp (hchk := by intro p; cases b1 <;> cases c1 <;> kernel_rfl) hE hS [ld 3, pu, gs (b1) (pu), gs (b1) (ld 96), gs (b1) (pe (.bool c1)), pu, pu, gs (b1 && c1) (pu), gs (b1 && c1) (ld 96), gs (b1 && c1) (pu), gs (b1 && c1) (pe (.bool c2)), pu, st 3] (fun _ => kp []) (fun _ => kP [(3, some (.blk (p1 3).g 4 #[.bool (b1 && c1 && c2)]))]) (fun _ => ⟨fun hb => by cases hb; exact kr (congrArg Value.bool hc1), fun hb => by simp only [Bool.and_eq_true] at hb; obtain ⟨rfl, rfl⟩ := hb; exact kr (congrArg Value.bool hc2), trivial⟩) fun _ a u hE hS => ?_
      refine dgE hE hS [pu, pu, ld 96, pu, ld 96, pu, pu, nw 97, ab .lit 21 97, pu, ld 96, ab .str 21 21, pu] (fun p17 => kp [(3, .slice (p17 11).a (l1 ++ [s.ty, (s.text.size : Int) % 256] ++ sb s.text).length (p17 11).c)]) (fun p17 => kP [(21, some (.bytes w.heap.size (.slice (p17 11).a (l1 ++ [s.ty, (s.text.size : Int) % 256] ++ sb s.text).length (p17 11).c) (l1 ++ [s.ty, (s.text.size : Int) % 256] ++ sb s.text)))]) (fun _ => ⟨kr (show w.heap.size ≤ w.heap.size ∧ (l1 ++ [s.ty, (s.text.size : Int) % 256]).length ≤ 140737488355328 from ⟨Nat.le_refl _, by simp only [List.length_append, List.length_cons, List.length_nil]; omega⟩), kr (show w.heap.size ≤ w.heap.size ∧ (l1 ++ [s.ty, (s.text.size : Int) % 256] ++ sb s.text).length ≤ 140737488355328 from ⟨Nat.le_refl _, by simp only [List.length_append, List.length_cons, List.length_nil, sb_len]; omega⟩), trivial⟩) fun p17 a u hE hS => ?_
      exact hJ ⟨(p17 11), 0, [], l1 ++ [s.ty, (s.text.size : Int) % 256] ++ sb s.text, (b1 && c1 && c2)⟩ a u _ _ ⟨by rw [hj1, List.take_succ_eq_append_getElem hj, List.flatMap_append, hsj]; simp [itemB], by rw [hj2, List.take_succ_eq_append_getElem hj, List.all_append, hsj]; simp [itemOk, hc1, hc2, Bool.and_assoc]⟩ hE hS (by kernel_rfl)
    simp only [List.take_length] at hI1
    obtain ⟨h1, h2⟩ := hI1
    subst h1 h2
    refine rgE hE hS [pu, nw 98, ab .lit 21 98, cl padc [] [21], pu] (fun p18 => kp [(3, .slice (p18 3).a (padB (l0 ++ be32 r.src ++ r.items.l.flatMap itemB ++ [0])).length (p18 3).c)]) (fun p18 => kP [(21, some (.bytes w.heap.size (.slice (p18 3).a (padB (l0 ++ be32 r.src ++ r.items.l.flatMap itemB ++ [0])).length (p18 3).c) (padB (l0 ++ be32 r.src ++ r.items.l.flatMap itemB ++ [0]))))]) (fun _ => ⟨kr (show w.heap.size ≤ w.heap.size ∧ (l0 ++ be32 r.src ++ r.items.l.flatMap itemB ++ [0]).length ≤ 140737488355328 from ⟨Nat.le_refl _, by simp only [List.length_append, List.length_cons, List.length_nil, be32_len]; omega⟩), kr (show w.heap.size ≤ w.heap.size ∧ (l0 ++ be32 r.src ++ r.items.l.flatMap itemB ++ [0]).length ≤ 70368744177000 from ⟨Nat.le_refl _, by simp only [List.length_append, List.length_cons, List.length_nil, be32_len]; omega⟩), trivial⟩) fun p18 a u hE hS => ?_
    exact hK ⟨(p18 3), 0, [], padB (l0 ++ be32 r.src ++ r.items.l.flatMap itemB ++ [0]), (b0 && r.items.l.all itemOk)⟩ a u _ _ ⟨by rw [hk1, List.take_succ_eq_append_getElem hk]; unfold chunksB; rw [List.foldl_append, hrk]; rfl, by rw [hk2, List.take_succ_eq_append_getElem hk, List.all_append, hrk]; simp [chunkOk, Bool.and_assoc]⟩ hE hS (by kernel_rfl)
  simp only [List.take_length] at hI
  obtain ⟨h1, h2⟩ := hI
  subst h1 h2
  refine dgp hE hS [ld 2, pu, ld 3, st 2, pu, st 3] (fun _ => kp []) (fun _ => kP []) (fun _ => trivial) fun _ a u hE hS => ?_
  refine wp_ret ?_
  refine retctc hE hS Tryz.results52 2 3 (p1 1).g (p1 3).g 36 4 #[.bool false, .int .u8 (((p.chunks.l.length : Nat) : Int) % 32), .int .u8 202, .int .u16 0] #[.bool (d0 && p.chunks.l.all chunkOk)] (.agg #[.bool false, .int .u8 (((p.chunks.l.length : Nat) : Int) % 32), .int .u8 202, .int .u16 0]) (.slice qq.a (chunksB p.chunks.l).length qq.c) (.bool (d0 && p.chunks.l.all chunkOk)) ?_
  exact ⟨_, rfl, pcO (base := w.heap.size) hS 21, hS.below⟩
set_option maxHeartbeats 4000000 in
set_option maxRecDepth 100000 in
theorem form_4 (p : Pkt) (w : World) (hk : p.kind = 4) (hs0 : 0 ≤ p.sender) (hs1 : p.sender < 4294967296) (hm0 : 0 ≤ p.media) (hm1 : p.media < 4294967296) (hr : p.sources.Lies w w.heap.size 1 u32c) (hn : p.sources.l.length ≤ 2147483647)
    (hl : ∀ x ∈ p.sources.l, 0 ≤ x ∧ x < 4294967296) (ht : p.text.size ≤ 2147483647) :
    Calls Tryz.prog 52 #[.agg p.cells] w (Formed w (p.sources.l.length % 32 : Nat) 203 (byeB p.sources.l p.text) (decide ((p.sources.l.length : Int) ≤ 31) && decide ((p.text.size : Int) ≤ 255))) := by
  generalize hd0 : decide ((p.sources.l.length : Int) ≤ 31) = d0
  generalize hd1 : decide ((p.text.size : Int) ≤ 255) = d1
  have hlies := hr
  clear hr
  have hne : (!(p.text.toList == (ByteArray.mk #[]).toList)) = !p.text.toList.isEmpty := by rw [show (ByteArray.mk #[]).toList = [] from (ByteArray.toList_eq _).trans rfl]; cases p.text.toList <;> rfl
  have hcn : ((p.sources.l.length % 32 : Nat) : Int) = (p.sources.l.length : Int) % 32 := by omega
  rw [hcn]
  refine go_in Tryz.func52 rfl Tryz.ntmps52 [.agg p.cells] fun a hE => ?_
  have hS := stp_in w
  refine rg hE hS [nw 1, nw 2, pu, nw 3] (fun p1 => kp [(1, pt (p1 0).g 0), (2, pt (p1 1).g 0), (3, .slice none 0 0), (4, pt (p1 3).g 0)]) (fun p1 => kP [(1, some (.blk (p1 0).g 38 p.cells)), (2, some (.blk (p1 1).g 36 #[.bool false, .int .u8 0, .int .u8 0, .int .u16 0])), (3, some (.blk (p1 3).g 4 #[.bool false]))]) fun p1 a u hE hS => ?_
  refine rg hE hS [st 3] (fun _ => kp []) (fun _ => kP [(3, some (.blk (p1 3).g 4 #[.bool true]))]) fun _ a u hE hS => ?_
  refine dgp hE hS [nw 4, pu, ov (ld 1) (.int .i64 4), ix, ld 4, nw 5, pu, ov (ld 1) (.int .i64 4), ix, ld 5, pu, st 2] (fun _ => kp []) (fun _ => kP [(2, some (.blk (p1 1).g 36 #[.bool false, .int .u8 0, .int .u8 203, .int .u16 0]))]) (fun _ => ⟨fun _ => kr (congrArg (Value.int .i64) hk), kr (show 4 < 14 by omega), fun _ => kr (congrArg (Value.int .i64) hk), kr (show 4 < 14 by omega), trivial⟩) fun _ a u hE hS => ?_
  refine rg hE hS [pu, pu] (fun _ => kp [(5, .func (.func 72) #[] #[pt (p1 3).g 0, pt (p1 1).g 0])]) (fun _ => kP []) fun _ a u hE hS => ?_
  have hS := stp_bytes0 hS 21 w.heap.size
  have hS := stp_bytes0 hS 20 w.heap.size
  refine dgp hE hS [pu, ld 1, cl p32c [] [20], pu, ld 1, cl p32c [] [20], pu] (fun p5 => kp [(6, .slice (p5 5).a (be32 p.sender ++ be32 p.media).length (p5 5).c)]) (fun p5 => kP [(20, some (.bytes w.heap.size (.slice (p5 5).a (be32 p.sender ++ be32 p.media).length (p5 5).c) (be32 p.sender ++ be32 p.media)))]) (fun _ => ⟨kr (show w.heap.size ≤ w.heap.size ∧ 0 ≤ 70368744177000 ∧ 0 ≤ p.sender ∧ p.sender < 4294967296 from ⟨Nat.le_refl _, by simp, hs0, hs1⟩), kr (show w.heap.size ≤ w.heap.size ∧ (be32 p.sender).length ≤ 70368744177000 ∧ 0 ≤ p.media ∧ p.media < 4294967296 from ⟨Nat.le_refl _, by simp [be32_len], hm0, hm1⟩), trivial⟩) fun p5 a u hE hS => ?_
  refine wp_seq ?_
  refine rgp hE hS [pu, ov (ld 1) (.int .i64 4)] (fun _ => kp [(51, .int .i64 4)]) (fun _ => kP []) (fun _ => ⟨fun _ => kr (congrArg (Value.int .i64) hk), trivial⟩) fun _ a u hE hS => ?_
  refine wp_block ?_
  refine wp_seq ?_
  refine rg hE hS [pu, pu] (fun _ => kp [(52, .bool false)]) (fun _ => kP []) fun _ a u hE hS => ?_
  refine iff hE ?_
  refine rgE hE hS [pu, pu] (fun _ => kp []) (fun _ => kP []) (fun _ => trivial) fun _ a u hE hS => ?_
  refine iff hE ?_
  refine rg hE hS [pu, pu] (fun _ => kp [(117, .bool false)]) (fun _ => kP []) fun _ a u hE hS => ?_
  refine iff hE ?_
  refine rg hE hS [pu, pu] (fun _ => kp [(172, .bool true)]) (fun _ => kP []) fun _ a u hE hS => ?_
  refine ift hE ?_
  refine rgp hE hS [pu, pu, ld 1, pu, cl countc [] [3, 2]] (fun _ => kp []) (fun _ => kP [(3, some (.blk (p1 3).g 4 #[.bool (decide ((p.sources.l.length : Int) ≤ 31))])), (2, some (.blk (p1 1).g 36 #[.bool false, .int .u8 ((p.sources.l.length : Int) % 32), .int .u8 203, .int .u16 0]))]) (fun _ => ⟨kr (show 0 ≤ (p.sources.l.length : Int) from by omega), trivial⟩) fun _ a u hE hS => ?_
  rw [hd0] at hS
  refine wp_seq ?_
  refine rg hE hS [pu, ld 1, pu, pu] (fun _ => kn [(180, .slice p.sources.A (p.sources.l.length : Nat) p.sources.c), (181, .int .i64 (p.sources.l.length : Nat)), (182, .int .i64 0)] [1, 2, 3, 4]) (fun _ => kN [] [3, 2, 21, 1]) fun _ a u hE hS => ?_
  refine range_up hE hS 182 p.sources.l.length (fun _ x => kd [182, 183, 189] [(3, .slice x.p.a x.y.1.length x.p.c)]) (fun _ x => kP [(21, some (.bytes w.heap.size (.slice x.p.a x.y.1.length x.p.c) x.y.1))]) (fun k (x : Lx (List Int × Bool)) => x.y.1 = (p.sources.l.take k).flatMap be32 ∧ x.y.2 = true) ⟨⟨0, 0, undef, none⟩, 0, [], [], true⟩ (by omega) (by simp) (fun k x a u hk hI hE hS K hK RK hRK => ?_) fun ⟨qq, _, _, y1, y2⟩ a u hI hE hS => ?_
  · obtain ⟨hk1, hk2⟩ := hI
    obtain ⟨q0, n0, xs0, l0, b0⟩ := x
    simp only at hk1 hk2
    have hr := hl _ (List.getElem_mem hk)
    have hS := stp_el hS 90 (el_at hlies (fun _ _ => rfl) rfl (fun g hg => ⟨hg, id⟩) k hk (by omega))
    generalize hrk : p.sources.l[k] = r at hS hr
    have hxl : l0.length ≤ 70368744170000 := by rw [hk1]; have := fl_len (p.sources.l.take k) (be32) 4 (fun _ => rfl); simp only [List.length_take] at this; omega
    refine rgp hE hS [ie 90, le 90 0, pu] (fun _ => kp [(16, .int .u32 r)]) (fun _ => kP []) (fun _ => ⟨kr (show k < p.sources.l.length from hk), trivial⟩) fun _ a u hE hS => ?_
    refine rgE hE hS [pu, pu, cl p32c [] [21], pu] (fun p14 => kp [(3, .slice (p14 2).a (l0 ++ be32 r).length (p14 2).c)]) (fun p14 => kP [(21, some (.bytes w.heap.size (.slice (p14 2).a (l0 ++ be32 r).length (p14 2).c) (l0 ++ be32 r)))]) (fun _ => ⟨kr (show w.heap.size ≤ w.heap.size ∧ l0.length ≤ 70368744177000 ∧ 0 ≤ r ∧ r < 4294967296 from ⟨Nat.le_refl _, by omega, hr.1, hr.2⟩), trivial⟩) fun p14 a u hE hS => ?_
    exact hK ⟨(p14 2), 0, [], l0 ++ be32 r, true⟩ a u _ _ ⟨by rw [hk1, List.take_succ_eq_append_getElem hk, List.flatMap_append, hrk]; simp, rfl⟩ hE hS (by kernel_rfl)
  simp only [List.take_length] at hI
  obtain ⟨h1, h2⟩ := hI
  subst h1 h2
  refine rgp (hchk := by intro p; cases d0 <;> kernel_rfl) hE hS [ld 3, pu, gs (d0) (pu), gs (d0) (ld 1), gs (d0) (pu), gs (d0) (pe (.bool d1)), pu, st 3] (fun _ => kp []) (fun _ => kP [(3, some (.blk (p1 3).g 4 #[.bool (d0 && d1)]))]) (fun _ => ⟨fun hb => by cases hb; exact kr (congrArg Value.bool hd1), trivial⟩) fun _ a u hE hS => ?_
  cases hs : p.text.toList.isEmpty with
  | false =>
    refine rgp hE hS [pu, ld 1, pe (.bool true)] (fun _ => kp [(199, .bool true)]) (fun _ => kP []) (fun _ => ⟨kr (congrArg Value.bool (show (!(p.text.toList == (ByteArray.mk #[]).toList)) = true from hne.trans (by rw [hs]; rfl))), trivial⟩) fun _ a u hE hS => ?_
    refine ift hE ?_
    refine dgE hE hS [pu, pu, ld 1, pu, pu, nw 92, ab .lit 21 92, pu, ld 1, ab .str 21 21, cl padc [] [21], pu] (fun p17 => kp [(3, .slice (p17 10).a (padB (p.sources.l.flatMap be32 ++ [(p.text.size : Int) % 256] ++ sb p.text)).length (p17 10).c)]) (fun p17 => kP [(21, some (.bytes w.heap.size (.slice (p17 10).a (padB (p.sources.l.flatMap be32 ++ [(p.text.size : Int) % 256] ++ sb p.text)).length (p17 10).c) (padB (p.sources.l.flatMap be32 ++ [(p.text.size : Int) % 256] ++ sb p.text))))]) (fun _ => ⟨kr (show w.heap.size ≤ w.heap.size ∧ (p.sources.l.flatMap be32 ++ [(p.text.size : Int) % 256]).length ≤ 140737488355328 from ⟨Nat.le_refl _, by simp only [List.length_append, List.length_cons, List.length_nil, be32s_len]; omega⟩), kr (show w.heap.size ≤ w.heap.size ∧ (p.sources.l.flatMap be32 ++ [(p.text.size : Int) % 256] ++ sb p.text).length ≤ 140737488355328 from ⟨Nat.le_refl _, by simp only [List.length_append, List.length_cons, List.length_nil, be32s_len, sb_len]; omega⟩), kr (show w.heap.size ≤ w.heap.size ∧ (p.sources.l.flatMap be32 ++ [(p.text.size : Int) % 256] ++ sb p.text).length ≤ 70368744177000 from ⟨Nat.le_refl _, by simp only [List.length_append, List.length_cons, List.length_nil, be32s_len, sb_len]; omega⟩), trivial⟩) fun p17 a u hE hS => ?_
    refine dgp hE hS [ld 2, pu, ld 3, st 2, pu, st 3] (fun _ => kn [] [2, 3, 4]) (fun _ => kN [] [21, 3, 2]) (fun _ => trivial) fun _ a u hE hS => ?_
    refine wp_ret ?_
    refine retctc hE hS Tryz.results52 2 3 (p1 1).g (p1 3).g 36 4 #[.bool false, .int .u8 ((p.sources.l.length : Int) % 32), .int .u8 203, .int .u16 0] #[.bool (d0 && d1)] (.agg #[.bool false, .int .u8 ((p.sources.l.length : Int) % 32), .int .u8 203, .int .u16 0]) (.slice (p17 10).a (padB (p.sources.l.flatMap be32 ++ [(p.text.size : Int) % 256] ++ sb p.text)).length (p17 10).c) (.bool (d0 && d1)) ?_
    rw [show byeB p.sources.l p.text = padB (p.sources.l.flatMap be32 ++ [(p.text.size : Int) % 256] ++ sb p.text) by unfold byeB; rw [hs]; rfl]
    exact ⟨_, rfl, pcO (base := w.heap.size) hS 21, hS.below⟩
  | true =>
    refine rgp hE hS [pu, ld 1, pe (.bool false)] (fun _ => kp [(199, .bool false)]) (fun _ => kP []) (fun _ => ⟨kr (congrArg Value.bool (show (!(p.text.toList == (ByteArray.mk #[]).toList)) = false from hne.trans (by rw [hs]; rfl))), trivial⟩) fun _ a u hE hS => ?_
    refine iff hE ?_
    refine wp_skip ?_
    refine dgp hE hS [ld 2, pu, ld 3, st 2, pu, st 3] (fun _ => kn [] [2, 3, 4]) (fun _ => kN [] [3, 2, 21]) (fun _ => trivial) fun _ a u hE hS => ?_
    refine wp_ret ?_
    refine retctc hE hS Tryz.results52 2 3 (p1 1).g (p1 3).g 36 4 #[.bool false, .int .u8 ((p.sources.l.length : Int) % 32), .int .u8 203, .int .u16 0] #[.bool (d0 && d1)] (.agg #[.bool false, .int .u8 ((p.sources.l.length : Int) % 32), .int .u8 203, .int .u16 0]) (.slice qq.a (p.sources.l.flatMap be32).length qq.c) (.bool (d0 && d1)) ?_
    rw [show byeB p.sources.l p.text = p.sources.l.flatMap be32 by unfold byeB; rw [hs]; rfl]
    exact ⟨_, rfl, pcO (base := w.heap.size) hS 21, hS.below⟩
set_option maxHeartbeats 4000000 in
set_option maxRecDepth 100000 in
theorem form_5 (p : Pkt) (w : World) (hk : p.kind = 5) (hs0 : 0 ≤ p.sender) (hs1 : p.sender < 4294967296) (hm0 : 0 ≤ p.media) (hm1 : p.media < 4294967296) (hb0 : 0 ≤ p.sub) (hb1 : p.sub < 256) (hr : p.data.Lies w w.heap.size 1 u8c) (hn : p.data.l.length ≤ 2147483647) (ht : p.text.size ≤ 2147483647) :
    Calls Tryz.prog 52 #[.agg p.cells] w (Formed w (p.sub % 32) 204 (be32 p.sender ++ sb p.text ++ p.data.l) (((decide ((p.sub : Int) ≤ 31) && ((p.text.size : Int) == 4)) && (((p.data.l.length : Nat) : Int).tmod 4 == 0)) && decide (((p.data.l.length : Nat) : Int) ≤ 65520))) := by
  generalize hd0 : decide ((p.sub : Int) ≤ 31) = d0
  generalize hd1 : ((p.text.size : Int) == 4) = d1
  generalize hd2 : (((p.data.l.length : Nat) : Int).tmod 4 == 0) = d2
  generalize hd3 : decide (((p.data.l.length : Nat) : Int) ≤ 65520) = d3
  have hsub : IntKind.i64.wrap p.sub = p.sub := IntWalk.i64_in _ (by omega)
  have hrd : Reads w w.heap.size 1 p.data.A p.data.l.length (u8s p.data.l) := by have := hr; unfold Sl.Lies at this; rwa [u8c_flat] at this
  refine go_in Tryz.func52 rfl Tryz.ntmps52 [.agg p.cells] fun a hE => ?_
  have hS := stp_in w
  refine rg hE hS [nw 1, nw 2, pu, nw 3] (fun p1 => kp [(1, pt (p1 0).g 0), (2, pt (p1 1).g 0), (3, .slice none 0 0), (4, pt (p1 3).g 0)]) (fun p1 => kP [(1, some (.blk (p1 0).g 38 p.cells)), (2, some (.blk (p1 1).g 36 #[.bool false, .int .u8 0, .int .u8 0, .int .u16 0])), (3, some (.blk (p1 3).g 4 #[.bool false]))]) fun p1 a u hE hS => ?_
  refine rg hE hS [st 3] (fun _ => kp []) (fun _ => kP [(3, some (.blk (p1 3).g 4 #[.bool true]))]) fun _ a u hE hS => ?_
  refine dgp hE hS [nw 4, pu, ov (ld 1) (.int .i64 5), ix, ld 4, nw 5, pu, ov (ld 1) (.int .i64 5), ix, ld 5, pu, st 2] (fun _ => kp []) (fun _ => kP [(2, some (.blk (p1 1).g 36 #[.bool false, .int .u8 0, .int .u8 204, .int .u16 0]))]) (fun _ => ⟨fun _ => kr (congrArg (Value.int .i64) hk), kr (show 5 < 14 by omega), fun _ => kr (congrArg (Value.int .i64) hk), kr (show 5 < 14 by omega), trivial⟩) fun _ a u hE hS => ?_
  refine rg hE hS [pu, pu] (fun _ => kp [(5, .func (.func 72) #[] #[pt (p1 3).g 0, pt (p1 1).g 0])]) (fun _ => kP []) fun _ a u hE hS => ?_
  have hS := stp_bytes0 hS 21 w.heap.size
  have hS := stp_bytes0 hS 20 w.heap.size
  refine dgp hE hS [pu, ld 1, cl p32c [] [20], pu, ld 1, cl p32c [] [20], pu] (fun p5 => kp [(6, .slice (p5 5).a (be32 p.sender ++ be32 p.media).length (p5 5).c)]) (fun p5 => kP [(20, some (.bytes w.heap.size (.slice (p5 5).a (be32 p.sender ++ be32 p.media).length (p5 5).c) (be32 p.sender ++ be32 p.media)))]) (fun _ => ⟨kr (show w.heap.size ≤ w.heap.size ∧ 0 ≤ 70368744177000 ∧ 0 ≤ p.sender ∧ p.sender < 4294967296 from ⟨Nat.le_refl _, by simp, hs0, hs1⟩), kr (show w.heap.size ≤ w.heap.size ∧ (be32 p.sender).length ≤ 70368744177000 ∧ 0 ≤ p.media ∧ p.media < 4294967296 from ⟨Nat.le_refl _, by simp [be32_len], hm0, hm1⟩), trivial⟩) fun p5 a u hE hS => ?_
  refine wp_seq ?_
  refine rgp hE hS [pu, ov (ld 1) (.int .i64 5)] (fun _ => kp [(51, .int .i64 5)]) (fun _ => kP []) (fun _ => ⟨fun _ => kr (congrArg (Value.int .i64) hk), trivial⟩) fun _ a u hE hS => ?_
  refine wp_block ?_
  refine wp_seq ?_
  refine rg hE hS [pu, pu] (fun _ => kp [(52, .bool false)]) (fun _ => kP []) fun _ a u hE hS => ?_
  refine iff hE ?_
  refine rgE hE hS [pu, pu] (fun _ => kp []) (fun _ => kP []) (fun _ => trivial) fun _ a u hE hS => ?_
  refine iff hE ?_
  refine rg hE hS [pu, pu] (fun _ => kp [(117, .bool false)]) (fun _ => kP []) fun _ a u hE hS => ?_
  refine iff hE ?_
  refine rg hE hS [pu, pu] (fun _ => kp [(172, .bool false)]) (fun _ => kP []) fun _ a u hE hS => ?_
  refine iff hE ?_
  refine rg hE hS [pu, pu] (fun _ => kp [(211, .bool true)]) (fun _ => kP []) fun _ a u hE hS => ?_
  refine ift hE ?_
  refine rgp hE hS [pu, pu, ld 1, pe (.int .i64 p.sub), cl countc [] [3, 2]] (fun _ => kp []) (fun _ => kP [(3, some (.blk (p1 3).g 4 #[.bool (decide (p.sub ≤ 31))])), (2, some (.blk (p1 1).g 36 #[.bool false, .int .u8 (p.sub % 32), .int .u8 204, .int .u16 0]))]) (fun _ => ⟨kr (congrArg (Value.int .i64) hsub), kr (show 0 ≤ p.sub from hb0), trivial⟩) fun _ a u hE hS => ?_
  rw [hd0] at hS
  have hS := stp_rd hS 93 hrd (fun g hg => ⟨hg, id⟩)
  refine dgE (hchk := by intro p; cases d0 <;> cases d1 <;> cases d2 <;> kernel_rfl) (hsep := by cases d0 <;> cases d1 <;> cases d2 <;> kernel_rfl) hE hS [pu, ld 1, cl p32c [] [21], pu, ld 1, ab .str 21 21, pu, ld 1, ab .rd 21 93, ld 3, pu, gs (d0) (pu), gs (d0) (ld 1), gs (d0) (pu), gs (d0) (pe (.bool d1)), pu, pu, gs (d0 && d1) (pu), gs (d0 && d1) (ld 1), gs (d0 && d1) (pu), gs (d0 && d1) (pu), gs (d0 && d1) (pe (.bool d2)), pu, pu, gs (d0 && d1 && d2) (pu), gs (d0 && d1 && d2) (ld 1), gs (d0 && d1 && d2) (pu), gs (d0 && d1 && d2) (pe (.bool d3)), pu, pu, st 3] (fun p13 => kn [(3, .slice (p13 8).a (be32 p.sender ++ sb p.text ++ p.data.l).length (p13 8).c)] [2, 4]) (fun p13 => kN [(21, some (.bytes w.heap.size (.slice (p13 8).a (be32 p.sender ++ sb p.text ++ p.data.l).length (p13 8).c) (be32 p.sender ++ sb p.text ++ p.data.l))), (3, some (.blk (p1 3).g 4 #[.bool (d0 && d1 && d2 && d3)]))] [2]) (fun _ => ⟨kr (show w.heap.size ≤ w.heap.size ∧ 0 ≤ 70368744177000 ∧ 0 ≤ p.sender ∧ p.sender < 4294967296 from ⟨Nat.le_refl _, by simp, hs0, hs1⟩), kr (show w.heap.size ≤ w.heap.size ∧ (be32 p.sender ++ sb p.text).length ≤ 140737488355328 from ⟨Nat.le_refl _, by simp [be32_len, sb_len]; omega⟩), kr (show w.heap.size ≤ w.heap.size ∧ (be32 p.sender ++ sb p.text ++ p.data.l).length ≤ 140737488355328 from ⟨Nat.le_refl _, by simp [be32_len, sb_len]; omega⟩), fun hb => by cases hb; exact kr (congrArg Value.bool hd1), fun hb => by simp only [Bool.and_eq_true] at hb; obtain ⟨rfl, rfl⟩ := hb; exact kr (congrArg Value.bool hd2), fun hb => by simp only [Bool.and_eq_true] at hb; obtain ⟨⟨rfl, rfl⟩, rfl⟩ := hb; exact kr (congrArg Value.bool hd3), trivial⟩) fun p13 a u hE hS => ?_
  refine dgp hE hS [ld 2, pu, ld 3, st 2, pu, st 3] (fun _ => kp []) (fun _ => kP []) (fun _ => trivial) fun _ a u hE hS => ?_
  refine wp_ret ?_
  refine retctc hE hS Tryz.results52 2 3 (p1 1).g (p1 3).g 36 4 #[.bool false, .int .u8 (p.sub % 32), .int .u8 204, .int .u16 0] #[.bool (d0 && d1 && d2 && d3)] (.agg #[.bool false, .int .u8 (p.sub % 32), .int .u8 204, .int .u16 0]) (.slice (p13 8).a (be32 p.sender ++ sb p.text ++ p.data.l).length (p13 8).c) (.bool (d0 && d1 && d2 && d3)) ?_
  exact ⟨_, rfl, pcO (base := w.heap.size) hS 21, hS.below⟩
set_option maxHeartbeats 4000000 in
set_option maxRecDepth 100000 in
theorem form_6 (p : Pkt) (w : World) (hk : p.kind = 6) (hs0 : 0 ≤ p.sender) (hs1 : p.sender < 4294967296) (hm0 : 0 ≤ p.media) (hm1 : p.media < 4294967296) (hr : p.pairs.Lies w w.heap.size 2 Pair.cells) (hn : p.pairs.l.length ≤ 2147483647)
    (hl : ∀ x ∈ p.pairs.l, 0 ≤ x.id ∧ x.id < 65536 ∧ 0 ≤ x.mask ∧ x.mask < 65536) :
    Calls Tryz.prog 52 #[.agg p.cells] w (Formed w 1 205 (be32 p.sender ++ be32 p.media ++ pairsB p.pairs.l) (decide (0 < p.pairs.l.length) && decide (((p.pairs.l.length : Nat) : Int) ≤ 253))) := by
  generalize hb1 : decide (0 < p.pairs.l.length) = b1
  generalize hb2 : decide (((p.pairs.l.length : Nat) : Int) ≤ 253) = b2
  have hq1 : decide ((p.pairs.l.length : Int) > 0) = b1 := by rw [← hb1]; exact decide_eq_decide.2 (by omega)
  have hlies := hr
  clear hr
  refine go_in Tryz.func52 rfl Tryz.ntmps52 [.agg p.cells] fun a hE => ?_
  have hS := stp_in w
  refine rg hE hS [nw 1, nw 2, pu, nw 3] (fun p1 => kp [(1, pt (p1 0).g 0), (2, pt (p1 1).g 0), (3, .slice none 0 0), (4, pt (p1 3).g 0)]) (fun p1 => kP [(1, some (.blk (p1 0).g 38 p.cells)), (2, some (.blk (p1 1).g 36 #[.bool false, .int .u8 0, .int .u8 0, .int .u16 0])), (3, some (.blk (p1 3).g 4 #[.bool false]))]) fun p1 a u hE hS => ?_
  refine rg hE hS [st 3] (fun _ => kp []) (fun _ => kP [(3, some (.blk (p1 3).g 4 #[.bool true]))]) fun _ a u hE hS => ?_
  refine dgp hE hS [nw 4, pu, ov (ld 1) (.int .i64 6), ix, ld 4, nw 5, pu, ov (ld 1) (.int .i64 6), ix, ld 5, pu, st 2] (fun _ => kp []) (fun _ => kP [(2, some (.blk (p1 1).g 36 #[.bool false, .int .u8 1, .int .u8 205, .int .u16 0]))]) (fun _ => ⟨fun _ => kr (congrArg (Value.int .i64) hk), kr (show 6 < 14 by omega), fun _ => kr (congrArg (Value.int .i64) hk), kr (show 6 < 14 by omega), trivial⟩) fun _ a u hE hS => ?_
  refine rg hE hS [pu, pu] (fun _ => kp [(5, .func (.func 72) #[] #[pt (p1 3).g 0, pt (p1 1).g 0])]) (fun _ => kP []) fun _ a u hE hS => ?_
  have hS := stp_bytes0 hS 20 w.heap.size
  refine dgp hE hS [pu, ld 1, cl p32c [] [20], pu, ld 1, cl p32c [] [20], pu] (fun p5 => kp [(6, .slice (p5 5).a (be32 p.sender ++ be32 p.media).length (p5 5).c)]) (fun p5 => kP [(20, some (.bytes w.heap.size (.slice (p5 5).a (be32 p.sender ++ be32 p.media).length (p5 5).c) (be32 p.sender ++ be32 p.media)))]) (fun _ => ⟨kr (show w.heap.size ≤ w.heap.size ∧ 0 ≤ 70368744177000 ∧ 0 ≤ p.sender ∧ p.sender < 4294967296 from ⟨Nat.le_refl _, by simp, hs0, hs1⟩), kr (show w.heap.size ≤ w.heap.size ∧ (be32 p.sender).length ≤ 70368744177000 ∧ 0 ≤ p.media ∧ p.media < 4294967296 from ⟨Nat.le_refl _, by simp [be32_len], hm0, hm1⟩), trivial⟩) fun p5 a u hE hS => ?_
  refine wp_seq ?_
  refine rgp hE hS [pu, ov (ld 1) (.int .i64 6)] (fun _ => kp [(51, .int .i64 6)]) (fun _ => kP []) (fun _ => ⟨fun _ => kr (congrArg (Value.int .i64) hk), trivial⟩) fun _ a u hE hS => ?_
  refine wp_block ?_
  refine wp_seq ?_
  refine rg hE hS [pu, pu] (fun _ => kp [(52, .bool false)]) (fun _ => kP []) fun _ a u hE hS => ?_
  refine iff hE ?_
  refine rgE hE hS [pu, pu] (fun _ => kp []) (fun _ => kP []) (fun _ => trivial) fun _ a u hE hS => ?_
  refine iff hE ?_
  refine rg hE hS [pu, pu] (fun _ => kp [(117, .bool false)]) (fun _ => kP []) fun _ a u hE hS => ?_
  refine iff hE ?_
  refine rg hE hS [pu, pu] (fun _ => kp [(172, .bool false)]) (fun _ => kP []) fun _ a u hE hS => ?_
  refine iff hE ?_
  refine rg hE hS [pu, pu] (fun _ => kp [(211, .bool false)]) (fun _ => kP []) fun _ a u hE hS => ?_
  refine iff hE ?_
  refine rg hE hS [pu, pu] (fun _ => kp [(247, .bool true)]) (fun _ => kP []) fun _ a u hE hS => ?_
  refine ift hE ?_
  refine dgp (hchk := by intro p; cases b1 <;> cases b2 <;> kernel_rfl) (hsep := by cases b1 <;> cases b2 <;> kernel_rfl) hE hS [pu, pu, ld 1, pu, pe (.bool b1), pu, gs (b1) (pu), gs (b1) (ld 1), gs (b1) (pu), gs (b1) (pe (.bool b2)), pu, pu, st 3] (fun _ => kp [(3, .slice (p5 5).a (be32 p.sender ++ be32 p.media).length (p5 5).c)]) (fun _ => kP [(3, some (.blk (p1 3).g 4 #[.bool (b1 && b2)]))]) (fun _ => ⟨kr (congrArg Value.bool hq1), fun hb => by cases hb; exact kr (congrArg Value.bool hb2), trivial⟩) fun _ a u hE hS => ?_
  refine rg hE hS [pu, ld 1, pu, pu] (fun _ => kn [(261, .slice p.pairs.A (p.pairs.l.length : Nat) p.pairs.c), (262, .int .i64 (p.pairs.l.length : Nat)), (263, .int .i64 0)] [2, 3, 4]) (fun _ => kN [] [20, 2, 3]) fun _ a u hE hS => ?_
  refine range_up hE hS 263 p.pairs.l.length (fun _ x => kd [263, 264, 274] [(3, .slice x.p.a x.y.1.length x.p.c)]) (fun _ x => kP [(20, some (.bytes w.heap.size (.slice x.p.a x.y.1.length x.p.c) x.y.1))]) (fun k (x : Lx (List Int × Bool)) => x.y.1 = be32 p.sender ++ be32 p.media ++ (p.pairs.l.take k).flatMap (fun x => be16 x.id ++ be16 x.mask) ∧ x.y.2 = true) ⟨⟨0, (p5 5).c, undef, (p5 5).a⟩, 0, [], be32 p.sender ++ be32 p.media, true⟩ (by omega) (by simp) (fun k x a u hk hI hE hS K hK RK hRK => ?_) fun ⟨qq, _, _, y1, y2⟩ a u hI hE hS => ?_
  · obtain ⟨hk1, hk2⟩ := hI
    obtain ⟨q0, n0, xs0, l0, b0⟩ := x
    simp only at hk1 hk2
    have hr := hl _ (List.getElem_mem hk)
    have hS := stp_el hS 90 (el_at hlies (fun _ _ => rfl) rfl (fun g hg => ⟨hg, id⟩) k hk (by omega))
    generalize hrk : p.pairs.l[k] = r at hS hr
    have hxl : l0.length ≤ 70368744170000 := by rw [hk1]; simp only [List.length_append, be32_len]; have := fl_len (p.pairs.l.take k) ((fun x => be16 x.id ++ be16 x.mask)) 4 (fun _ => rfl); simp only [List.length_take] at this; omega
    refine rgp hE hS [ie 90, le 90 0, nw 91, st 91] (fun p15 => kp [(18, pt (p15 2).g 0)]) (fun p15 => kP [(91, some (.blk (p15 2).g 97 (Pair.cells r).toArray))]) (fun _ => ⟨kr (show k < p.pairs.l.length from hk), trivial⟩) fun p15 a u hE hS => ?_
    refine dgE hE hS [pu, pu, ld 91, cl p16c [] [20], pu, ld 91, cl p16c [] [20], pu] (fun p16 => kp [(3, .slice (p16 6).a (l0 ++ be16 r.id ++ be16 r.mask).length (p16 6).c)]) (fun p16 => kP [(20, some (.bytes w.heap.size (.slice (p16 6).a (l0 ++ be16 r.id ++ be16 r.mask).length (p16 6).c) (l0 ++ be16 r.id ++ be16 r.mask)))]) (fun _ => ⟨kr (show w.heap.size ≤ w.heap.size ∧ l0.length ≤ 70368744177000 ∧ 0 ≤ r.id ∧ r.id < 65536 from ⟨Nat.le_refl _, by omega, hr.1, hr.2.1⟩), kr (show w.heap.size ≤ w.heap.size ∧ (l0 ++ be16 r.id).length ≤ 70368744177000 ∧ 0 ≤ r.mask ∧ r.mask < 65536 from ⟨Nat.le_refl _, by simp only [List.length_append, be16_len]; omega, hr.2.2.1, hr.2.2.2⟩), trivial⟩) fun p16 a u hE hS => ?_
    exact hK ⟨(p16 6), 0, [], l0 ++ be16 r.id ++ be16 r.mask, true⟩ a u _ _ ⟨by rw [hk1, List.take_succ_eq_append_getElem hk, List.flatMap_append, hrk]; simp, rfl⟩ hE hS (by kernel_rfl)
  simp only [List.take_length] at hI
  obtain ⟨h1, h2⟩ := hI
  subst h1 h2
  refine dgp hE hS [ld 2, pu, ld 3, st 2, pu, st 3] (fun _ => kp []) (fun _ => kP []) (fun _ => trivial) fun _ a u hE hS => ?_
  refine wp_ret ?_
  refine retctc hE hS Tryz.results52 2 3 (p1 1).g (p1 3).g 36 4 #[.bool false, .int .u8 1, .int .u8 205, .int .u16 0] #[.bool (b1 && b2)] (.agg #[.bool false, .int .u8 1, .int .u8 205, .int .u16 0]) (.slice qq.a (be32 p.sender ++ be32 p.media ++ p.pairs.l.flatMap (fun x => be16 x.id ++ be16 x.mask)).length qq.c) (.bool (b1 && b2)) ?_
  exact ⟨_, rfl, pcO (base := w.heap.size) hS 20, hS.below⟩
set_option maxHeartbeats 4000000 in
set_option maxRecDepth 100000 in
theorem form_7 (p : Pkt) (w : World) (hk : p.kind = 7) (hs0 : 0 ≤ p.sender) (hs1 : p.sender < 4294967296) (hm0 : 0 ≤ p.media) (hm1 : p.media < 4294967296) :
    Calls Tryz.prog 52 #[.agg p.cells] w (Formed w 5 205 (be32 p.sender ++ be32 p.media) (true)) := by
  refine go_in Tryz.func52 rfl Tryz.ntmps52 [.agg p.cells] fun a hE => ?_
  have hS := stp_in w
  refine rg hE hS [nw 1, nw 2, pu, nw 3] (fun p1 => kp [(1, pt (p1 0).g 0), (2, pt (p1 1).g 0), (3, .slice none 0 0), (4, pt (p1 3).g 0)]) (fun p1 => kP [(1, some (.blk (p1 0).g 38 p.cells)), (2, some (.blk (p1 1).g 36 #[.bool false, .int .u8 0, .int .u8 0, .int .u16 0])), (3, some (.blk (p1 3).g 4 #[.bool false]))]) fun p1 a u hE hS => ?_
  refine rg hE hS [st 3] (fun _ => kp []) (fun _ => kP [(3, some (.blk (p1 3).g 4 #[.bool true]))]) fun _ a u hE hS => ?_
  refine dgp hE hS [nw 4, pu, ov (ld 1) (.int .i64 7), ix, ld 4, nw 5, pu, ov (ld 1) (.int .i64 7), ix, ld 5, pu, st 2] (fun _ => kp []) (fun _ => kP [(2, some (.blk (p1 1).g 36 #[.bool false, .int .u8 5, .int .u8 205, .int .u16 0]))]) (fun _ => ⟨fun _ => kr (congrArg (Value.int .i64) hk), kr (show 7 < 14 by omega), fun _ => kr (congrArg (Value.int .i64) hk), kr (show 7 < 14 by omega), trivial⟩) fun _ a u hE hS => ?_
  refine rg hE hS [pu, pu] (fun _ => kp [(5, .func (.func 72) #[] #[pt (p1 3).g 0, pt (p1 1).g 0])]) (fun _ => kP []) fun _ a u hE hS => ?_
  have hS := stp_bytes0 hS 20 w.heap.size
  refine dgp hE hS [pu, ld 1, cl p32c [] [20], pu, ld 1, cl p32c [] [20], pu] (fun p5 => kp [(6, .slice (p5 5).a (be32 p.sender ++ be32 p.media).length (p5 5).c)]) (fun p5 => kP [(20, some (.bytes w.heap.size (.slice (p5 5).a (be32 p.sender ++ be32 p.media).length (p5 5).c) (be32 p.sender ++ be32 p.media)))]) (fun _ => ⟨kr (show w.heap.size ≤ w.heap.size ∧ 0 ≤ 70368744177000 ∧ 0 ≤ p.sender ∧ p.sender < 4294967296 from ⟨Nat.le_refl _, by simp, hs0, hs1⟩), kr (show w.heap.size ≤ w.heap.size ∧ (be32 p.sender).length ≤ 70368744177000 ∧ 0 ≤ p.media ∧ p.media < 4294967296 from ⟨Nat.le_refl _, by simp [be32_len], hm0, hm1⟩), trivial⟩) fun p5 a u hE hS => ?_
  refine wp_seq ?_
  refine rgp hE hS [pu, ov (ld 1) (.int .i64 7)] (fun _ => kp [(51, .int .i64 7)]) (fun _ => kP []) (fun _ => ⟨fun _ => kr (congrArg (Value.int .i64) hk), trivial⟩) fun _ a u hE hS => ?_
  refine wp_block ?_
  refine wp_seq ?_
  refine rg hE hS [pu, pu] (fun _ => kp [(52, .bool false)]) (fun _ => kP []) fun _ a u hE hS => ?_
  refine iff hE ?_
  refine rgE hE hS [pu, pu] (fun _ => kp []) (fun _ => kP []) (fun _ => trivial) fun _ a u hE hS => ?_
  refine iff hE ?_
  refine rg hE hS [pu, pu] (fun _ => kp [(117, .bool false)]) (fun _ => kP []) fun _ a u hE hS => ?_
  refine iff hE ?_
  refine rg hE hS [pu, pu] (fun _ => kp [(172, .bool false)]) (fun _ => kP []) fun _ a u hE hS => ?_
  refine iff hE ?_
  refine rg hE hS [pu, pu] (fun _ => kp [(211, .bool false)]) (fun _ => kP []) fun _ a u hE hS => ?_
  refine iff hE ?_
  refine rg hE hS [pu, pu] (fun _ => kp [(247, .bool false)]) (fun _ => kP []) fun _ a u hE hS => ?_
  refine iff hE ?_
  refine wp_seq ?_
  refine rg hE hS [pu, pu] (fun _ => kp [(275, .bool true)]) (fun _ => kP []) fun _ a u hE hS => ?_
  refine ift hE ?_
  refine wp_skip ?_
  refine ift hE ?_
  refine rgE hE hS [pu, pu] (fun _ => kp [(3, .slice (p5 5).a (be32 p.sender ++ be32 p.media).length (p5 5).c)]) (fun _ => kP []) (fun _ => trivial) fun _ a u hE hS => ?_
  refine dgp hE hS [ld 2, pu, ld 3, st 2, pu, st 3] (fun _ => kn [] [2, 3, 4]) (fun _ => kN [] [20, 2, 3]) (fun _ => trivial) fun _ a u hE hS => ?_
  refine wp_ret ?_
  refine retctc hE hS Tryz.results52 2 3 (p1 1).g (p1 3).g 36 4 #[.bool false, .int .u8 5, .int .u8 205, .int .u16 0] #[.bool true] (.agg #[.bool false, .int .u8 5, .int .u8 205, .int .u16 0]) (.slice (p5 5).a (be32 p.sender ++ be32 p.media).length (p5 5).c) (.bool true) ?_
  exact ⟨_, rfl, pcO (base := w.heap.size) hS 20, hS.below⟩
set_option maxHeartbeats 4000000 in
set_option maxRecDepth 100000 in
theorem form_8 (p : Pkt) (w : World) (hk : p.kind = 8) (hs0 : 0 ≤ p.sender) (hs1 : p.sender < 4294967296) (hm0 : 0 ≤ p.media) (hm1 : p.media < 4294967296) (ht0 : 0 ≤ p.time) (ht1 : p.time < 4294967296) (hr : p.blocks.Lies w w.heap.size 3 Blo.cells) (hn : p.blocks.l.length ≤ 2147483647) (hri : ∀ x ∈ p.blocks.l, x.mets.Lies w w.heap.size 3 Met.cells) (hl : ∀ x ∈ p.blocks.l, 0 ≤ x.media ∧ x.media < 4294967296 ∧ 0 ≤ x.first ∧ x.first < 65536 ∧ x.mets.l.length ≤ 2147483647 ∧ ∀ i ∈ x.mets.l, 0 ≤ i.ecn ∧ i.ecn < 256 ∧ 0 ≤ i.off ∧ i.off < 65536) (hB : (blosB (be32 p.sender) p.blocks.l).length ≤ 70368744100000) :
    Calls Tryz.prog 52 #[.agg p.cells] w (Formed w 11 205 (blosB (be32 p.sender) p.blocks.l ++ be32 p.time) (decide (0 < p.blocks.l.length) && p.blocks.l.all bloOk)) := by
  generalize hd0 : decide (0 < p.blocks.l.length) = d0
  have hq0 : decide ((p.blocks.l.length : Int) > 0) = d0 := by rw [← hd0]; exact decide_eq_decide.2 (by omega)
  have hlies := hr
  clear hr
  refine go_in Tryz.func52 rfl Tryz.ntmps52 [.agg p.cells] fun a hE => ?_
  have hS := stp_in w
  refine rg hE hS [nw 1, nw 2, pu, nw 3] (fun p1 => kp [(1, pt (p1 0).g 0), (2, pt (p1 1).g 0), (3, .slice none 0 0), (4, pt (p1 3).g 0)]) (fun p1 => kP [(1, some (.blk (p1 0).g 38 p.cells)), (2, some (.blk (p1 1).g 36 #[.bool false, .int .u8 0, .int .u8 0, .int .u16 0])), (3, some (.blk (p1 3).g 4 #[.bool false]))]) fun p1 a u hE hS => ?_
  refine rg hE hS [st 3] (fun _ => kp []) (fun _ => kP [(3, some (.blk (p1 3).g 4 #[.bool true]))]) fun _ a u hE hS => ?_
  refine dgp hE hS [nw 4, pu, ov (ld 1) (.int .i64 8), ix, ld 4, nw 5, pu, ov (ld 1) (.int .i64 8), ix, ld 5, pu, st 2] (fun _ => kp []) (fun _ => kP [(2, some (.blk (p1 1).g 36 #[.bool false, .int .u8 11, .int .u8 205, .int .u16 0]))]) (fun _ => ⟨fun _ => kr (congrArg (Value.int .i64) hk), kr (show 8 < 14 by omega), fun _ => kr (congrArg (Value.int .i64) hk), kr (show 8 < 14 by omega), trivial⟩) fun _ a u hE hS => ?_
  refine rg hE hS [pu, pu] (fun _ => kp [(5, .func (.func 72) #[] #[pt (p1 3).g 0, pt (p1 1).g 0])]) (fun _ => kP []) fun _ a u hE hS => ?_
  have hS := stp_bytes0 hS 21 w.heap.size
  have hS := stp_bytes0 hS 20 w.heap.size
  refine dgp hE hS [pu, ld 1, cl p32c [] [20], pu, ld 1, cl p32c [] [20], pu] (fun p5 => kp [(6, .slice (p5 5).a (be32 p.sender ++ be32 p.media).length (p5 5).c)]) (fun p5 => kP [(20, some (.bytes w.heap.size (.slice (p5 5).a (be32 p.sender ++ be32 p.media).length (p5 5).c) (be32 p.sender ++ be32 p.media)))]) (fun _ => ⟨kr (show w.heap.size ≤ w.heap.size ∧ 0 ≤ 70368744177000 ∧ 0 ≤ p.sender ∧ p.sender < 4294967296 from ⟨Nat.le_refl _, by simp, hs0, hs1⟩), kr (show w.heap.size ≤ w.heap.size ∧ (be32 p.sender).length ≤ 70368744177000 ∧ 0 ≤ p.media ∧ p.media < 4294967296 from ⟨Nat.le_refl _, by simp [be32_len], hm0, hm1⟩), trivial⟩) fun p5 a u hE hS => ?_
  refine wp_seq ?_
  refine rgp hE hS [pu, ov (ld 1) (.int .i64 8)] (fun _ => kp [(51, .int .i64 8)]) (fun _ => kP []) (fun _ => ⟨fun _ => kr (congrArg (Value.int .i64) hk), trivial⟩) fun _ a u hE hS => ?_
  refine wp_block ?_
  refine wp_seq ?_
  refine rg hE hS [pu, pu] (fun _ => kp [(52, .bool false)]) (fun _ => kP []) fun _ a u hE hS => ?_
  refine iff hE ?_
  refine rgE hE hS [pu, pu] (fun _ => kp []) (fun _ => kP []) (fun _ => trivial) fun _ a u hE hS => ?_
  refine iff hE ?_
  refine rg hE hS [pu, pu] (fun _ => kp [(117, .bool false)]) (fun _ => kP []) fun _ a u hE hS => ?_
  refine iff hE ?_
  refine rg hE hS [pu, pu] (fun _ => kp [(172, .bool false)]) (fun _ => kP []) fun _ a u hE hS => ?_
  refine iff hE ?_
  refine rg hE hS [pu, pu] (fun _ => kp [(211, .bool false)]) (fun _ => kP []) fun _ a u hE hS => ?_
  refine iff hE ?_
  refine rg hE hS [pu, pu] (fun _ => kp [(247, .bool false)]) (fun _ => kP []) fun _ a u hE hS => ?_
  refine iff hE ?_
  refine wp_seq ?_
  refine rg hE hS [pu, pu] (fun _ => kp [(275, .bool false)]) (fun _ => kP []) fun _ a u hE hS => ?_
  refine iff hE ?_
  refine rgE hE hS [pu, pu] (fun _ => kp []) (fun _ => kP []) (fun _ => trivial) fun _ a u hE hS => ?_
  refine iff hE ?_
  refine rg hE hS [pu, pu] (fun _ => kp [(279, .bool false)]) (fun _ => kP []) fun _ a u hE hS => ?_
  refine iff hE ?_
  refine rg hE hS [pu, pu] (fun _ => kp [(331, .bool false)]) (fun _ => kP []) fun _ a u hE hS => ?_
  refine iff hE ?_
  refine rg hE hS [pu, pu] (fun _ => kp [(354, .bool false)]) (fun _ => kP []) fun _ a u hE hS => ?_
  refine iff hE ?_
  refine rg hE hS [pu, pu] (fun _ => kn [(398, .bool true)] [1, 2, 3, 4]) (fun _ => kN [] [21, 1, 2, 3]) fun _ a u hE hS => ?_
  refine ift hE ?_
  refine dgp hE hS [pu, ld 1, cl p32c [] [21], pu, ld 1, pu, pe (.bool d0), pu, st 3] (fun p19 => kp [(3, .slice (p19 2).a (be32 p.sender).length (p19 2).c)]) (fun p19 => kP [(21, some (.bytes w.heap.size (.slice (p19 2).a (be32 p.sender).length (p19 2).c) (be32 p.sender))), (3, some (.blk (p1 3).g 4 #[.bool d0]))]) (fun _ => ⟨kr (show w.heap.size ≤ w.heap.size ∧ 0 ≤ 70368744177000 ∧ 0 ≤ p.sender ∧ p.sender < 4294967296 from ⟨Nat.le_refl _, by simp, hs0, hs1⟩), kr (congrArg Value.bool hq0), trivial⟩) fun p19 a u hE hS => ?_
  refine wp_seq ?_
  refine rg hE hS [pu, ld 1, pu, pu] (fun _ => kn [(408, .slice p.blocks.A (p.blocks.l.length : Nat) p.blocks.c), (409, .int .i64 (p.blocks.l.length : Nat)), (410, .int .i64 0)] [1, 2, 3, 4]) (fun _ => kN [] [21, 1, 2, 3]) fun _ a u hE hS => ?_
  refine range_up hE hS 410 p.blocks.l.length (fun _ x => kd [410, 411, 482] [(3, .slice x.p.a x.y.1.length x.p.c)]) (fun _ x => kP [(21, some (.bytes w.heap.size (.slice x.p.a x.y.1.length x.p.c) x.y.1)), (3, some (.blk (p1 3).g 4 #[.bool x.y.2]))]) (fun k (x : Lx (List Int × Bool)) => x.y.1 = blosB (be32 p.sender) (p.blocks.l.take k) ∧ x.y.2 = (d0 && (p.blocks.l.take k).all bloOk)) ⟨⟨0, (p19 2).c, undef, (p19 2).a⟩, 0, [], be32 p.sender, d0⟩ (by omega) (by simp [blosB]) (fun k x a u hk hI hE hS K hK RK hRK => ?_) fun ⟨qq, _, _, y1, y2⟩ a u hI hE hS => ?_
  · obtain ⟨hk1, hk2⟩ := hI
    obtain ⟨q0, n0, xs0, l0, b0⟩ := x
    simp only at hk1 hk2
    have hr := hl _ (List.getElem_mem hk)
    have hi := hri _ (List.getElem_mem hk)
    have hct := blosB_take (be32 p.sender) p.blocks.l k hk
    have hS := stp_el hS 90 (el_at hlies (fun _ _ => rfl) rfl (fun g hg => ⟨hg, id⟩) k hk (by omega))
    generalize hrk : p.blocks.l[k] = r at hS hr hi hct
    rw [← hk1] at hct
    have hxl : l0.length ≤ 70368744170000 := by omega
    generalize hc0 : decide (((r.mets.l.length : Nat) : Int) ≤ 16384) = c0
    refine rgp hE hS [ie 90, le 90 0, nw 91, st 91] (fun p21 => kp [(28, pt (p21 2).g 0)]) (fun p21 => kP [(91, some (.blk (p21 2).g 107 (Blo.cells r).toArray))]) (fun _ => ⟨kr (show k < p.blocks.l.length from hk), trivial⟩) fun p21 a u hE hS => ?_
    refine rgp (hchk := by intro p; cases b0 <;> kernel_rfl) hE hS [ld 3, pu, gs (b0) (pu), gs (b0) (ld 91), gs (b0) (pu), gs (b0) (pe (.bool c0)), pu, st 3] (fun _ => kp []) (fun _ => kP [(3, some (.blk (p1 3).g 4 #[.bool (b0 && c0)]))]) (fun _ => ⟨fun hb => by cases hb; exact kr (congrArg Value.bool hc0), trivial⟩) fun _ a u hE hS => ?_
    refine dgp hE hS [pu, pu, ld 91, cl p32c [] [21], pu, ld 91, cl p16c [] [21], pu, ld 91, pu, pu, cl p16c [] [21], pu] (fun p23 => kp [(3, .slice (p23 11).a (l0 ++ be32 r.media ++ be16 r.first ++ be16 (((r.mets.l.length : Int) % 65536))).length (p23 11).c)]) (fun p23 => kP [(21, some (.bytes w.heap.size (.slice (p23 11).a (l0 ++ be32 r.media ++ be16 r.first ++ be16 (((r.mets.l.length : Int) % 65536))).length (p23 11).c) (l0 ++ be32 r.media ++ be16 r.first ++ be16 (((r.mets.l.length : Int) % 65536)))))]) (fun _ => ⟨kr (show w.heap.size ≤ w.heap.size ∧ l0.length ≤ 70368744177000 ∧ 0 ≤ r.media ∧ r.media < 4294967296 from ⟨Nat.le_refl _, by omega, hr.1, hr.2.1⟩), kr (show w.heap.size ≤ w.heap.size ∧ (l0 ++ be32 r.media).length ≤ 70368744177000 ∧ 0 ≤ r.first ∧ r.first < 65536 from ⟨Nat.le_refl _, by simp only [List.length_append, be32_len]; omega, hr.2.2.1, hr.2.2.2.1⟩), kr (show w.heap.size ≤ w.heap.size ∧ (l0 ++ be32 r.media ++ be16 r.first).length ≤ 70368744177000 ∧ 0 ≤ ((r.mets.l.length : Int) % 65536) ∧ ((r.mets.l.length : Int) % 65536) < 65536 from ⟨Nat.le_refl _, by simp only [List.length_append, be32_len, be16_len]; omega, by omega, by omega⟩), trivial⟩) fun p23 a u hE hS => ?_
    refine wp_seq ?_
    refine rg hE hS [pu, ld 91, pu, pu] (fun _ => kn [(434, .slice r.mets.A (r.mets.l.length : Nat) r.mets.c), (435, .int .i64 (r.mets.l.length : Nat)), (436, .int .i64 0)] [1, 2, 3, 4, 408, 409, 410]) (fun _ => kN [] [21, 90, 3, 1, 2]) fun _ a u hE hS => ?_
    refine range_up hE hS 436 r.mets.l.length (fun _ z => kd [436, 437, 479] [(3, .slice z.p.a z.y.1.length z.p.c)]) (fun _ z => kP [(21, some (.bytes w.heap.size (.slice z.p.a z.y.1.length z.p.c) z.y.1)), (3, some (.blk (p1 3).g 4 #[.bool z.y.2]))]) (fun j (z : Lx (List Int × Bool)) => z.y.1 = l0 ++ be32 r.media ++ be16 r.first ++ be16 (((r.mets.l.length : Int) % 65536)) ++ (r.mets.l.take j).flatMap (fun x => be16 (metV x)) ∧ z.y.2 = ((b0 && c0) && (r.mets.l.take j).all metOk)) ⟨⟨0, (p23 11).c, undef, (p23 11).a⟩, 0, [], l0 ++ be32 r.media ++ be16 r.first ++ be16 (((r.mets.l.length : Int) % 65536)), (b0 && c0)⟩ (by omega) (by simp) (fun j z a u hj hI hE hS J hJ RJ hRJ => ?_) fun ⟨qq1, _, _, y1, y2⟩ a u hI1 hE hS => ?_
    · obtain ⟨hj1, hj2⟩ := hI
      obtain ⟨q1, n1, xs1, l1, b1⟩ := z
      simp only at hj1 hj2
      have hs := hr.2.2.2.2.2 _ (List.getElem_mem hj)
      have hS := stp_el hS 95 (el_at hi (fun _ _ => rfl) rfl (fun g hg => ⟨hg, id⟩) j hj (by omega))
      generalize hsj : r.mets.l[j] = s at hS hs
      have hzl : l1.length ≤ 70368744170000 := by rw [hj1]; simp only [List.length_append, be32_len, be16_len]; have := fl_len (r.mets.l.take j) (fun x => be16 (metV x)) 2 (fun _ => rfl); simp only [List.length_take] at this; omega
      obtain ⟨c3, ecn, off⟩ := s
      generalize hc1 : decide (ecn < 4) = c1
      generalize hc2 : decide (off < 8192) = c2
      generalize hc4 : (ecn == 0) = c4
      generalize hc5 : (off == 0) = c5
      refine rgp hE hS [ie 95, le 95 0, nw 96, st 96] (fun p25 => kp [(30, pt (p25 2).g 0)]) (fun p25 => kP [(96, some (.blk (p25 2).g 112 (Met.cells ⟨c3, ecn, off⟩).toArray))]) (fun _ => ⟨kr (show j < r.mets.l.length from hj), trivial⟩) fun p25 a u hE hS => ?_
      refine rgp (hchk := by intro p; cases b1 <;> cases c1 <;> cases c2 <;> cases c3 <;> cases c4 <;> kernel_rfl) hE hS [ld 3, pu, gs (b1) (pu), gs (b1) (ld 96), gs (b1) (pe (.bool c1)), pu, pu, gs (b1 && c1) (pu), gs (b1 && c1) (ld 96), gs (b1 && c1) (pe (.bool c2)), pu, pu, gs (b1 && c1 && c2) (pu), gs (b1 && c1 && c2) (ld 96), gs (b1 && c1 && c2) (pu), gu (b1 && c1 && c2 && !c3) (!(b1 && c1 && c2)) (pu), gu (b1 && c1 && c2 && !c3) (!(b1 && c1 && c2)) (ld 96), gu (b1 && c1 && c2 && !c3) (!(b1 && c1 && c2)) (pe (.bool c4)), gu (b1 && c1 && c2 && !c3) (!(b1 && c1 && c2)) (pu), gu (b1 && c1 && c2 && !c3 && c4) (!(b1 && c1 && c2 && !c3)) (pu), gu (b1 && c1 && c2 && !c3 && c4) (!(b1 && c1 && c2 && !c3)) (ld 96), gu (b1 && c1 && c2 && !c3 && c4) (!(b1 && c1 && c2 && !c3)) (pe (.bool c5)), gu (b1 && c1 && c2 && !c3) (!(b1 && c1 && c2)) (pu), gs (b1 && c1 && c2) (pu), pu, st 3] (fun _ => kp []) (fun _ => kP [(3, some (.blk (p1 3).g 4 #[.bool (b1 && c1 && c2 && (c3 || c4 && c5))]))]) (fun _ => ⟨fun hb => by cases hb; exact kr (congrArg Value.bool hc1), fun hb => by simp only [Bool.and_eq_true] at hb; obtain ⟨rfl, rfl⟩ := hb; exact kr (congrArg Value.bool hc2), fun hb => by simp only [Bool.and_eq_true, Bool.not_eq_true'] at hb; obtain ⟨⟨⟨rfl, rfl⟩, rfl⟩, rfl⟩ := hb; exact kr (congrArg Value.bool hc4), fun hb => by simp only [Bool.and_eq_true, Bool.not_eq_true'] at hb; obtain ⟨⟨⟨⟨rfl, rfl⟩, rfl⟩, rfl⟩, rfl⟩ := hb; exact kr (congrArg Value.bool hc5), trivial⟩) fun _ a u hE hS => ?_
      refine rg hE hS [pu, ld 96, pu, pu, pu, ld 96, pu, pu] (fun _ => kp [(31, .int .u16 (metW ⟨c3, ecn, off⟩))]) (fun _ => kP []) fun _ a u hE hS => ?_
      refine wp_seq ?_
      refine rg hE hS [pu, ld 96] (fun _ => kp [(473, .bool c3)]) (fun _ => kP []) fun _ a u hE hS => ?_
      cases c3 with
      | true =>
        refine ift hE ?_
        refine rgE hE hS [pu, pu, pu] (fun _ => kn [(31, .int .u16 (metV ⟨true, ecn, off⟩))] [1, 2, 3, 4, 408, 409, 410, 434, 435, 436]) (fun _ => kN [] [95, 21, 3, 90, 1, 2]) (fun _ => trivial) fun _ a u hE hS => ?_
        refine rgE hE hS [pu, pu, cl p16c [] [21], pu] (fun p30 => kp [(3, .slice (p30 2).a (l1 ++ be16 (metV ⟨true, ecn, off⟩)).length (p30 2).c)]) (fun p30 => kP [(21, some (.bytes w.heap.size (.slice (p30 2).a (l1 ++ be16 (metV ⟨true, ecn, off⟩)).length (p30 2).c) (l1 ++ be16 (metV ⟨true, ecn, off⟩))))]) (fun _ => ⟨kr (show w.heap.size ≤ w.heap.size ∧ l1.length ≤ 70368744177000 ∧ 0 ≤ (metV ⟨true, ecn, off⟩) ∧ (metV ⟨true, ecn, off⟩) < 65536 from ⟨Nat.le_refl _, by omega, (metV_in _).1, (metV_in _).2⟩), trivial⟩) fun p30 a u hE hS => ?_
        exact hJ ⟨(p30 2), 0, [], l1 ++ be16 (metV ⟨true, ecn, off⟩), (b1 && c1 && c2 && (true || c4 && c5))⟩ a u _ _ ⟨by rw [hj1, List.take_succ_eq_append_getElem hj, List.flatMap_append, hsj]; simp, by rw [hj2, List.take_succ_eq_append_getElem hj, List.all_append, hsj]; simp [metOk, hc1, hc2, hc4, hc5, Bool.and_assoc]⟩ hE hS (by kernel_rfl)
      | false =>
        refine iff hE ?_
        refine wp_skip ?_
        refine rgE hE hS [pu, pu, cl p16c [] [21], pu] (fun p31 => kn [(3, .slice (p31 2).a (l1 ++ be16 (metV ⟨false, ecn, off⟩)).length (p31 2).c)] [1, 2, 4, 408, 409, 410, 434, 435, 436]) (fun p31 => kN [(21, some (.bytes w.heap.size (.slice (p31 2).a (l1 ++ be16 (metV ⟨false, ecn, off⟩)).length (p31 2).c) (l1 ++ be16 (metV ⟨false, ecn, off⟩))))] [95, 3, 90, 1, 2]) (fun _ => ⟨kr (show w.heap.size ≤ w.heap.size ∧ l1.length ≤ 70368744177000 ∧ 0 ≤ (metV ⟨false, ecn, off⟩) ∧ (metV ⟨false, ecn, off⟩) < 65536 from ⟨Nat.le_refl _, by omega, (metV_in _).1, (metV_in _).2⟩), trivial⟩) fun p31 a u hE hS => ?_
        exact hJ ⟨(p31 2), 0, [], l1 ++ be16 (metV ⟨false, ecn, off⟩), (b1 && c1 && c2 && (false || c4 && c5))⟩ a u _ _ ⟨by rw [hj1, List.take_succ_eq_append_getElem hj, List.flatMap_append, hsj]; simp, by rw [hj2, List.take_succ_eq_append_getElem hj, List.all_append, hsj]; simp [metOk, hc1, hc2, hc4, hc5, Bool.and_assoc]⟩ hE hS (by kernel_rfl)
    simp only [List.take_length] at hI1
    obtain ⟨h1, h2⟩ := hI1
    subst h1 h2
    refine rgE hE hS [pu, cl padc [] [21], pu] (fun p32 => kp [(3, .slice (p32 1).a (padB (l0 ++ be32 r.media ++ be16 r.first ++ be16 (((r.mets.l.length : Int) % 65536)) ++ r.mets.l.flatMap (fun x => be16 (metV x)))).length (p32 1).c)]) (fun p32 => kP [(21, some (.bytes w.heap.size (.slice (p32 1).a (padB (l0 ++ be32 r.media ++ be16 r.first ++ be16 (((r.mets.l.length : Int) % 65536)) ++ r.mets.l.flatMap (fun x => be16 (metV x)))).length (p32 1).c) (padB (l0 ++ be32 r.media ++ be16 r.first ++ be16 (((r.mets.l.length : Int) % 65536)) ++ r.mets.l.flatMap (fun x => be16 (metV x))))))]) (fun _ => ⟨kr (show w.heap.size ≤ w.heap.size ∧ (l0 ++ be32 r.media ++ be16 r.first ++ be16 (((r.mets.l.length : Int) % 65536)) ++ r.mets.l.flatMap (fun x => be16 (metV x))).length ≤ 70368744177000 from ⟨Nat.le_refl _, by simp only [List.length_append, be32_len, be16_len]; have := fl_len r.mets.l (fun x => be16 (metV x)) 2 (fun _ => rfl); omega⟩), trivial⟩) fun p32 a u hE hS => ?_
    exact hK ⟨(p32 1), 0, [], padB (l0 ++ be32 r.media ++ be16 r.first ++ be16 (((r.mets.l.length : Int) % 65536)) ++ r.mets.l.flatMap (fun x => be16 (metV x))), ((b0 && c0) && r.mets.l.all metOk)⟩ a u _ _ ⟨by rw [hk1, List.take_succ_eq_append_getElem hk]; unfold blosB; rw [List.foldl_append, hrk]; rfl, by rw [hk2, List.take_succ_eq_append_getElem hk, List.all_append, hrk]; simp [bloOk, hc0, Bool.and_assoc]⟩ hE hS (by kernel_rfl)
  simp only [List.take_length] at hI
  obtain ⟨h1, h2⟩ := hI
  subst h1 h2
  refine rgE hE hS [pu, pu, ld 1, cl p32c [] [21], pu] (fun p33 => kp [(3, .slice (p33 3).a (blosB (be32 p.sender) p.blocks.l ++ be32 p.time).length (p33 3).c)]) (fun p33 => kP [(21, some (.bytes w.heap.size (.slice (p33 3).a (blosB (be32 p.sender) p.blocks.l ++ be32 p.time).length (p33 3).c) (blosB (be32 p.sender) p.blocks.l ++ be32 p.time)))]) (fun _ => ⟨kr (show w.heap.size ≤ w.heap.size ∧ (blosB (be32 p.sender) p.blocks.l).length ≤ 70368744177000 ∧ 0 ≤ p.time ∧ p.time < 4294967296 from ⟨Nat.le_refl _, by omega, ht0, ht1⟩), trivial⟩) fun p33 a u hE hS => ?_
  refine dgp hE hS [ld 2, pu, ld 3, st 2, pu, st 3] (fun _ => kn [] [2, 3, 4]) (fun _ => kN [] [21, 2, 3]) (fun _ => trivial) fun _ a u hE hS => ?_
  refine wp_ret ?_
  refine retctc hE hS Tryz.results52 2 3 (p1 1).g (p1 3).g 36 4 #[.bool false, .int .u8 11, .int .u8 205, .int .u16 0] #[.bool (d0 && p.blocks.l.all bloOk)] (.agg #[.bool false, .int .u8 11, .int .u8 205, .int .u16 0]) (.slice (p33 3).a (blosB (be32 p.sender) p.blocks.l ++ be32 p.time).length (p33 3).c) (.bool (d0 && p.blocks.l.all bloOk)) ?_
  exact ⟨_, rfl, pcO (base := w.heap.size) hS 21, hS.below⟩
set_option maxHeartbeats 4000000 in
set_option maxRecDepth 100000 in
theorem form_9 (p : Pkt) (w : World) (hk : p.kind = 9) (hs0 : 0 ≤ p.sender) (hs1 : p.sender < 4294967296) (hm0 : 0 ≤ p.media) (hm1 : p.media < 4294967296) :
    Calls Tryz.prog 52 #[.agg p.cells] w (Formed w 1 206 (be32 p.sender ++ be32 p.media) (true)) := by
  refine go_in Tryz.func52 rfl Tryz.ntmps52 [.agg p.cells] fun a hE => ?_
  have hS := stp_in w
  refine rg hE hS [nw 1, nw 2, pu, nw 3] (fun p1 => kp [(1, pt (p1 0).g 0), (2, pt (p1 1).g 0), (3, .slice none 0 0), (4, pt (p1 3).g 0)]) (fun p1 => kP [(1, some (.blk (p1 0).g 38 p.cells)), (2, some (.blk (p1 1).g 36 #[.bool false, .int .u8 0, .int .u8 0, .int .u16 0])), (3, some (.blk (p1 3).g 4 #[.bool false]))]) fun p1 a u hE hS => ?_
  refine rg hE hS [st 3] (fun _ => kp []) (fun _ => kP [(3, some (.blk (p1 3).g 4 #[.bool true]))]) fun _ a u hE hS => ?_
  refine dgp hE hS [nw 4, pu, ov (ld 1) (.int .i64 9), ix, ld 4, nw 5, pu, ov (ld 1) (.int .i64 9), ix, ld 5, pu, st 2] (fun _ => kp []) (fun _ => kP [(2, some (.blk (p1 1).g 36 #[.bool false, .int .u8 1, .int .u8 206, .int .u16 0]))]) (fun _ => ⟨fun _ => kr (congrArg (Value.int .i64) hk), kr (show 9 < 14 by omega), fun _ => kr (congrArg (Value.int .i64) hk), kr (show 9 < 14 by omega), trivial⟩) fun _ a u hE hS => ?_
  refine rg hE hS [pu, pu] (fun _ => kp [(5, .func (.func 72) #[] #[pt (p1 3).g 0, pt (p1 1).g 0])]) (fun _ => kP []) fun _ a u hE hS => ?_
  have hS := stp_bytes0 hS 20 w.heap.size
  refine dgp hE hS [pu, ld 1, cl p32c [] [20], pu, ld 1, cl p32c [] [20], pu] (fun p5 => kp [(6, .slice (p5 5).a (be32 p.sender ++ be32 p.media).length (p5 5).c)]) (fun p5 => kP [(20, some (.bytes w.heap.size (.slice (p5 5).a (be32 p.sender ++ be32 p.media).length (p5 5).c) (be32 p.sender ++ be32 p.media)))]) (fun _ => ⟨kr (show w.heap.size ≤ w.heap.size ∧ 0 ≤ 70368744177000 ∧ 0 ≤ p.sender ∧ p.sender < 4294967296 from ⟨Nat.le_refl _, by simp, hs0, hs1⟩), kr (show w.heap.size ≤ w.heap.size ∧ (be32 p.sender).length ≤ 70368744177000 ∧ 0 ≤ p.media ∧ p.media < 4294967296 from ⟨Nat.le_refl _, by simp [be32_len], hm0, hm1⟩), trivial⟩) fun p5 a u hE hS => ?_
  refine wp_seq ?_
  refine rgp hE hS [pu, ov (ld 1) (.int .i64 9)] (fun _ => kp [(51, .int .i64 9)]) (fun _ => kP []) (fun _ => ⟨fun _ => kr (congrArg (Value.int .i64) hk), trivial⟩) fun _ a u hE hS => ?_
  refine wp_block ?_
  refine wp_seq ?_
  refine rg hE hS [pu, pu] (fun _ => kp [(52, .bool false)]) (fun _ => kP []) fun _ a u hE hS => ?_
  refine iff hE ?_
  refine rgE hE hS [pu, pu] (fun _ => kp []) (fun _ => kP []) (fun _ => trivial) fun _ a u hE hS => ?_
  refine iff hE ?_
  refine rg hE hS [pu, pu] (fun _ => kp [(117, .bool false)]) (fun _ => kP []) fun _ a u hE hS => ?_
  refine iff hE ?_
  refine rg hE hS [pu, pu] (fun _ => kp [(172, .bool false)]) (fun _ => kP []) fun _ a u hE hS => ?_
  refine iff hE ?_
  refine rg hE hS [pu, pu] (fun _ => kp [(211, .bool false)]) (fun _ => kP []) fun _ a u hE hS => ?_
  refine iff hE ?_
  refine rg hE hS [pu, pu] (fun _ => kp [(247, .bool false)]) (fun _ => kP []) fun _ a u hE hS => ?_
  refine iff hE ?_
  refine wp_seq ?_
  refine rg hE hS [pu, pu] (fun _ => kp [(275, .bool false)]) (fun _ => kP []) fun _ a u hE hS => ?_
  refine iff hE ?_
  refine rgE hE hS [pu, pu] (fun _ => kp [(275, .bool true)]) (fun _ => kP []) (fun _ => trivial) fun _ a u hE hS => ?_
  refine ift hE ?_
  refine rgE hE hS [pu, pu] (fun _ => kp [(3, .slice (p5 5).a (be32 p.sender ++ be32 p.media).length (p5 5).c)]) (fun _ => kP []) (fun _ => trivial) fun _ a u hE hS => ?_
  refine dgp hE hS [ld 2, pu, ld 3, st 2, pu, st 3] (fun _ => kn [] [2, 3, 4]) (fun _ => kN [] [20, 2, 3]) (fun _ => trivial) fun _ a u hE hS => ?_
  refine wp_ret ?_
  refine retctc hE hS Tryz.results52 2 3 (p1 1).g (p1 3).g 36 4 #[.bool false, .int .u8 1, .int .u8 206, .int .u16 0] #[.bool true] (.agg #[.bool false, .int .u8 1, .int .u8 206, .int .u16 0]) (.slice (p5 5).a (be32 p.sender ++ be32 p.media).length (p5 5).c) (.bool true) ?_
  exact ⟨_, rfl, pcO (base := w.heap.size) hS 20, hS.below⟩
set_option maxHeartbeats 4000000 in
set_option maxRecDepth 100000 in
theorem form_10 (p : Pkt) (w : World) (hk : p.kind = 10) (hs0 : 0 ≤ p.sender) (hs1 : p.sender < 4294967296) (hm0 : 0 ≤ p.media) (hm1 : p.media < 4294967296) (hr : p.slices.Lies w w.heap.size 3 Slc.cells) (hn : p.slices.l.length ≤ 2147483647)
    (hl : ∀ x ∈ p.slices.l, 0 ≤ x.first ∧ x.first < 65536 ∧ 0 ≤ x.number ∧ x.number < 65536 ∧ 0 ≤ x.pic ∧ x.pic < 256) :
    Calls Tryz.prog 52 #[.agg p.cells] w (Formed w 2 206 (be32 p.sender ++ be32 p.media ++ slcsB p.slices.l) ((decide (0 < p.slices.l.length) && decide (((p.slices.l.length : Nat) : Int) ≤ 253)) && p.slices.l.all slcOk)) := by
  generalize hb1 : decide (0 < p.slices.l.length) = b1
  generalize hb2 : decide (((p.slices.l.length : Nat) : Int) ≤ 253) = b2
  have hq1 : decide ((p.slices.l.length : Int) > 0) = b1 := by rw [← hb1]; exact decide_eq_decide.2 (by omega)
  have hlies := hr
  clear hr
  refine go_in Tryz.func52 rfl Tryz.ntmps52 [.agg p.cells] fun a hE => ?_
  have hS := stp_in w
  refine rg hE hS [nw 1, nw 2, pu, nw 3] (fun p1 => kp [(1, pt (p1 0).g 0), (2, pt (p1 1).g 0), (3, .slice none 0 0), (4, pt (p1 3).g 0)]) (fun p1 => kP [(1, some (.blk (p1 0).g 38 p.cells)), (2, some (.blk (p1 1).g 36 #[.bool false, .int .u8 0, .int .u8 0, .int .u16 0])), (3, some (.blk (p1 3).g 4 #[.bool false]))]) fun p1 a u hE hS => ?_
  refine rg hE hS [st 3] (fun _ => kp []) (fun _ => kP [(3, some (.blk (p1 3).g 4 #[.bool true]))]) fun _ a u hE hS => ?_
  refine dgp hE hS [nw 4, pu, ov (ld 1) (.int .i64 10), ix, ld 4, nw 5, pu, ov (ld 1) (.int .i64 10), ix, ld 5, pu, st 2] (fun _ => kp []) (fun _ => kP [(2, some (.blk (p1 1).g 36 #[.bool false, .int .u8 2, .int .u8 206, .int .u16 0]))]) (fun _ => ⟨fun _ => kr (congrArg (Value.int .i64) hk), kr (show 10 < 14 by omega), fun _ => kr (congrArg (Value.int .i64) hk), kr (show 10 < 14 by omega), trivial⟩) fun _ a u hE hS => ?_
  refine rg hE hS [pu, pu] (fun _ => kp [(5, .func (.func 72) #[] #[pt (p1 3).g 0, pt (p1 1).g 0])]) (fun _ => kP []) fun _ a u hE hS => ?_
  have hS := stp_bytes0 hS 20 w.heap.size
  refine dgp hE hS [pu, ld 1, cl p32c [] [20], pu, ld 1, cl p32c [] [20], pu] (fun p5 => kp [(6, .slice (p5 5).a (be32 p.sender ++ be32 p.media).length (p5 5).c)]) (fun p5 => kP [(20, some (.bytes w.heap.size (.slice (p5 5).a (be32 p.sender ++ be32 p.media).length (p5 5).c) (be32 p.sender ++ be32 p.media)))]) (fun _ => ⟨kr (show w.heap.size ≤ w.heap.size ∧ 0 ≤ 70368744177000 ∧ 0 ≤ p.sender ∧ p.sender < 4294967296 from ⟨Nat.le_refl _, by simp, hs0, hs1⟩), kr (show w.heap.size ≤ w.heap.size ∧ (be32 p.sender).length ≤ 70368744177000 ∧ 0 ≤ p.media ∧ p.media < 4294967296 from ⟨Nat.le_refl _, by simp [be32_len], hm0, hm1⟩), trivial⟩) fun p5 a u hE hS => ?_
  refine wp_seq ?_
  refine rgp hE hS [pu, ov (ld 1) (.int .i64 10)] (fun _ => kp [(51, .int .i64 10)]) (fun _ => kP []) (fun _ => ⟨fun _ => kr (congrArg (Value.int .i64) hk), trivial⟩) fun _ a u hE hS => ?_
  refine wp_block ?_
  refine wp_seq ?_
  refine rg hE hS [pu, pu] (fun _ => kp [(52, .bool false)]) (fun _ => kP []) fun _ a u hE hS => ?_
  refine iff hE ?_
  refine rgE hE hS [pu, pu] (fun _ => kp []) (fun _ => kP []) (fun _ => trivial) fun _ a u hE hS => ?_
  refine iff hE ?_
  refine rg hE hS [pu, pu] (fun _ => kp [(117, .bool false)]) (fun _ => kP []) fun _ a u hE hS => ?_
  refine iff hE ?_
  refine rg hE hS [pu, pu] (fun _ => kp [(172, .bool false)]) (fun _ => kP []) fun _ a u hE hS => ?_
  refine iff hE ?_
  refine rg hE hS [pu, pu] (fun _ => kp [(211, .bool false)]) (fun _ => kP []) fun _ a u hE hS => ?_
  refine iff hE ?_
  refine rg hE hS [pu, pu] (fun _ => kp [(247, .bool false)]) (fun _ => kP []) fun _ a u hE hS => ?_
  refine iff hE ?_
  refine wp_seq ?_
  refine rg hE hS [pu, pu] (fun _ => kp [(275, .bool false)]) (fun _ => kP []) fun _ a u hE hS => ?_
  refine iff hE ?_
  refine rgE hE hS [pu, pu] (fun _ => kp []) (fun _ => kP []) (fun _ => trivial) fun _ a u hE hS => ?_
  refine iff hE ?_
  refine rg hE hS [pu, pu] (fun _ => kp [(279, .bool true)]) (fun _ => kP []) fun _ a u hE hS => ?_
  refine ift hE ?_
  refine dgp (hchk := by intro p; cases b1 <;> cases b2 <;> kernel_rfl) (hsep := by cases b1 <;> cases b2 <;> kernel_rfl) hE hS [pu, pu, ld 1, pu, pe (.bool b1), pu, gs (b1) (pu), gs (b1) (ld 1), gs (b1) (pu), gs (b1) (pe (.bool b2)), pu, pu, st 3] (fun _ => kp [(3, .slice (p5 5).a (be32 p.sender ++ be32 p.media).length (p5 5).c)]) (fun _ => kP [(3, some (.blk (p1 3).g 4 #[.bool (b1 && b2)]))]) (fun _ => ⟨kr (congrArg Value.bool hq1), fun hb => by cases hb; exact kr (congrArg Value.bool hb2), trivial⟩) fun _ a u hE hS => ?_
  refine rg hE hS [pu, ld 1, pu, pu] (fun _ => kn [(293, .slice p.slices.A (p.slices.l.length : Nat) p.slices.c), (294, .int .i64 (p.slices.l.length : Nat)), (295, .int .i64 0)] [2, 3, 4]) (fun _ => kN [] [20, 2, 3]) fun _ a u hE hS => ?_
  refine range_up hE hS 295 p.slices.l.length (fun _ x => kd [295, 296, 330] [(3, .slice x.p.a x.y.1.length x.p.c)]) (fun _ x => kP [(20, some (.bytes w.heap.size (.slice x.p.a x.y.1.length x.p.c) x.y.1)), (3, some (.blk (p1 3).g 4 #[.bool x.y.2]))]) (fun k (x : Lx (List Int × Bool)) => x.y.1 = be32 p.sender ++ be32 p.media ++ (p.slices.l.take k).flatMap (fun x => be32 (slcW x)) ∧ x.y.2 = ((b1 && b2) && (p.slices.l.take k).all slcOk)) ⟨⟨0, (p5 5).c, undef, (p5 5).a⟩, 0, [], be32 p.sender ++ be32 p.media, (b1 && b2)⟩ (by omega) (by simp) (fun k x a u hk hI hE hS K hK RK hRK => ?_) fun ⟨qq, _, _, y1, y2⟩ a u hI hE hS => ?_
  · obtain ⟨hk1, hk2⟩ := hI
    obtain ⟨q0, n0, xs0, l0, b0⟩ := x
    simp only at hk1 hk2
    have hr := hl _ (List.getElem_mem hk)
    have hS := stp_el hS 90 (el_at hlies (fun _ _ => rfl) rfl (fun g hg => ⟨hg, id⟩) k hk (by omega))
    generalize hrk : p.slices.l[k] = r at hS hr
    have hxl : l0.length ≤ 70368744170000 := by rw [hk1]; simp only [List.length_append, be32_len]; have := fl_len (p.slices.l.take k) ((fun x => be32 (slcW x))) 4 (fun _ => rfl); simp only [List.length_take] at this; omega
    generalize hc1 : decide (r.first < 8192) = c1
    generalize hc2 : decide (r.number < 8192) = c2
    generalize hc3 : decide (r.pic < 64) = c3
    refine rgp hE hS [ie 90, le 90 0, nw 91, st 91] (fun p18 => kp [(20, pt (p18 2).g 0)]) (fun p18 => kP [(91, some (.blk (p18 2).g 100 (Slc.cells r).toArray))]) (fun _ => ⟨kr (show k < p.slices.l.length from hk), trivial⟩) fun p18 a u hE hS => ?_
    refine rgp (hchk := by intro p; cases b0 <;> cases c1 <;> cases c2 <;> kernel_rfl) hE hS [ld 3, pu, gs (b0) (pu), gs (b0) (ld 91), gs (b0) (pe (.bool c1)), pu, pu, gs (b0 && c1) (pu), gs (b0 && c1) (ld 91), gs (b0 && c1) (pe (.bool c2)), pu, pu, gs (b0 && c1 && c2) (pu), gs (b0 && c1 && c2) (ld 91), gs (b0 && c1 && c2) (pe (.bool c3)), pu, st 3] (fun _ => kp []) (fun _ => kP [(3, some (.blk (p1 3).g 4 #[.bool (b0 && c1 && c2 && c3)]))]) (fun _ => ⟨fun hb => by cases hb; exact kr (congrArg Value.bool hc1), fun hb => by simp only [Bool.and_eq_true] at hb; obtain ⟨rfl, rfl⟩ := hb; exact kr (congrArg Value.bool hc2), fun hb => by simp only [Bool.and_eq_true] at hb; obtain ⟨⟨rfl, rfl⟩, rfl⟩ := hb; exact kr (congrArg Value.bool hc3), trivial⟩) fun _ a u hE hS => ?_
    refine rgE hE hS [pu, pu, ld 91, pu, pu, pu, ld 91, pu, pu, pu, pu, ld 91, pu, pu, cl p32c [] [20], pu] (fun p20 => kp [(3, .slice (p20 14).a (l0 ++ be32 (slcW r)).length (p20 14).c)]) (fun p20 => kP [(20, some (.bytes w.heap.size (.slice (p20 14).a (l0 ++ be32 (slcW r)).length (p20 14).c) (l0 ++ be32 (slcW r))))]) (fun _ => ⟨kr (show w.heap.size ≤ w.heap.size ∧ l0.length ≤ 70368744177000 ∧ 0 ≤ slcW r ∧ slcW r < 4294967296 from ⟨Nat.le_refl _, by omega, (slcW_bd r).1, (slcW_bd r).2⟩), trivial⟩) fun p20 a u hE hS => ?_
    exact hK ⟨(p20 14), 0, [], l0 ++ be32 (slcW r), (b0 && c1 && c2 && c3)⟩ a u _ _ ⟨by rw [hk1, List.take_succ_eq_append_getElem hk, List.flatMap_append, hrk]; simp, by rw [hk2, List.take_succ_eq_append_getElem hk, List.all_append, hrk]; simp [slcOk, hc1, hc2, hc3, Bool.and_assoc]⟩ hE hS (by kernel_rfl)
  simp only [List.take_length] at hI
  obtain ⟨h1, h2⟩ := hI
  subst h1 h2
  refine dgp hE hS [ld 2, pu, ld 3, st 2, pu, st 3] (fun _ => kp []) (fun _ => kP []) (fun _ => trivial) fun _ a u hE hS => ?_
  refine wp_ret ?_
  refine retctc hE hS Tryz.results52 2 3 (p1 1).g (p1 3).g 36 4 #[.bool false, .int .u8 2, .int .u8 206, .int .u16 0] #[.bool ((b1 && b2) && p.slices.l.all slcOk)] (.agg #[.bool false, .int .u8 2, .int .u8 206, .int .u16 0]) (.slice qq.a (be32 p.sender ++ be32 p.media ++ p.slices.l.flatMap (fun x => be32 (slcW x))).length qq.c) (.bool ((b1 && b2) && p.slices.l.all slcOk)) ?_
  exact ⟨_, rfl, pcO (base := w.heap.size) hS 20, hS.below⟩
set_option maxHeartbeats 4000000 in
set_option maxRecDepth 100000 in
theorem form_11 (p : Pkt) (w : World) (hk : p.kind = 11) (hs0 : 0 ≤ p.sender) (hs1 : p.sender < 4294967296) (hm0 : 0 ≤ p.media) (hm1 : p.media < 4294967296) (hr : p.entries.Lies w w.heap.size 2 Ent.cells) (hn : p.entries.l.length ≤ 2147483647)
    (hl : ∀ x ∈ p.entries.l, 0 ≤ x.ssrc ∧ x.ssrc < 4294967296) :
    Calls Tryz.prog 52 #[.agg p.cells] w (Formed w 4 206 (be32 p.sender ++ be32 p.media ++ entsB p.entries.l) (decide (0 < p.entries.l.length))) := by
  generalize hb1 : decide (0 < p.entries.l.length) = b1
  have hq1 : decide ((p.entries.l.length : Int) > 0) = b1 := by rw [← hb1]; exact decide_eq_decide.2 (by omega)
  have hlies := hr
  clear hr
  refine go_in Tryz.func52 rfl Tryz.ntmps52 [.agg p.cells] fun a hE => ?_
  have hS := stp_in w
  refine rg hE hS [nw 1, nw 2, pu, nw 3] (fun p1 => kp [(1, pt (p1 0).g 0), (2, pt (p1 1).g 0), (3, .slice none 0 0), (4, pt (p1 3).g 0)]) (fun p1 => kP [(1, some (.blk (p1 0).g 38 p.cells)), (2, some (.blk (p1 1).g 36 #[.bool false, .int .u8 0, .int .u8 0, .int .u16 0])), (3, some (.blk (p1 3).g 4 #[.bool false]))]) fun p1 a u hE hS => ?_
  refine rg hE hS [st 3] (fun _ => kp []) (fun _ => kP [(3, some (.blk (p1 3).g 4 #[.bool true]))]) fun _ a u hE hS => ?_
  refine dgp hE hS [nw 4, pu, ov (ld 1) (.int .i64 11), ix, ld 4, nw 5, pu, ov (ld 1) (.int .i64 11), ix, ld 5, pu, st 2] (fun _ => kp []) (fun _ => kP [(2, some (.blk (p1 1).g 36 #[.bool false, .int .u8 4, .int .u8 206, .int .u16 0]))]) (fun _ => ⟨fun _ => kr (congrArg (Value.int .i64) hk), kr (show 11 < 14 by omega), fun _ => kr (congrArg (Value.int .i64) hk), kr (show 11 < 14 by omega), trivial⟩) fun _ a u hE hS => ?_
  refine rg hE hS [pu, pu] (fun _ => kp [(5, .func (.func 72) #[] #[pt (p1 3).g 0, pt (p1 1).g 0])]) (fun _ => kP []) fun _ a u hE hS => ?_
  have hS := stp_bytes0 hS 20 w.heap.size
  refine dgp hE hS [pu, ld 1, cl p32c [] [20], pu, ld 1, cl p32c [] [20], pu] (fun p5 => kp [(6, .slice (p5 5).a (be32 p.sender ++ be32 p.media).length (p5 5).c)]) (fun p5 => kP [(20, some (.bytes w.heap.size (.slice (p5 5).a (be32 p.sender ++ be32 p.media).length (p5 5).c) (be32 p.sender ++ be32 p.media)))]) (fun _ => ⟨kr (show w.heap.size ≤ w.heap.size ∧ 0 ≤ 70368744177000 ∧ 0 ≤ p.sender ∧ p.sender < 4294967296 from ⟨Nat.le_refl _, by simp, hs0, hs1⟩), kr (show w.heap.size ≤ w.heap.size ∧ (be32 p.sender).length ≤ 70368744177000 ∧ 0 ≤ p.media ∧ p.media < 4294967296 from ⟨Nat.le_refl _, by simp [be32_len], hm0, hm1⟩), trivial⟩) fun p5 a u hE hS => ?_
  refine wp_seq ?_
  refine rgp hE hS [pu, ov (ld 1) (.int .i64 11)] (fun _ => kp [(51, .int .i64 11)]) (fun _ => kP []) (fun _ => ⟨fun _ => kr (congrArg (Value.int .i64) hk), trivial⟩) fun _ a u hE hS => ?_
  refine wp_block ?_
  refine wp_seq ?_
  refine rg hE hS [pu, pu] (fun _ => kp [(52, .bool false)]) (fun _ => kP []) fun _ a u hE hS => ?_
  refine iff hE ?_
  refine rgE hE hS [pu, pu] (fun _ => kp []) (fun _ => kP []) (fun _ => trivial) fun _ a u hE hS => ?_
  refine iff hE ?_
  refine rg hE hS [pu, pu] (fun _ => kp [(117, .bool false)]) (fun _ => kP []) fun _ a u hE hS => ?_
  refine iff hE ?_
  refine rg hE hS [pu, pu] (fun _ => kp [(172, .bool false)]) (fun _ => kP []) fun _ a u hE hS => ?_
  refine iff hE ?_
  refine rg hE hS [pu, pu] (fun _ => kp [(211, .bool false)]) (fun _ => kP []) fun _ a u hE hS => ?_
  refine iff hE ?_
  refine rg hE hS [pu, pu] (fun _ => kp [(247, .bool false)]) (fun _ => kP []) fun _ a u hE hS => ?_
  refine iff hE ?_
  refine wp_seq ?_
  refine rg hE hS [pu, pu] (fun _ => kp [(275, .bool false)]) (fun _ => kP []) fun _ a u hE hS => ?_
  refine iff hE ?_
  refine rgE hE hS [pu, pu] (fun _ => kp []) (fun _ => kP []) (fun _ => trivial) fun _ a u hE hS => ?_
  refine iff hE ?_
  refine rg hE hS [pu, pu] (fun _ => kp [(279, .bool false)]) (fun _ => kP []) fun _ a u hE hS => ?_
  refine iff hE ?_
  refine rg hE hS [pu, pu] (fun _ => kp [(331, .bool true)]) (fun _ => kP []) fun _ a u hE hS => ?_
  refine ift hE ?_
  refine dgp hE hS [pu, pu, ld 1, pu, pe (.bool b1), pu, st 3] (fun _ => kp [(3, .slice (p5 5).a (be32 p.sender ++ be32 p.media).length (p5 5).c)]) (fun _ => kP [(3, some (.blk (p1 3).g 4 #[.bool b1]))]) (fun _ => ⟨kr (congrArg Value.bool hq1), trivial⟩) fun _ a u hE hS => ?_
  refine rg hE hS [pu, ld 1, pu, pu] (fun _ => kn [(339, .slice p.entries.A (p.entries.l.length : Nat) p.entries.c), (340, .int .i64 (p.entries.l.length : Nat)), (341, .int .i64 0)] [2, 3, 4]) (fun _ => kN [] [20, 2, 3]) fun _ a u hE hS => ?_
  refine range_up hE hS 341 p.entries.l.length (fun _ x => kd [341, 342, 353] [(3, .slice x.p.a x.y.1.length x.p.c)]) (fun _ x => kP [(20, some (.bytes w.heap.size (.slice x.p.a x.y.1.length x.p.c) x.y.1))]) (fun k (x : Lx (List Int × Bool)) => x.y.1 = be32 p.sender ++ be32 p.media ++ (p.entries.l.take k).flatMap (fun x => be32 x.ssrc ++ [x.n, 0, 0, 0]) ∧ x.y.2 = true) ⟨⟨0, (p5 5).c, undef, (p5 5).a⟩, 0, [], be32 p.sender ++ be32 p.media, true⟩ (by omega) (by simp) (fun k x a u hk hI hE hS K hK RK hRK => ?_) fun ⟨qq, _, _, y1, y2⟩ a u hI hE hS => ?_
  · obtain ⟨hk1, hk2⟩ := hI
    obtain ⟨q0, n0, xs0, l0, b0⟩ := x
    simp only at hk1 hk2
    have hr := hl _ (List.getElem_mem hk)
    have hS := stp_el hS 90 (el_at hlies (fun _ _ => rfl) rfl (fun g hg => ⟨hg, id⟩) k hk (by omega))
    generalize hrk : p.entries.l[k] = r at hS hr
    have hxl : l0.length ≤ 70368744170000 := by rw [hk1]; simp only [List.length_append, be32_len]; have := fl_len (p.entries.l.take k) ((fun x => be32 x.ssrc ++ [x.n, 0, 0, 0])) 8 (fun _ => rfl); simp only [List.length_take] at this; omega
    refine rgp hE hS [ie 90, le 90 0, nw 91, st 91] (fun p19 => kp [(22, pt (p19 2).g 0)]) (fun p19 => kP [(91, some (.blk (p19 2).g 103 (Ent.cells r).toArray))]) (fun _ => ⟨kr (show k < p.entries.l.length from hk), trivial⟩) fun p19 a u hE hS => ?_
    refine dgE hE hS [pu, pu, ld 91, cl p32c [] [20], pu, ld 91, nw 92, ab .lit 20 92, pu] (fun p20 => kp [(3, .slice (p20 7).a (l0 ++ be32 r.ssrc ++ [r.n, 0, 0, 0]).length (p20 7).c)]) (fun p20 => kP [(20, some (.bytes w.heap.size (.slice (p20 7).a (l0 ++ be32 r.ssrc ++ [r.n, 0, 0, 0]).length (p20 7).c) (l0 ++ be32 r.ssrc ++ [r.n, 0, 0, 0])))]) (fun _ => ⟨kr (show w.heap.size ≤ w.heap.size ∧ l0.length ≤ 70368744177000 ∧ 0 ≤ r.ssrc ∧ r.ssrc < 4294967296 from ⟨Nat.le_refl _, by omega, hr.1, hr.2⟩), kr (show w.heap.size ≤ w.heap.size ∧ (l0 ++ be32 r.ssrc ++ [r.n, 0, 0, 0]).length ≤ 140737488355328 from ⟨Nat.le_refl _, by simp [be32_len]; omega⟩), trivial⟩) fun p20 a u hE hS => ?_
    exact hK ⟨(p20 7), 0, [], l0 ++ be32 r.ssrc ++ [r.n, 0, 0, 0], true⟩ a u _ _ ⟨by rw [hk1, List.take_succ_eq_append_getElem hk, List.flatMap_append, hrk]; simp, rfl⟩ hE hS (by kernel_rfl)
  simp only [List.take_length] at hI
  obtain ⟨h1, h2⟩ := hI
  subst h1 h2
  refine dgp hE hS [ld 2, pu, ld 3, st 2, pu, st 3] (fun _ => kp []) (fun _ => kP []) (fun _ => trivial) fun _ a u hE hS => ?_
  refine wp_ret ?_
  refine retctc hE hS Tryz.results52 2 3 (p1 1).g (p1 3).g 36 4 #[.bool false, .int .u8 4, .int .u8 206, .int .u16 0] #[.bool b1] (.agg #[.bool false, .int .u8 4, .int .u8 206, .int .u16 0]) (.slice qq.a (be32 p.sender ++ be32 p.media ++ p.entries.l.flatMap (fun x => be32 x.ssrc ++ [x.n, 0, 0, 0])).length qq.c) (.bool b1) ?_
  exact ⟨_, rfl, pcO (base := w.heap.size) hS 20, hS.below⟩
set_option maxHeartbeats 4000000 in
set_option maxRecDepth 100000 in
theorem form_13 (p : Pkt) (w : World) (hk : p.kind = 13) (hs0 : 0 ≤ p.sender) (hs1 : p.sender < 4294967296) (hm0 : 0 ≤ p.media) (hm1 : p.media < 4294967296) :
    Calls Tryz.prog 52 #[.agg p.cells] w (Formed w 15 205 ([]) (false)) := by
  refine go_in Tryz.func52 rfl Tryz.ntmps52 [.agg p.cells] fun a hE => ?_
  have hS := stp_in w
  refine rg hE hS [nw 1, nw 2, pu, nw 3] (fun p1 => kp [(1, pt (p1 0).g 0), (2, pt (p1 1).g 0), (3, .slice none 0 0), (4, pt (p1 3).g 0)]) (fun p1 => kP [(1, some (.blk (p1 0).g 38 p.cells)), (2, some (.blk (p1 1).g 36 #[.bool false, .int .u8 0, .int .u8 0, .int .u16 0])), (3, some (.blk (p1 3).g 4 #[.bool false]))]) fun p1 a u hE hS => ?_
  refine rg hE hS [st 3] (fun _ => kp []) (fun _ => kP [(3, some (.blk (p1 3).g 4 #[.bool true]))]) fun _ a u hE hS => ?_
  refine dgp hE hS [nw 4, pu, ov (ld 1) (.int .i64 13), ix, ld 4, nw 5, pu, ov (ld 1) (.int .i64 13), ix, ld 5, pu, st 2] (fun _ => kp []) (fun _ => kP [(2, some (.blk (p1 1).g 36 #[.bool false, .int .u8 15, .int .u8 205, .int .u16 0]))]) (fun _ => ⟨fun _ => kr (congrArg (Value.int .i64) hk), kr (show 13 < 14 by omega), fun _ => kr (congrArg (Value.int .i64) hk), kr (show 13 < 14 by omega), trivial⟩) fun _ a u hE hS => ?_
  refine rg hE hS [pu, pu] (fun _ => kp [(5, .func (.func 72) #[] #[pt (p1 3).g 0, pt (p1 1).g 0])]) (fun _ => kP []) fun _ a u hE hS => ?_
  have hS := stp_bytes0 hS 20 w.heap.size
  have hS := stp_bytes0 hS 21 w.heap.size
  refine dgp hE hS [pu, ld 1, cl p32c [] [20], pu, ld 1, cl p32c [] [20], pu] (fun p5 => kp [(6, .slice (p5 5).a (be32 p.sender ++ be32 p.media).length (p5 5).c)]) (fun p5 => kP [(20, some (.bytes w.heap.size (.slice (p5 5).a (be32 p.sender ++ be32 p.media).length (p5 5).c) (be32 p.sender ++ be32 p.media)))]) (fun _ => ⟨kr (show w.heap.size ≤ w.heap.size ∧ 0 ≤ 70368744177000 ∧ 0 ≤ p.sender ∧ p.sender < 4294967296 from ⟨Nat.le_refl _, by simp, hs0, hs1⟩), kr (show w.heap.size ≤ w.heap.size ∧ (be32 p.sender).length ≤ 70368744177000 ∧ 0 ≤ p.media ∧ p.media < 4294967296 from ⟨Nat.le_refl _, by simp [be32_len], hm0, hm1⟩), trivial⟩) fun p5 a u hE hS => ?_
  refine wp_seq ?_
  refine rgp hE hS [pu, ov (ld 1) (.int .i64 13)] (fun _ => kp [(51, .int .i64 13)]) (fun _ => kP []) (fun _ => ⟨fun _ => kr (congrArg (Value.int .i64) hk), trivial⟩) fun _ a u hE hS => ?_
  refine wp_block ?_
  refine wp_seq ?_
  refine rg hE hS [pu, pu] (fun _ => kp [(52, .bool false)]) (fun _ => kP []) fun _ a u hE hS => ?_
  refine iff hE ?_
  refine rgE hE hS [pu, pu] (fun _ => kp []) (fun _ => kP []) (fun _ => trivial) fun _ a u hE hS => ?_
  refine iff hE ?_
  refine rg hE hS [pu, pu] (fun _ => kp [(117, .bool false)]) (fun _ => kP []) fun _ a u hE hS => ?_
  refine iff hE ?_
  refine rg hE hS [pu, pu] (fun _ => kp [(172, .bool false)]) (fun _ => kP []) fun _ a u hE hS => ?_
  refine iff hE ?_
  refine rg hE hS [pu, pu] (fun _ => kp [(211, .bool false)]) (fun _ => kP []) fun _ a u hE hS => ?_
  refine iff hE ?_
  refine rg hE hS [pu, pu] (fun _ => kp [(247, .bool false)]) (fun _ => kP []) fun _ a u hE hS => ?_
  refine iff hE ?_
  refine wp_seq ?_
  refine rg hE hS [pu, pu] (fun _ => kp [(275, .bool false)]) (fun _ => kP []) fun _ a u hE hS => ?_
  refine iff hE ?_
  refine rgE hE hS [pu, pu] (fun _ => kp []) (fun _ => kP []) (fun _ => trivial) fun _ a u hE hS => ?_
  refine iff hE ?_
  refine rg hE hS [pu, pu] (fun _ => kp [(279, .bool false)]) (fun _ => kP []) fun _ a u hE hS => ?_
  refine iff hE ?_
  refine rg hE hS [pu, pu] (fun _ => kp [(331, .bool false)]) (fun _ => kP []) fun _ a u hE hS => ?_
  refine iff hE ?_
  refine rg hE hS [pu, pu] (fun _ => kp [(354, .bool false)]) (fun _ => kP []) fun _ a u hE hS => ?_
  refine iff hE ?_
  refine rg hE hS [pu, pu] (fun _ => kn [(398, .bool false)] [1, 2, 3, 4]) (fun _ => kN [] [21, 1, 2, 3]) fun _ a u hE hS => ?_
  refine iff hE ?_
  refine rgE hE hS [st 3] (fun _ => kp []) (fun _ => kP [(3, some (.blk (p1 3).g 4 #[.bool false]))]) (fun _ => trivial) fun _ a u hE hS => ?_
  refine dgp hE hS [ld 2, pu, ld 3, st 2, pu, st 3] (fun _ => kn [] [2, 3, 4]) (fun _ => kN [] [21, 2, 3]) (fun _ => trivial) fun _ a u hE hS => ?_
  refine wp_ret ?_
  refine retctc hE hS Tryz.results52 2 3 (p1 1).g (p1 3).g 36 4 #[.bool false, .int .u8 15, .int .u8 205, .int .u16 0] #[.bool false] (.agg #[.bool false, .int .u8 15, .int .u8 205, .int .u16 0]) (.slice none 0 0) (.bool false) ?_
  exact ⟨_, rfl, pcO (base := w.heap.size) hS 21, hS.below⟩
end Go.Proofs.YtmmfpgoodfgkbaaGreat
