/-
  THE WALK of the reference's body of a packet. Condition: the kind; the numbers fit their kinds; fewer than 2^31 parts.
-/
import Derived.Test.YtmmfpgoodfgkbaaGreatForms
import Derived.Test.YtmmfpgoodfgkbaaGreatMant
namespace Go.Proofs.YtmmfpgoodfgkbaaGreat
open Go Go.RowKit
set_option linter.unusedVariables false

/-- The reference's exponent and mantissa as a contract. -/
def mantc : Ct Tryz.prog := ctPure 77 (fun args => .tuple #[.int .u32 (mantV (intOf (args.getD 0 undef)).toNat), .bool (mantF (intOf (args.getD 0 undef)).toNat)]) (fun args => [(.c args, .c #[.int .u32 (intOf (args.getD 0 undef))])]) (fun args => 0 ≤ intOf (args.getD 0 undef) ∧ intOf (args.getD 0 undef) < 4294967296) (by
  intro args w hc hp
  have h1 := hc _ (List.mem_singleton.2 rfl)
  injection h1 with h1
  generalize intOf (args.getD 0 undef) = b at *
  subst h1
  exact mantissa_any b w hp.1 hp.2)
set_option maxHeartbeats 4000000 in
set_option maxRecDepth 100000 in
theorem form_12 (p : Pkt) (w : World) (hk : p.kind = 12) (hs0 : 0 ≤ p.sender) (hs1 : p.sender < 4294967296) (hm0 : 0 ≤ p.media) (hm1 : p.media < 4294967296) (hb0 : 0 ≤ p.bits) (hb1 : p.bits < 4294967296) (hr : p.sources.Lies w w.heap.size 1 u32c) (hn : p.sources.l.length ≤ 2147483647) (hl : ∀ x ∈ p.sources.l, 0 ≤ x ∧ x < 4294967296) :
    Calls Tryz.prog 52 #[.agg p.cells] w (Formed w 15 206 (be32 p.sender ++ be32 0 ++ [82, 69, 77, 66, (p.sources.l.length : Int) % 256, mantV p.bits.toNat / 65536 % 256, mantV p.bits.toNat / 256 % 256, mantV p.bits.toNat % 256] ++ p.sources.l.flatMap be32) (mantF p.bits.toNat && decide (((p.sources.l.length : Nat) : Int) ≤ 255))) := by
  generalize hd0 : decide (((p.sources.l.length : Nat) : Int) ≤ 255) = d0
  generalize hm : mantV p.bits.toNat = m
  generalize hf : mantF p.bits.toNat = f
  have hlies := hr
  clear hr
  have hw1 : IntKind.u8.wrap (m.fdiv 65536) = m / 65536 % 256 := by rw [IntKind.wrap_u8, Int.fdiv_eq_ediv_of_nonneg _ (by omega)]
  have hw2 : IntKind.u8.wrap (m.fdiv 256) = m / 256 % 256 := by rw [IntKind.wrap_u8, Int.fdiv_eq_ediv_of_nonneg _ (by omega)]
  have hw3 : IntKind.u8.wrap m = m % 256 := IntKind.wrap_u8 _
  refine go_in Tryz.func52 rfl Tryz.ntmps52 [.agg p.cells] fun a hE => ?_
  have hS := stp_in w
  refine rg hE hS [nw 1, nw 2, pu, nw 3] (fun p1 => kp [(1, pt (p1 0).g 0), (2, pt (p1 1).g 0), (3, .slice none 0 0), (4, pt (p1 3).g 0)]) (fun p1 => kP [(1, some (.blk (p1 0).g 38 p.cells)), (2, some (.blk (p1 1).g 36 #[.bool false, .int .u8 0, .int .u8 0, .int .u16 0])), (3, some (.blk (p1 3).g 4 #[.bool false]))]) fun p1 a u hE hS => ?_
  refine rg hE hS [st 3] (fun _ => kp []) (fun _ => kP [(3, some (.blk (p1 3).g 4 #[.bool true]))]) fun _ a u hE hS => ?_
  refine dgp hE hS [nw 4, pu, ov (ld 1) (.int .i64 12), ix, ld 4, nw 5, pu, ov (ld 1) (.int .i64 12), ix, ld 5, pu, st 2] (fun _ => kp []) (fun _ => kP [(2, some (.blk (p1 1).g 36 #[.bool false, .int .u8 15, .int .u8 206, .int .u16 0]))]) (fun _ => ⟨fun _ => kr (congrArg (Value.int .i64) hk), kr (show 12 < 14 by omega), fun _ => kr (congrArg (Value.int .i64) hk), kr (show 12 < 14 by omega), trivial⟩) fun _ a u hE hS => ?_
  refine rg hE hS [pu, pu] (fun _ => kp [(5, .func (.func 72) #[] #[pt (p1 3).g 0, pt (p1 1).g 0])]) (fun _ => kP []) fun _ a u hE hS => ?_
  have hS := stp_bytes0 hS 21 w.heap.size
  have hS := stp_bytes0 hS 20 w.heap.size
  refine dgp hE hS [pu, ld 1, cl p32c [] [20], pu, ld 1, cl p32c [] [20], pu] (fun p5 => kp [(6, .slice (p5 5).a (be32 p.sender ++ be32 p.media).length (p5 5).c)]) (fun p5 => kP [(20, some (.bytes w.heap.size (.slice (p5 5).a (be32 p.sender ++ be32 p.media).length (p5 5).c) (be32 p.sender ++ be32 p.media)))]) (fun _ => ⟨kr (show w.heap.size ≤ w.heap.size ∧ 0 ≤ 70368744177000 ∧ 0 ≤ p.sender ∧ p.sender < 4294967296 from ⟨Nat.le_refl _, by simp, hs0, hs1⟩), kr (show w.heap.size ≤ w.heap.size ∧ (be32 p.sender).length ≤ 70368744177000 ∧ 0 ≤ p.media ∧ p.media < 4294967296 from ⟨Nat.le_refl _, by simp [be32_len], hm0, hm1⟩), trivial⟩) fun p5 a u hE hS => ?_
  refine wp_seq ?_
  refine rgp hE hS [pu, ov (ld 1) (.int .i64 12)] (fun _ => kp [(51, .int .i64 12)]) (fun _ => kP []) (fun _ => ⟨fun _ => kr (congrArg (Value.int .i64) hk), trivial⟩) fun _ a u hE hS => ?_
  refine wp_block ?_
  refine wp_seq ?_
  refine rg hE hS [pu, pu] (fun _ => kp [(52, .bool false)]) (fun _ => kP []) fun _ a u hE hS => ?_
  refine iff hE ?_
  refine rgE hE hS [pu, pu] (fun _ => kp []) (fun _ => kP []) (fun _ => trivial) fun _ a u hE hS => ?_
  refine iff hE ?_
  refine rg hE hS [pu, pu] (fun _ => kp [(117, .bool false)]) (fun _ => kP []) fun _ a u hE hS => ?_
  refine iff hE ?_
  refine rg hE hS [pu, pu] (fun _ => kp [(172, .bool false)]) (fun _ => kP []) fun _ a u hE hS => ?_
  refine iff hE ?_
  refine rg hE hS [pu, pu] (fun _ => kp [(211, .bool false)]) (fun _ => kP []) fun _ a u hE hS => ?_
  refine iff hE ?_
  refine rg hE hS [pu, pu] (fun _ => kp [(247, .bool false)]) (fun _ => kP []) fun _ a u hE hS => ?_
  refine iff hE ?_
  refine wp_seq ?_
  refine rg hE hS [pu, pu] (fun _ => kp [(275, .bool false)]) (fun _ => kP []) fun _ a u hE hS => ?_
  refine iff hE ?_
  refine rgE hE hS [pu, pu] (fun _ => kp []) (fun _ => kP []) (fun _ => trivial) fun _ a u hE hS => ?_
  refine iff hE ?_
  refine rg hE hS [pu, pu] (fun _ => kp [(279, .bool false)]) (fun _ => kP []) fun _ a u hE hS => ?_
  refine iff hE ?_
  refine rg hE hS [pu, pu] (fun _ => kp [(331, .bool false)]) (fun _ => kP []) fun _ a u hE hS => ?_
  refine iff hE ?_
  refine rg hE hS [pu, pu] (fun _ => kp [(354, .bool true)]) (fun _ => kP []) fun _ a u hE hS => ?_
  refine ift hE ?_
  refine rgp hE hS [pu, ld 1, cl mantc [] [], pu, pu, pu, pu, pu] (fun _ => kn [(23, .int .u32 (mantV p.bits.toNat)), (24, .bool (mantF p.bits.toNat))] [1, 2, 3, 4]) (fun _ => kN [] [21, 1, 2, 3]) (fun _ => ⟨kr (show 0 ≤ p.bits ∧ p.bits < 4294967296 from ⟨hb0, hb1⟩), trivial⟩) fun _ a u hE hS => ?_
  rw [hm, hf] at hE
  refine dgp (hchk := by intro p; cases f <;> kernel_rfl) (hsep := by cases f <;> kernel_rfl) hE hS [pu, ld 1, cl p32c [] [21], cl p32c [] [21], pu, ld 1, pu, pu, pu, pu, pe (.int .u8 (m / 65536 % 256)), pu, pu, pe (.int .u8 (m / 256 % 256)), pu, pe (.int .u8 (m % 256)), nw 92, ab .lit 21 92, pu, pu, gs (f) (pu), gs (f) (ld 1), gs (f) (pu), gs (f) (pe (.bool d0)), pu, pu, st 3] (fun p19 => kp [(3, .slice (p19 17).a (be32 p.sender ++ be32 (0 : Int) ++ [82, 69, 77, 66, (p.sources.l.length : Int) % 256, m / 65536 % 256, m / 256 % 256, m % 256]).length (p19 17).c)]) (fun p19 => kP [(21, some (.bytes w.heap.size (.slice (p19 17).a (be32 p.sender ++ be32 (0 : Int) ++ [82, 69, 77, 66, (p.sources.l.length : Int) % 256, m / 65536 % 256, m / 256 % 256, m % 256]).length (p19 17).c) (be32 p.sender ++ be32 (0 : Int) ++ [82, 69, 77, 66, (p.sources.l.length : Int) % 256, m / 65536 % 256, m / 256 % 256, m % 256]))), (3, some (.blk (p1 3).g 4 #[.bool (f && d0)]))]) (fun _ => ⟨kr (show w.heap.size ≤ w.heap.size ∧ 0 ≤ 70368744177000 ∧ 0 ≤ p.sender ∧ p.sender < 4294967296 from ⟨Nat.le_refl _, by simp, hs0, hs1⟩), kr (show w.heap.size ≤ w.heap.size ∧ (be32 p.sender).length ≤ 70368744177000 ∧ 0 ≤ (0 : Int) ∧ (0 : Int) < 4294967296 from ⟨Nat.le_refl _, by simp [be32_len], by omega, by omega⟩), kr (congrArg (Value.int .u8) hw1), kr (congrArg (Value.int .u8) hw2), kr (congrArg (Value.int .u8) hw3), kr (show w.heap.size ≤ w.heap.size ∧ (be32 p.sender ++ be32 (0 : Int) ++ [82, 69, 77, 66, (p.sources.l.length : Int) % 256, m / 65536 % 256, m / 256 % 256, m % 256]).length ≤ 140737488355328 from ⟨Nat.le_refl _, by simp [be32_len]⟩), fun hb => by cases hb; exact kr (congrArg Value.bool hd0), trivial⟩) fun p19 a u hE hS => ?_
  refine rg hE hS [pu, ld 1, pu, pu] (fun _ => kn [(388, .slice p.sources.A (p.sources.l.length : Nat) p.sources.c), (389, .int .i64 (p.sources.l.length : Nat)), (390, .int .i64 0)] [2, 3, 4]) (fun _ => kN [] [21, 2, 3]) fun _ a u hE hS => ?_
  refine range_up hE hS 390 p.sources.l.length (fun _ x => kd [390, 391, 397] [(3, .slice x.p.a x.y.1.length x.p.c)]) (fun _ x => kP [(21, some (.bytes w.heap.size (.slice x.p.a x.y.1.length x.p.c) x.y.1))]) (fun k (x : Lx (List Int × Bool)) => x.y.1 = be32 p.sender ++ be32 (0 : Int) ++ [82, 69, 77, 66, (p.sources.l.length : Int) % 256, m / 65536 % 256, m / 256 % 256, m % 256] ++ (p.sources.l.take k).flatMap be32 ∧ x.y.2 = true) ⟨⟨0, (p19 17).c, undef, (p19 17).a⟩, 0, [], be32 p.sender ++ be32 (0 : Int) ++ [82, 69, 77, 66, (p.sources.l.length : Int) % 256, m / 65536 % 256, m / 256 % 256, m % 256], true⟩ (by omega) (by simp) (fun k x a u hk hI hE hS K hK RK hRK => ?_) fun ⟨qq, _, _, y1, y2⟩ a u hI hE hS => ?_
  · obtain ⟨hk1, hk2⟩ := hI
    obtain ⟨q0, n0, xs0, l0, b0⟩ := x
    simp only at hk1 hk2
    have hr := hl _ (List.getElem_mem hk)
    have hS := stp_el hS 90 (el_at hlies (fun _ _ => rfl) rfl (fun g hg => ⟨hg, id⟩) k hk (by omega))
    generalize hrk : p.sources.l[k] = r at hS hr
    have hxl : l0.length ≤ 70368744170000 := by rw [hk1]; simp only [List.length_append, be32_len, List.length_cons, List.length_nil]; have := fl_len (p.sources.l.take k) (be32) 4 (fun _ => rfl); simp only [List.length_take] at this; omega
    refine rgp hE hS [ie 90, le 90 0, pu] (fun _ => kp [(26, .int .u32 r)]) (fun _ => kP []) (fun _ => ⟨kr (show k < p.sources.l.length from hk), trivial⟩) fun _ a u hE hS => ?_
    refine rgE hE hS [pu, pu, cl p32c [] [21], pu] (fun p22 => kp [(3, .slice (p22 2).a (l0 ++ be32 r).length (p22 2).c)]) (fun p22 => kP [(21, some (.bytes w.heap.size (.slice (p22 2).a (l0 ++ be32 r).length (p22 2).c) (l0 ++ be32 r)))]) (fun _ => ⟨kr (show w.heap.size ≤ w.heap.size ∧ l0.length ≤ 70368744177000 ∧ 0 ≤ r ∧ r < 4294967296 from ⟨Nat.le_refl _, by omega, hr.1, hr.2⟩), trivial⟩) fun p22 a u hE hS => ?_
    exact hK ⟨(p22 2), 0, [], l0 ++ be32 r, true⟩ a u _ _ ⟨by rw [hk1, List.take_succ_eq_append_getElem hk, List.flatMap_append, hrk]; simp, rfl⟩ hE hS (by kernel_rfl)
  simp only [List.take_length] at hI
  obtain ⟨h1, h2⟩ := hI
  subst h1 h2
  refine dgp hE hS [ld 2, pu, ld 3, st 2, pu, st 3] (fun _ => kp []) (fun _ => kP []) (fun _ => trivial) fun _ a u hE hS => ?_
  refine wp_ret ?_
  refine retctc hE hS Tryz.results52 2 3 (p1 1).g (p1 3).g 36 4 #[.bool false, .int .u8 15, .int .u8 206, .int .u16 0] #[.bool (f && d0)] (.agg #[.bool false, .int .u8 15, .int .u8 206, .int .u16 0]) (.slice qq.a (be32 p.sender ++ be32 (0 : Int) ++ [82, 69, 77, 66, (p.sources.l.length : Int) % 256, m / 65536 % 256, m / 256 % 256, m % 256] ++ p.sources.l.flatMap be32).length qq.c) (.bool (f && d0)) ?_
  exact ⟨_, rfl, pcO (base := w.heap.size) hS 21, hS.below⟩
end Go.Proofs.YtmmfpgoodfgkbaaGreat
