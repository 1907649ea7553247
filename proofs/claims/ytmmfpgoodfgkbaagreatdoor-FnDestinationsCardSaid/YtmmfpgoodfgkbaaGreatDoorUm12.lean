/-
  THE WALK of the package's reading of a bitrate. Condition: the bytes lie in memory, apart from the packet's block; the header says the kind; the reference reads them.
-/
import Derived.Test.YtmmfpgoodfgkbaaGreatDoorUm8
import Derived.Test.YtmmfpgoodfgkbaaGreatDoorRbr
namespace Go.Proofs.YtmmfpgoodfgkbaaGreatDoor
open Go Go.RowKit
set_option maxHeartbeats 4000000
set_option maxRecDepth 100000
set_option linter.unusedVariables false
set_option linter.unusedSimpArgs false

theorem and1b (x : Int) (h0 : 0 ≤ x) (h1 : x < 256) : bits .and .u8 x 1 = x % 2 := by
 have h31 : (BitVec.ofInt 8 1).toNat = 2 ^ 1 - 1 := by decide
 have key : (BitVec.ofInt 8 x &&& BitVec.ofInt 8 1).toNat = (x % ((2 ^ 8 : Nat) : Int)).toNat % 2 ^ 1 := by
  rw [BitVec.toNat_and, BitVec.toNat_ofInt, h31, Nat.and_two_pow_sub_one_eq_mod]
 show IntKind.u8.wrap ((BitVec.ofInt 8 x &&& BitVec.ofInt 8 1).toNat : Nat) = _
 rw [key, IntKind.wrap_u8]
 omega
theorem and23 (x : Int) (h0 : 0 ≤ x) (h1 : x < 4294967296) : bits .and .u32 x 8388607 = x % 8388608 := by
 have h31 : (BitVec.ofInt 32 8388607).toNat = 2 ^ 23 - 1 := by decide
 have key : (BitVec.ofInt 32 x &&& BitVec.ofInt 32 8388607).toNat = (x % ((2 ^ 32 : Nat) : Int)).toNat % 2 ^ 23 := by
  rw [BitVec.toNat_and, BitVec.toNat_ofInt, h31, Nat.and_two_pow_sub_one_eq_mod]
 show IntKind.u32.wrap ((BitVec.ofInt 32 x &&& BitVec.ofInt 32 8388607).toNat : Nat) = _
 rw [key, IntKind.wrap_u32]
 omega
theorem and_p23 (x : Nat) (h : x < 16777216) : (x &&& 2 ^ 23 = 0) ↔ x < 8388608 := by
 constructor
 ·intro h0
  have h1 : (x &&& 2 ^ 23).testBit 23 = false := by rw [h0]; exact Nat.zero_testBit 23
  rw [Nat.testBit_and, Nat.testBit_two_pow_self, Bool.and_true, Nat.testBit_eq_decide_div_mod_eq] at h1
  have := of_decide_eq_false h1
  omega
 ·intro hlt
  apply Nat.eq_of_testBit_eq
  intro i
  rw [Nat.testBit_and, Nat.zero_testBit, Nat.testBit_two_pow]
  by_cases e : 23 = i
  ·subst e
   rw [Nat.testBit_lt_two_pow (by omega)]
   rfl
  ·rw [decide_eq_false e, Bool.and_false]
theorem bit23 (x : Nat) (h : x < 16777216) : (bits .and .u32 ((x : Nat) : Int) 8388608 == 0) = decide (x < 8388608) := by
 have h31 : (BitVec.ofInt 32 8388608).toNat = 2 ^ 23 := by decide
 have hx : (((x : Nat) : Int) % ((2 ^ 32 : Nat) : Int)).toNat = x := by omega
 have key : (BitVec.ofInt 32 ((x : Nat) : Int) &&& BitVec.ofInt 32 8388608).toNat = x &&& 2 ^ 23 := by
  rw [BitVec.toNat_and, BitVec.toNat_ofInt, h31, hx]
 have hle : x &&& 2 ^ 23 ≤ x := Nat.and_le_left
 have h23 := and_p23 x h
 show (IntKind.u32.wrap ((BitVec.ofInt 32 ((x : Nat) : Int) &&& BitVec.ofInt 32 8388608).toNat : Nat) == 0) = _
 rw [key, IntKind.wrap_u32]
 generalize x &&& 2 ^ 23 = q at *
 by_cases hlt : x < 8388608
 ·rw [decide_eq_true hlt, h23.2 hlt]; rfl
 ·rw [decide_eq_false hlt]
  exact beq_eq_false_iff_ne.2 (by have : q ≠ 0 := fun e => hlt (h23.1 e); omega)
theorem remb_str : strB [82, 69, 77, 66] = (⟨#[82, 69, 77, 66]⟩ : ByteArray) := by kernel_rfl
theorem cut_need (z : List Int) (k a b c : Nat) (h : b ≤ z.length) (hc : z.length ≤ c) (ha : a + k ≤ b) (hk : 0 < k) : k ≤ ((z.take b).drop a).length ∧ ((z.take b).drop a).length ≤ c - a ∧ 0 < ((z.take b).drop a).length := by
 rw [List.length_drop, List.length_take, Nat.min_eq_left h]
 omega
theorem streqb_run (x y : ByteArray) (h : x.toList = y.toList) : ∀ w, ((do let v ← binOp .eql 9 (.string x) (.string y); pure (Next.value v) : Sem Next).run Tryz.prog w) = .ok (.value (.bool true)) w := fun w => by
 go_simp
theorem beq_any (A A2 : Option Addr) (c c2 : Nat) (l l2 : List Int) (w : World) (hr : Reads w w.heap.size 1 A l.length (u8s l)) (hr2 : Reads w w.heap.size 1 A2 l2.length (u8s l2)) (hz : Byts l) (hz2 : Byts l2) (he : (strB l).toList = (strB l2).toList) : Calls Tryz.prog 111 #[.slice A l.length c, .slice A2 l2.length c2] w fun e w' => e = .returned (.bool true) ∧ Below w.heap.size w w' := by
 refine go_in Tryz.func111 rfl Tryz.ntmps111 [.slice A l.length c, .slice A2 l2.length c2] fun a hE => ?_
 have hS := stp_in w
 have hS := stp_ry hS 111 hr (fun x hx => ⟨hx, id⟩) hz
 have hS := stp_ry hS 112 hr2 (fun x hx => ⟨hx, id⟩) hz2
 refine rg hE hS [pu] (fun _ => kp [(4, .bool false)]) kP0 fun _ a u hE hS => ?_
 refine rgp hE hS [pu, rt 111, pu, rt 112, pf (.bool true), pu] (fun _ => kp [(4, .bool true)]) kP0 (fun _ => ⟨kr (streqb_run (strB l) (strB l2) he), trivial⟩) fun _ a u hE hS => ?_
 refine wp_ret ?_
 exact ret1 hE Tryz.results111 (.bool true) ⟨rfl, hS.below⟩
theorem cu_beq {olds : Nat → Prop} {w0 : World} {D : Nat → Prop} {A : Option Addr} {l : List Int} {g : Nat} (j k c n : Nat) (hn : n = l.length) (he : (strB l).toList = (strB [82, 69, 77, 66]).toList) (L' : PL) (w : World) (hps : [some (.ry D A l), some (.blk g 5 #[.int .u8 82, .int .u8 69, .int .u8 77, .int .u8 66])] = ([j, k] ++ []).map (lookP L')) (hS : Stp olds w0 w (restr ([j, k] ++ []) (lookM (den olds w0 L')))) :
  Calls Tryz.prog 111 #[.slice A n c, .slice (some ⟨g, 0, none⟩) 4 4] w fun e w' => ∃ x : Pay, e = .returned (.bool true) ∧ Stp (blksOf (lookM (den olds w0 L')) []) w w' (lookM (den olds w0 (zipW [] []))) := by
 subst hn
 simp only [List.append_nil, List.map_cons, List.map_nil, List.cons.injEq] at hps
 obtain ⟨hb, hr, hD, hz, _⟩ := ub_facts (ks := [j, k] ++ []) hps.1.symm hps.2.1.symm (by simp) (by simp) hS
 have h1 : Reads w w.heap.size 1 A l.length (u8s l) := ⟨by rw [u8s_len]; simp, fun hn => by obtain ⟨ad, e, h1, h2⟩ := hr hn; exact ⟨ad, e, (hD _ h1).1, h2⟩⟩
 have h2 : Reads w w.heap.size 1 (some ⟨g, 0, none⟩) 4 (u8s [82, 69, 77, 66]) := (blk_rows (B := 0) (size := 1) (n := 4) hb (Nat.zero_le _) rfl).reads
 exact (beq_any A _ c 4 l [82, 69, 77, 66] w h1 h2 hz (by intro x hx; simp at hx; rcases hx with rfl | rfl | rfl | rfl <;> omega) he).mono fun e w' ⟨h, hB⟩ => ⟨pay0, h, stp_of_below hB⟩

theorem um_12 (g b o c : Nat) (z : List Int) (D : Nat → Prop) (w : World) {L : Nat} (hd : Hd z false 15 206 L) (hb : Blk w g 196 #[.int .u32 0, .float .f32 0, .slice none 0 0]) (hr : RowD w D (some ⟨b, o, none⟩) z) (hD : ∀ x, D x → x < w.heap.size ∧ x ≠ g) (hc : z.length ≤ c) (hzl : z.length = 4 * (L + 1)) (n v : Nat) (hm0 : rd32 ((z.drop 4).drop 4) 0 = 0) (hrm : (strB (((z.drop 4).drop 8).take 4)).toList = (⟨#[82, 69, 77, 66]⟩ : ByteArray).toList) (hlen : ((z.drop 4).drop 8).length = 8 + 4 * n) (hn : gi ((z.drop 4).drop 8) 4 = (n : Int)) (hv : rd24 (((z.drop 4).drop 8).drop 5) 0 = (v : Int)) (hM : v % 262144 ≠ 0) :
  Calls Tryz.prog 170 #[.pointer (some ⟨g, 0, none⟩), .slice (some ⟨b, o, none⟩) z.length c] w fun e w' => e = .returned .nilIface ∧ w.grownBy w' (some g) ∧ ∃ (A : Option Addr) (c2 : Nat), Blk w' g 196 #[.int .u32 (rd32 (z.drop 4) 0), .float .f32 (sgl (v % 262144) (v / 262144)), .slice A n c2] ∧ InRows w' w.heap.size w'.heap.size 1 A n ((parts4 srcB 4 n (((z.drop 4).drop 8).drop 8)).flatMap u32c) := by
 refine go_in Tryz.func170 rfl Tryz.ntmps170 [pt g 0, sv b o z.length c] fun a hE => ?_
 have hS := stp_blk1 101 hb
 have hS := stp_ry1 hS 110 hr (fun x hx => ⟨(hD x hx).1, (hD x hx).2⟩) hd.byts
 have h4 := hd.len
 have hL : L ≤ 65535 := by have h1 := hd.ln; have h2 := rd16_lt hd.byts 2; omega
 have hg0 := hd.byts.gi 0
 have hg16 := hd.byts.gi 16
 have hyl : ((z.drop 4).drop 8).length = z.length - 12 := by rw [List.drop_drop, List.length_drop]
 have hn16 : gi z 16 = (n : Int) := by rw [← hn, List.drop_drop, gi_drop]
 have hmd : rd32 (z.drop 8) 0 = 0 := by rw [← hm0, List.drop_drop]
 have hpad := hd.padB
 rw [and1b (gi z 0 / 32) (by omega) (by omega)] at hpad
 replace hpad := of_decide_eq_false hpad
 have hM9 := Lib.hid hM
 clear hM
 have hrm16 : (strB ((z.take 16).drop 12)).toList = (strB [82, 69, 77, 66]).toList := by
  have e : ((z.drop 4).drop 8).take 4 = (z.take 16).drop 12 := by rw [List.drop_drop, List.take_drop]
  rw [e] at hrm
  rw [hrm, remb_str]
 refine rg hE hS [pu] (fun _ => kp [(4, .nilIface)]) kP0 fun _ a u hE hS => ?_
 refine wp_seq ?_
 refine rgp hE hS [pu, pu, pe (.bool false)] (fun _ => kp [(18, .bool false)]) kP0 (fun _ => ⟨kr (cbV (dfV (show ¬ (((z.length : Nat) : Int) < 20) by omega))), trivial⟩) fun _ a u hE hS => iff hE <| wp_skip ?_
 refine rgp hE hS [pu, ix, rb 110 0, pe (.int .u8 2), pu] (fun _ => kp [(5, .int .u8 2)]) kP0 (fun _ => ⟨kr (show 0 < z.length by omega), kr (show 0 < (z).length by omega), kr (show Value.int .u8 ((gi z 0).fdiv 64) = .int .u8 2 from (shrv .u8 (gi z 0) 64 (by decide)).trans (by rw [hd.ver])), trivial⟩) fun _ a u hE hS => ?_
 refine wp_seq ?_
 refine rg hE hS [pu, pu] (fun _ => kp [(25, .bool false)]) kP0 fun _ a u hE hS => ?_
 have hE := end_env (s := ⟨_, []⟩) (s' := ⟨[(0, pt g 0), (1, sv b o z.length c), (4, .nilIface), (25, .bool false)], []⟩) (fst_snd (by kernel_rfl)) hE
 have hS := end_mem (s := ⟨[], _⟩) (s' := ⟨[], [(110, some (.ry D (some ⟨b, o, none⟩) z)), (101, some (.blk g 196 #[.int .u32 0, .float .f32 0, .slice none 0 0]))]⟩) (fst_snd (by kernel_rfl)) hS
 refine iff hE <| wp_skip ?_
 refine rgp hE hS [pu, ix, rb 110 0, pe (.int .u8 (gi z 0 / 32)), pe (.int .u8 0), pu] (fun _ => kp [(6, .int .u8 0)]) kP0 (fun _ => ⟨kr (show 0 < z.length by omega), kr (show 0 < (z).length by omega), kr (shrv .u8 (gi z 0) 32 (by decide)), kr (congrArg (Value.int .u8) ((and1b (gi z 0 / 32) (by omega) (by omega)).trans (show gi z 0 / 32 % 2 = 0 by omega))), trivial⟩) fun _ a u hE hS => ?_
 refine wp_seq ?_
 refine rg hE hS [pu, pu] (fun _ => kp [(33, .bool false)]) kP0 fun _ a u hE hS => iff hE <| wp_skip ?_
 refine rgp hE hS [pu, ix, rb 110 0, pe (.int .u8 15), pu] (fun _ => kp [(7, .int .u8 15)]) kP0 (fun _ => ⟨kr (show 0 < z.length by omega), kr (show 0 < (z).length by omega), kr (congrArg (Value.int .u8) hd.cnt), trivial⟩) fun _ a u hE hS => ?_
 refine wp_seq ?_
 refine rg hE hS [pu, pu] (fun _ => kp [(40, .bool false)]) kP0 fun _ a u hE hS => ?_
 have hE := end_env (s := ⟨_, []⟩) (s' := ⟨[(0, pt g 0), (1, sv b o z.length c), (4, .nilIface), (40, .bool false)], []⟩) (fst_snd (by kernel_rfl)) hE
 have hS := end_mem (s := ⟨[], _⟩) (s' := ⟨[], [(110, some (.ry D (some ⟨b, o, none⟩) z)), (101, some (.blk g 196 #[.int .u32 0, .float .f32 0, .slice none 0 0]))]⟩) (fst_snd (by kernel_rfl)) hS
 refine iff hE <| wp_skip ?_
 refine wp_seq ?_
 refine rgp hE hS [pu, ix, rb 110 1, pe (.bool false)] (fun _ => kp [(45, .bool false)]) kP0 (fun _ => ⟨kr (show 1 < z.length by omega), kr (show 1 < (z).length by omega), kr (cbV (show (gi z 1 != 206) = false by rw [hd.ty]; rfl)), trivial⟩) fun _ a u hE hS => iff hE <| wp_skip ?_
 refine rgp hE hS [pu, rsl 110 111, cl cB16 [111] [], pu] (fun _ => kp [(8, .int .u16 (rd16 ((z.take 4).drop 2) 0))]) kP0 (fun _ => ⟨kr (show 2 ≤ 4 ∧ 4 ≤ z.length ∧ z.length ≤ c by omega), kr (show 2 ≤ ((z.take 4).drop 2).length ∧ ((z.take 4).drop 2).length ≤ (c - 2) ∧ 0 < ((z.take 4).drop 2).length by exact cut_need z 2 2 4 c (by omega) hc (by omega) (by decide)), trivial⟩) fun _ a u hE hS => ?_
 rw [rd16_cut z 2 4 (by omega), rd16_drop, hd.ln] at hE
 refine rgp hE hS [pu, pe (.int .u16 ((L + 1 : Nat) : Int)), pe (.int .u16 ((4 * (L + 1) : Nat) : Int)), pe (.int .i64 ((4 * (L + 1) : Nat) : Int)), pu] (fun _ => kp [(9, .int .i64 ((4 * (L + 1) : Nat) : Int))]) kP0 (fun _ => ⟨kr (congrArg (Value.int .u16) (show IntKind.u16.wrap (((L : Nat) : Int) + 1) = ((L + 1 : Nat) : Int) by rw [IntKind.wrap_u16]; omega)), kr (congrArg (Value.int .u16) (show IntKind.u16.wrap (((L + 1 : Nat) : Int) * 4) = ((4 * (L + 1) : Nat) : Int) by rw [IntKind.wrap_u16]; omega)), kr (ciV (wiV ((4 * (L + 1) : Nat) : Int) (by omega))), trivial⟩) fun _ a u hE hS => ?_
 refine wp_seq ?_
 refine rgp hE hS [pu, pe (.bool false)] (fun _ => kp [(55, .bool false)]) kP0 (fun _ => ⟨kr (cbV (dfV (show ¬ (((4 * (L + 1) : Nat) : Int) < 20) by omega))), trivial⟩) fun _ a u hE hS => ?_
 have hE := end_env (s := ⟨_, []⟩) (s' := ⟨[(0, pt g 0), (1, sv b o z.length c), (4, .nilIface), (9, .int .i64 ((4 * (L + 1) : Nat) : Int)), (55, .bool false)], []⟩) (fst_snd (by kernel_rfl)) hE
 have hS := end_mem (s := ⟨[], _⟩) (s' := ⟨[], [(110, some (.ry D (some ⟨b, o, none⟩) z)), (101, some (.blk g 196 #[.int .u32 0, .float .f32 0, .slice none 0 0]))]⟩) (fst_snd (by kernel_rfl)) hS
 refine iff hE <| wp_skip ?_
 refine wp_seq ?_
 refine rgp hE hS [pu, pu, pu, pe (.bool false)] (fun _ => kp [(60, .bool false)]) kP0 (fun _ => ⟨kr (cbV (dfV (show ¬ (((z.length : Nat) : Int) < ((4 * (L + 1) : Nat) : Int)) by omega))), trivial⟩) fun _ a u hE hS => iff hE <| wp_skip ?_
 refine rgp hE hS [pu, pu, rsl 110 111, cl cB32 [111] [], pu, pu, st 101] kp0 (fun _ => kP [(101, some (.blk g 196 #[.int .u32 (rd32 ((z.take 8).drop 4) 0), .float .f32 0, .slice none 0 0]))]) (fun _ => ⟨kr (show 4 ≤ 8 ∧ 8 ≤ z.length ∧ z.length ≤ c by omega), kr (show 4 ≤ ((z.take 8).drop 4).length ∧ ((z.take 8).drop 4).length ≤ (c - 4) ∧ 0 < ((z.take 8).drop 4).length by exact cut_need z 4 4 8 c (by omega) hc (by omega) (by decide)), trivial⟩) fun _ a u hE hS => ?_
 rw [rd32_cut z 4 8 (by omega)] at hS
 refine rgp hE hS [pu, rsl 110 111, cl cB32 [111] [], pu] (fun _ => kp [(10, .int .u32 (rd32 ((z.take 12).drop 8) 0))]) kP0 (fun _ => ⟨kr (show 8 ≤ 12 ∧ 12 ≤ z.length ∧ z.length ≤ c by omega), kr (show 4 ≤ ((z.take 12).drop 8).length ∧ ((z.take 12).drop 8).length ≤ (c - 8) ∧ 0 < ((z.take 12).drop 8).length by exact cut_need z 4 8 12 c (by omega) hc (by omega) (by decide)), trivial⟩) fun _ a u hE hS => ?_
 rw [rd32_cut z 8 12 (by omega), hmd] at hE
 refine wp_seq ?_
 refine rg hE hS [pu, pu] (fun _ => kp [(72, .bool false)]) kP0 fun _ a u hE hS => ?_
 have hE := end_env (s := ⟨_, []⟩) (s' := ⟨[(0, pt g 0), (1, sv b o z.length c), (4, .nilIface), (9, .int .i64 ((4 * (L + 1) : Nat) : Int)), (72, .bool false)], []⟩) (fst_snd (by kernel_rfl)) hE
 have hS := end_mem (s := ⟨[], _⟩) (s' := ⟨[], [(110, some (.ry D (some ⟨b, o, none⟩) z)), (101, some (.blk g 196 #[.int .u32 (rd32 (z.drop 4) 0), .float .f32 0, .slice none 0 0]))]⟩) (fst_snd (by kernel_rfl)) hS
 refine iff hE <| wp_skip ?_
 refine wp_seq ?_
 refine rgp hE hS [pu, rsl 110 111, nw 92, cu 111 [111, 92] [] (fun _ => .bool true) (fun _ => []), pu] (fun _ => kp [(78, .bool false)]) kP0 (fun p17 => ⟨kr (show 12 ≤ 16 ∧ 16 ≤ z.length ∧ z.length ≤ c by omega), kr (cu_beq (olds := (· = g)) (w0 := w) (D := D) (A := some ⟨(p17 1).g, (p17 1).c, none⟩) (l := (z.take 16).drop 12) (g := (p17 2).g) 111 92 (c - 12) _ rfl hrm16), trivial⟩) fun _ a u hE hS => iff hE <| wp_skip ?_
 refine rgp hE hS [pu, ix, rb 110 16, pe (.int .i64 (n : Nat)), pu] (fun _ => kp [(11, .int .i64 (n : Nat))]) kP0 (fun _ => ⟨kr (show 16 < z.length by omega), kr (show 16 < (z).length by omega), kr (ciV (show IntKind.i64.wrap (gi z 16) = ((n : Nat) : Int) from (wiV _ (by omega)).trans (by omega))), trivial⟩) fun _ a u hE hS => ?_
 refine wp_seq ?_
 refine rgp hE hS [pu, pu, pe (.int .i64 ((4 * n : Nat) : Int)), pe (.int .i64 ((20 + 4 * n : Nat) : Int)), pe (.bool false)] (fun _ => kp [(88, .bool false)]) kP0 (fun _ => ⟨kr (ciV (show IntKind.i64.wrap ((4 : Int) * ((n : Nat) : Int)) = ((4 * n : Nat) : Int) from by rw [wiV _ (by omega)]; omega)), kr (ciV (show IntKind.i64.wrap ((20 : Int) + ((4 * n : Nat) : Int)) = ((20 + 4 * n : Nat) : Int) from by rw [wiV _ (by omega)]; omega)), kr (cbV (show (((4 * (L + 1) : Nat) : Int) != ((20 + 4 * n : Nat) : Int)) = false by rw [show 4 * (L + 1) = 20 + 4 * n by omega]; simp)), trivial⟩) fun _ a u hE hS => iff hE <| wp_skip ?_
 have hg17 := hd.byts.gi 17
 have hg18 := hd.byts.gi 18
 have hg19 := hd.byts.gi 19
 have hv3 : gi z 17 * 65536 + gi z 18 * 256 + gi z 19 = (v : Int) := by rw [← hv, List.drop_drop, List.drop_drop, rd24_drop]; rfl
 have hM : v % 262144 ≠ 0 := hM9
 obtain ⟨M, hMv⟩ : ∃ M, v % 262144 = M := ⟨_, rfl⟩
 obtain ⟨E, hEv⟩ : ∃ E, v / 262144 = E := ⟨_, rfl⟩
 rw [hMv] at hM
 have hM0 : 0 < M := by omega
 have hM1 : M < 262144 := by omega
 have hE63 : E ≤ 63 := by omega
 have hup := ups_le hM0 hM1
 have hua := ups_at hM0 hM1
 obtain ⟨U, hU⟩ : ∃ U, ups M = U := ⟨_, rfl⟩
 have hul : ∀ j, j < U → M * 2 ^ j < 8388608 := fun j hj => ups_lt hM0 hM1 (by omega)
 obtain ⟨G, hG⟩ : ∃ G, sgl M E = G := ⟨_, rfl⟩
 have hGp := sgl_parts (k := E) hM0 hM1
 rw [hG, hU] at hGp
 rw [hU] at hup hua
 refine rgp hE hS [pu, ix, rb 110 17, pe (.int .u8 ((E : Nat) : Int)), pu] (fun _ => kp [(12, .int .u8 ((E : Nat) : Int))]) kP0 (fun _ => ⟨kr (show 17 < z.length by omega), kr (show 17 < (z).length by omega), kr ((shrv .u8 (gi z 17) 4 (by decide)).trans (congrArg (Value.int .u8) (show gi z 17 / 4 = ((E : Nat) : Int) by omega))), trivial⟩) fun _ a u hE hS => ?_
 have hE := end_env (s := ⟨_, []⟩) (s' := ⟨[(0, pt g 0), (1, sv b o z.length c), (4, .nilIface), (9, .int .i64 ((4 * (L + 1) : Nat) : Int)), (12, .int .u8 ((E : Nat) : Int))], []⟩) (fst_snd (by kernel_rfl)) hE
 have hS := end_mem (s := ⟨[], _⟩) (s' := ⟨[], [(110, some (.ry D (some ⟨b, o, none⟩) z)), (101, some (.blk g 196 #[.int .u32 (rd32 (z.drop 4) 0), .float .f32 0, .slice none 0 0]))]⟩) (fst_snd (by kernel_rfl)) hS
 refine rgp hE hS [pu, pe (.int .u8 ((E + 127 : Nat) : Int)), pu] (fun _ => kp [(12, .int .u8 ((E + 127 : Nat) : Int))]) kP0 (fun _ => ⟨kr (congrArg (Value.int .u8) (show IntKind.u8.wrap (((E : Nat) : Int) + 127) = ((E + 127 : Nat) : Int) by rw [IntKind.wrap_u8]; omega)), trivial⟩) fun _ a u hE hS => ?_
 refine rgp hE hS [pu, pe (.int .u8 ((E + 150 : Nat) : Int)), pu] (fun _ => kp [(12, .int .u8 ((E + 150 : Nat) : Int))]) kP0 (fun _ => ⟨kr (congrArg (Value.int .u8) (show IntKind.u8.wrap (((E + 127 : Nat) : Int) + 23) = ((E + 150 : Nat) : Int) by rw [IntKind.wrap_u8]; omega)), trivial⟩) fun _ a u hE hS => ?_
 refine dgp hE hS [pu, ix, rb 110 17, pe (.int .u8 (gi z 17 % 4)), pe (.int .u32 (gi z 17 % 4)), pe (.int .u32 (gi z 17 % 4 * 65536)), pu, ix, rb 110 18, pe (.int .u32 (gi z 18)), pe (.int .u32 (gi z 18 * 256)), pe (.int .u32 (gi z 17 % 4 * 65536 + gi z 18 * 256)), pu, ix, rb 110 19, pe (.int .u32 (gi z 19)), pe (.int .u32 ((M : Nat) : Int)), pu] (fun _ => kp [(13, .int .u32 ((M : Nat) : Int))]) kP0 (fun _ => ⟨kr (show 17 < z.length by omega), kr (show 17 < (z).length by omega), kr (congrArg (Value.int .u8) (and3b (gi z 17) (by omega) (by omega))), kr (congrArg (Value.int .u32) (show IntKind.u32.wrap (gi z 17 % 4) = gi z 17 % 4 by rw [IntKind.wrap_u32]; omega)), kr (congrArg (Value.int .u32) (show IntKind.u32.wrap (gi z 17 % 4 * 65536) = gi z 17 % 4 * 65536 by rw [IntKind.wrap_u32]; omega)), kr (show 18 < z.length by omega), kr (show 18 < (z).length by omega), kr (congrArg (Value.int .u32) (show IntKind.u32.wrap (gi z 18) = gi z 18 by rw [IntKind.wrap_u32]; omega)), kr (congrArg (Value.int .u32) (show IntKind.u32.wrap (gi z 18 * 256) = gi z 18 * 256 by rw [IntKind.wrap_u32]; omega)), kr (congrArg (Value.int .u32) (or32 (x := gi z 17 % 4 * 65536) (y := gi z 18 * 256) 16 (by omega) (by omega) (by omega) (by omega) (by omega) (by omega))), kr (show 19 < z.length by omega), kr (show 19 < (z).length by omega), kr (congrArg (Value.int .u32) (show IntKind.u32.wrap (gi z 19) = gi z 19 by rw [IntKind.wrap_u32]; omega)), kr (congrArg (Value.int .u32) ((or32 (x := gi z 17 % 4 * 65536 + gi z 18 * 256) (y := gi z 19) 8 (by omega) (by omega) (by omega) (by omega) (by omega) (by omega)).trans (show gi z 17 % 4 * 65536 + gi z 18 * 256 + gi z 19 = ((M : Nat) : Int) by omega))), trivial⟩) fun _ a u hE hS => ?_
 refine wp_seq ?_
 refine rgp hE hS [pu, pe (.bool true)] (fun _ => kn [(116, .bool true)] [0, 1, 4, 9, 12, 13]) (fun _ => kN [] [110, 101]) (fun _ => ⟨kr (cbV (bne_iff_ne.2 (show ((M : Nat) : Int) ≠ 0 by omega))), trivial⟩) fun _ a u hE hS => ?_
 have hE := end_env (s := ⟨_, []⟩) (s' := ⟨[(0, pt g 0), (1, sv b o z.length c), (4, .nilIface), (9, .int .i64 ((4 * (L + 1) : Nat) : Int)), (12, .int .u8 ((E + 150 : Nat) : Int)), (13, .int .u32 ((M : Nat) : Int)), (116, .bool true)], []⟩) (fst_snd (by kernel_rfl)) hE
 have hS := end_mem (s := ⟨[], _⟩) (s' := ⟨[], [(110, some (.ry D (some ⟨b, o, none⟩) z)), (101, some (.blk g 196 #[.int .u32 (rd32 (z.drop 4) 0), .float .f32 0, .slice none 0 0]))]⟩) (fst_snd (by kernel_rfl)) hS
 refine ift hE ?_
 rw [show ((M : Nat) : Int) = ((M * 2 ^ 0 : Nat) : Int) by simp] at hE
 refine wp_block ?_
 refine loop_k hE hS U (fun i v0 => kd [12, 13, 116] [(12, .int .u8 ((E + 150 - i : Nat) : Int)), (13, .int .u32 ((M * 2 ^ i : Nat) : Int))]) (fun i v0 => kN [] [101, 110]) (fun i (v0 : Unit) => True) () (trivial) ?_
 intro i v0 a u hki hIi hE hS Ki hKi
 obtain hi1 := hIi
 by_cases hlt : i < U
 ·skip
  have hui := hul i hlt
  have hp2 : M * 2 ^ (i + 1) = M * 2 ^ i * 2 := by rw [Nat.pow_succ, Nat.mul_assoc]
  refine wp_seq ?_
  refine rgp hE hS [pu, pu, pe (.bool true)] (fun _ => kp [(119, .bool true)]) kP0 (fun _ => ⟨kr (cbV ((bit23 (M * 2 ^ i) (by omega)).trans (decide_eq_true (by omega)))), trivial⟩) fun _ a u hE hS => ift hE <| wp_skip <| wp_block ?_
  refine rgp hE hS [pu, pe (.int .u8 ((E + 150 - (i + 1) : Nat) : Int)), pu] (fun _ => kp [(12, .int .u8 ((E + 150 - (i + 1) : Nat) : Int))]) kP0 (fun _ => ⟨kr (congrArg (Value.int .u8) (show IntKind.u8.wrap (((E + 150 - i : Nat) : Int) - 1) = ((E + 150 - (i + 1) : Nat) : Int) by rw [IntKind.wrap_u8]; omega)), trivial⟩) fun _ a u hE hS => ?_
  refine rgE hE hS [pu, pe (.int .u32 ((M * 2 ^ (i + 1) : Nat) : Int)), pu] (fun _ => kp [(13, .int .u32 ((M * 2 ^ (i + 1) : Nat) : Int))]) kP0 (fun _ => ⟨kr (congrArg (Value.int .u32) (show IntKind.u32.wrap (((M * 2 ^ i : Nat) : Int) * 2) = ((M * 2 ^ (i + 1) : Nat) : Int) by rw [IntKind.wrap_u32]; omega)), trivial⟩) fun _ a u hE hS => ?_
  exact hKi () a u _ _ hlt trivial hE hS (by kernel_rfl)
 ·have hNi : U = i := by omega
  rw [hNi] at hua hGp
  refine wp_seq ?_
  refine rgp hE hS [pu, pu, pe (.bool false)] (fun _ => kp [(119, .bool false)]) kP0 (fun _ => ⟨kr (cbV ((bit23 (M * 2 ^ i) (by omega)).trans (decide_eq_false (by omega)))), trivial⟩) fun _ a u hE hS => ?_
  have hE := end_env (s := ⟨_, []⟩) (s' := ⟨[(0, pt g 0), (1, sv b o z.length c), (4, .nilIface), (9, .int .i64 ((4 * (L + 1) : Nat) : Int)), (12, .int .u8 ((E + 150 - i : Nat) : Int)), (13, .int .u32 ((M * 2 ^ i : Nat) : Int)), (119, .bool false)], []⟩) (fst_snd (by kernel_rfl)) hE
  have hS := end_mem (s := ⟨[], _⟩) (s' := ⟨[], [(110, some (.ry D (some ⟨b, o, none⟩) z)), (101, some (.blk g 196 #[.int .u32 (rd32 (z.drop 4) 0), .float .f32 0, .slice none 0 0]))]⟩) (fst_snd (by kernel_rfl)) hS
  refine iff hE ?_
  refine wp_exit ?_
  refine rgp hE hS [pu, pu, pe (.int .u32 ((E + 150 - i : Nat) : Int)), pe (.int .u32 (((E + 150 - i : Nat) : Int) * 8388608)), pu, pe (.int .u32 ((M * 2 ^ i - 8388608 : Nat) : Int)), pe (.int .u32 ((G : Nat) : Int)), pu, pu, pu, st 101] kp0 (fun _ => kP [(101, some (.blk g 196 #[.int .u32 (rd32 (z.drop 4) 0), .float .f32 G, .slice none 0 0]))]) (fun _ => ⟨kr (congrArg (Value.int .u32) (show IntKind.u32.wrap (((E + 150 - i : Nat) : Int)) = ((E + 150 - i : Nat) : Int) by rw [IntKind.wrap_u32]; omega)), kr (congrArg (Value.int .u32) (show IntKind.u32.wrap (((E + 150 - i : Nat) : Int) * 8388608) = ((E + 150 - i : Nat) : Int) * 8388608 by rw [IntKind.wrap_u32]; omega)), kr (congrArg (Value.int .u32) ((and23 ((M * 2 ^ i : Nat) : Int) (by omega) (by omega)).trans (show ((M * 2 ^ i : Nat) : Int) % 8388608 = ((M * 2 ^ i - 8388608 : Nat) : Int) by omega))), kr (congrArg (Value.int .u32) ((or32 (x := ((E + 150 - i : Nat) : Int) * 8388608) (y := ((M * 2 ^ i - 8388608 : Nat) : Int)) 23 (by omega) (by omega) (by omega) (by omega) (by omega) (by omega)).trans (show ((E + 150 - i : Nat) : Int) * 8388608 + ((M * 2 ^ i - 8388608 : Nat) : Int) = ((G : Nat) : Int) by omega))), trivial⟩) fun _ a u hE hS => ?_
  refine rg hE hS [pu, pu, pu, st 101] kp0 kP0 fun _ a u hE hS => ?_
  refine wp_seq ?_
  have hfl : sgl (v % 262144) (v / 262144) = G := by rw [hMv, hEv, hG]
  clear hv3 hg17 hg18 hg19 hul hua hGp hup hM hM0 hM1 hE63 hMv hEv hG hM9
  refine rg hE hS [pu] (fun _ => kn [(14, .int .i64 ((20 + 4 * 0 : Nat) : Int))] [0, 1, 4, 9]) (fun _ => kN [] [101, 110]) fun _ a u hE hS => ?_
  have hS := stp_row0 hS 1 w.heap.size 22 1
  refine wp_block ?_
  refine loop_k hE hS n (fun k x => kd [14] [(14, .int .i64 ((20 + 4 * k : Nat) : Int))]) (fun k x => kN [(101, some (.blk g 196 #[.int .u32 (rd32 (z.drop 4) 0), .float .f32 G, .slice x.p.a x.n x.p.c])), (1, some (.row w.heap.size 22 1 (.slice x.p.a x.n x.p.c) x.n x.xs))] [110]) (fun k (x : Lx Unit) => x.n = k ∧ x.xs = (parts4 srcB 4 k (((z.drop 4).drop 8).drop 8)).flatMap u32c) ⟨pay0, 0, [], ()⟩ (⟨rfl, rfl⟩) ?_
  intro k x a u hkk hI hE hS K hK
  obtain ⟨hk1, hk2⟩ := hI
  obtain ⟨xp, xn, xs, _⟩ := x
  simp only at hk1 hk2
  by_cases hlt : k < n
  ·skip
   refine wp_seq ?_
   refine rgp hE hS [pu, pu, pe (.bool true)] (fun _ => kp [(139, .bool true)]) kP0 (fun _ => ⟨kr (cbV (dtV (show ((20 + 4 * k : Nat) : Int) < ((4 * (L + 1) : Nat) : Int) by omega))), trivial⟩) fun _ a u hE hS => ?_
   have hE := end_env (s := ⟨_, []⟩) (s' := ⟨[(0, pt g 0), (1, sv b o z.length c), (4, .nilIface), (9, .int .i64 ((4 * (L + 1) : Nat) : Int)), (14, .int .i64 ((20 + 4 * k : Nat) : Int)), (139, .bool true)], []⟩) (fst_snd (by kernel_rfl)) hE
   have hS := end_mem (s := ⟨[], _⟩) (s' := ⟨[], [(101, some (.blk g 196 #[.int .u32 (rd32 (z.drop 4) 0), .float .f32 G, .slice xp.a xn xp.c])), (1, some (.row w.heap.size 22 1 (.slice xp.a xn xp.c) xn xs)), (110, some (.ry D (some ⟨b, o, none⟩) z))]⟩) (fst_snd (by kernel_rfl)) hS
   refine ift hE <| wp_skip ?_
   refine wp_seq ?_
   refine wp_block ?_
   refine rgp hE hS [pu, pu, pu, pe (.int .i64 ((20 + 4 * k + 4 : Nat) : Int)), rsl 110 111, cl cB32 [111] [], pu] (fun _ => kp [(15, .int .u32 (rd32 ((z.take (20 + 4 * k + 4)).drop (20 + 4 * k)) 0))]) kP0 (fun _ => ⟨kr (ciV (show IntKind.i64.wrap (((20 + 4 * k : Nat) : Int) + (4 : Int)) = ((20 + 4 * k + 4 : Nat) : Int) from by rw [wiV _ (by omega)]; omega)), kr (show (20 + 4 * k) ≤ (20 + 4 * k + 4) ∧ (20 + 4 * k + 4) ≤ z.length ∧ z.length ≤ c by omega), kr (show 4 ≤ ((z.take (20 + 4 * k + 4)).drop (20 + 4 * k)).length ∧ ((z.take (20 + 4 * k + 4)).drop (20 + 4 * k)).length ≤ (c - (20 + 4 * k)) ∧ 0 < ((z.take (20 + 4 * k + 4)).drop (20 + 4 * k)).length by exact cut_need z 4 (20 + 4 * k) (20 + 4 * k + 4) c (by omega) hc (by omega) (by decide)), trivial⟩) fun _ a u hE hS => ?_
   refine rgE hE hS [pu, pu, pu, pu, ld 101, pu, nw 92, ap 1 [92], pu, pu, st 101] kp0 (fun p34 => kP [(101, some (.blk g 196 #[.int .u32 (rd32 (z.drop 4) 0), .float .f32 G, .slice (p34 7).a (xn + 1) (p34 7).c])), (1, some (.row w.heap.size 22 1 (.slice (p34 7).a (xn + 1) (p34 7).c) (xn + 1) (xs ++ u32c (rd32 ((z.take (20 + 4 * k + 4)).drop (20 + 4 * k)) 0))))]) (fun _ => ⟨kr (show w.heap.size ≤ w.heap.size ∧ (xn + 1) * 4 ≤ 140737488355328 ∧ ∀ u ∈ u32c (rd32 ((z.take (20 + 4 * k + 4)).drop (20 + 4 * k)) 0), u.oneCell' = true from ⟨Nat.le_refl _, by omega, by intro u hu; simp [u32c] at hu; rw [hu]; rfl⟩), trivial⟩) fun p34 a u hE hS => ?_
   refine rgE hE hS [pu, pe (.int .i64 ((20 + 4 * (k + 1) : Nat) : Int)), pu] (fun _ => kp [(14, .int .i64 (20 + 4 * (k + 1) : Nat))]) kP0 (fun _ => ⟨kr (ciV (show IntKind.i64.wrap (((20 + 4 * k : Nat) : Int) + (4 : Int)) = ((20 + 4 * (k + 1) : Nat) : Int) from by rw [wiV _ (by omega)]; omega)), trivial⟩) fun _ a u hE hS => ?_
   have hsb : rd32 ((z.take (20 + 4 * k + 4)).drop (20 + 4 * k)) 0 = srcB ((((z.drop 4).drop 8).drop 8).drop (4 * k)) := by unfold srcB; rw [rd32_cut z (20 + 4 * k) (20 + 4 * k + 4) (by omega), List.drop_drop, List.drop_drop, List.drop_drop]; exact congrArg (fun m => rd32 (z.drop m) 0) (by omega)
   exact hK ⟨(p34 7), xn + 1, xs ++ u32c (rd32 ((z.take (20 + 4 * k + 4)).drop (20 + 4 * k)) 0), ()⟩ a u _ _ hlt ⟨congrArg (· + 1) hk1, by show xs ++ _ = _; rw [hk2, parts4_succ, List.flatMap_append, hsb]; simp⟩ hE hS (by kernel_rfl)
  ·have hNk : n = k := by omega
   refine wp_seq ?_
   refine rgp hE hS [pu, pu, pe (.bool false)] (fun _ => kp [(139, .bool false)]) kP0 (fun _ => ⟨kr (cbV (dfV (show ¬ (((20 + 4 * k : Nat) : Int) < ((4 * (L + 1) : Nat) : Int)) by omega))), trivial⟩) fun _ a u hE hS => ?_
   have hE := end_env (s := ⟨_, []⟩) (s' := ⟨[(0, pt g 0), (1, sv b o z.length c), (4, .nilIface), (14, .int .i64 ((20 + 4 * k : Nat) : Int)), (139, .bool false)], []⟩) (fst_snd (by kernel_rfl)) hE
   have hS := end_mem (s := ⟨[], _⟩) (s' := ⟨[], [(101, some (.blk g 196 #[.int .u32 (rd32 (z.drop 4) 0), .float .f32 G, .slice xp.a xn xp.c])), (1, some (.row w.heap.size 22 1 (.slice xp.a xn xp.c) xn xs)), (110, some (.ry D (some ⟨b, o, none⟩) z))]⟩) (fst_snd (by kernel_rfl)) hS
   refine iff hE ?_
   refine wp_exit ?_
   refine rg hE hS [pu] kp0 kP0 fun _ a u hE hS => ?_
   refine wp_ret ?_
   have hrow := InRows.of_own (pcR (base := w.heap.size) (e := 22) (size := 1) (v := .slice xp.a xn xp.c) (n := xn) (xs := xs) hS 1)
   have hblk := pcB (g := g) (T := 196) (cs := #[.int .u32 (rd32 (z.drop 4) 0), .float .f32 G, .slice xp.a xn xp.c]) hS 101
   have hxn : xn = n := by omega
   rw [hxn, hk2, ← hNk] at hrow
   rw [hxn] at hblk
   exact ret1 hE Tryz.results170 .nilIface ⟨rfl, hS.grownBy (some g) (fun _ e => by rw [e]), xp.a, xp.c, (by rw [hfl]; exact hblk), hrow⟩

end Go.Proofs.YtmmfpgoodfgkbaaGreatDoor
