/-
  THE WALK of the reference's reading of transport-wide feedback. Condition: the bytes lie in memory, ahead of the packet's variable.
-/
import Derived.Test.YtmmfpgoodfgkbaaGreatDoorMDesc
import Derived.Test.YtmmfpgoodfgkbaaGreatDoorStepsD
namespace Go.Proofs.YtmmfpgoodfgkbaaGreatDoor
open Go Go.RowKit
set_option maxHeartbeats 4000000
set_option maxRecDepth 100000
set_option linter.unusedVariables false
set_option linter.unusedSimpArgs false

abbrev ckSyms (B : Nat) (l : List (Sl Int)) : Pc := .ck (ckRs B 32 1 (fun x : Sl Int => x.val) (fun x => x.l.flatMap u16c) (fun x => x.l.length) l)
theorem stp_syms {olds : Nat → Prop} {w0 w : World} {L : PL} {B : Nat} {l : List (Sl Int)} (h : Stp olds w0 w (lookM (den olds w0 L))) (k k2 : Nat) (x : Sl Int) (hne : k ≠ k2) (hk : lookP L k = some (ckSyms B l) := by kernel_rfl) (hk2 : lookP L k2 = some (.row B 32 1 x.val x.l.length (x.l.flatMap u16c)) := by kernel_rfl) : Stp olds w0 w (lookM (den olds w0 ((k, some (ckSyms B (l ++ [x]))) :: (k2, none) :: L))) :=
 Stp.merge h k k2 x (by rw [lookM_den, hk]; rfl) (by rw [lookM_den, hk2]; rfl) hne
theorem own_syms {olds : Nat → Prop} {w0 w : World} {L : PL} {B : Nat} {l : List (Sl Int)} (h : Stp olds w0 w (lookM (den olds w0 L))) (k : Nat) (x : Sl Int) (hx : x ∈ l) (hk : lookP L k = some (ckSyms B l) := by kernel_rfl) : w.ownsRow B 32 1 x.val x.l.length (x.l.flatMap u16c) := (show (Pc.den olds w0 (ckSyms B l)).ok w from h.ok k _ (by rw [lookM_den, hk]; rfl)) x hx
theorem stp_syms0 {olds : Nat → Prop} {w0 w : World} {L : PL} (h : Stp olds w0 w (lookM (den olds w0 L))) (k B : Nat) : Stp olds w0 w (lookM (den olds w0 ((k, some (ckSyms B [])) :: L))) := ckRs_nil h k B 32 1 _ _ _
theorem i16_sx (x : Int) (h0 : 0 ≤ x) (h1 : x < 65536) : IntKind.i16.wrap x = sx16 x := by
 unfold sx16
 simp [IntKind.wrap, IntKind.bits, IntKind.signed]
 split <;> split <;> omega
theorem sx_in {x : Int} (h0 : 0 ≤ x) (h1 : x < 65536) : -32768 ≤ sx16 x ∧ sx16 x < 32768 := by unfold sx16; split <;> omega
def cs13 (s m bs ct rf fb : Int) (st dl : Value) (h1 : Bool) (h2 h3 h4 : Int) : Array Value := #[.int .i64 13, .int .u32 s, .int .u32 m, .int .u64 0, .int .u32 0, .int .u32 0, .int .u32 0, .slice none 0 0, .slice none 0 0, .slice none 0 0, .slice none 0 0, .string ByteArray.empty, .int .u8 0, .slice none 0 0, .slice none 0 0, .slice none 0 0, .slice none 0 0, .int .u32 0, .slice none 0 0, .int .u32 0, .int .u16 bs, .int .u16 ct, .int .u32 rf, .int .u8 fb, st, dl, .bool h1, .int .u8 h2, .int .u8 h3, .int .u16 h4]
def TrR (s m : Int) (h1 : Bool) (h2 h3 h4 : Int) (y : List Int) (q : Pkt) : Prop := ∃ n A c l A2 c2, q = { pFb 13 s m with base := rd16 y 0, count := rd16 (y.drop 2) 0, ref := rd24 (y.drop 4) 0, fb := gi y 7, stats := ⟨A, c, l⟩, deltas := ⟨A2, c2, dltN (rcvN (y.drop 8) n) ((y.drop 8).drop (2 * n)) (rcvN (y.drop 8) n).length⟩, hpad := h1, hcount := h2, htype := h3, hlen := h4 } ∧ l.map Sta.cln = stasN (y.drop 8) n ∧ TOk (rd16 (y.drop 2) 0) (y.drop 8) n ∧ 8 ≤ y.length
theorem syms_in {w : World} {B : Nat} {x : Sta} {rows : List (Sl Int)} (h : x.list.l = [] ∨ x.list ∈ rows) (ho : ∀ r ∈ rows, w.ownsRow B 32 1 r.val r.l.length (r.l.flatMap u16c)) : InRows w B w.heap.size 1 x.list.A x.list.l.length (x.list.l.flatMap u16c) := by
 rcases h with h | h
 ·rw [h]; exact .nil
 ·exact InRows.of_own (ho _ h)
theorem readTr_any (g : Nat) (s m : Int) (h1 : Bool) (h2 h3 h4 : Int) (B b o c : Nat) (y : List Int) (w : World) (hb : Blk w g 38 (cs13 s m 0 0 0 0 (.slice none 0 0) (.slice none 0 0) h1 h2 h3 h4)) (hr : Reads w B 1 (some ⟨b, o, none⟩) y.length (u8s y)) (hB : B ≤ g) (hz : Byts y) (hc : y.length ≤ c) (hl : y.length ≤ 1048576) :
  Calls Tryz.prog 76 #[.pointer (some ⟨g, 0, none⟩), .slice (some ⟨b, o, none⟩) y.length c] w (RdOut g w (TrR s m h1 h2 h3 h4 y)) := by
 refine go_in Tryz.func76 rfl Tryz.ntmps76 [pt g 0, sv b o y.length c] fun a hE => ?_
 have hS := stp_blk1 101 hb
 have hS := stp_ry hS 111 hr (fun x hx => ⟨by have := hb.lt; omega, by omega⟩) hz
 refine rg hE hS [pu] (fun _ => kp [(4, .bool false)]) kP0 fun _ a u hE hS => ?_
 refine wp_seq ?_
 by_cases h8 : y.length < 8
 ·skip
  refine rgp hE hS [pu, pu, pe (.bool true)] (fun _ => kp [(21, .bool true)]) kP0 (fun _ => ⟨kr (cbV (dtV (show ((y.length : Nat) : Int) < 8 by omega))), trivial⟩) fun _ a u hE hS => ift hE ?_
  refine rg hE hS [pu] kp0 kP0 fun _ a u hE hS => ?_
  refine wp_ret (thR ?_)
  exact ret1 hE Tryz.results76 (.bool false) ⟨_, rfl, hS.grownBy (some g) (fun _ e => by rw [e]), (fun h => by cases h)⟩
 refine rgp hE hS [pu, pu, pe (.bool false)] (fun _ => kp [(21, .bool false)]) kP0 (fun _ => ⟨kr (cbV (dfV (show ¬ (((y.length : Nat) : Int) < 8) by omega))), trivial⟩) fun _ a u hE hS => iff hE <| wp_skip ?_
 refine dgp hE hS [pu, pu, pu, pu, pu, cl cU16 [111] [], pu, rsl 111 112, cl cU16 [112] [], pu, rsl 111 113, cl cU24 [113] [], pu, ix, rb 111 7, pu, pu, st 101, pu, pu, st 101, pu, pu, st 101, pu, pu, st 101] kp0 (fun _ => kP [(101, some (.blk g 38 ((cs13 s m (rd16 y 0) (rd16 (y.drop 2) 0) (rd24 (y.drop 4) 0) (gi y 7) (.slice none 0 0) (.slice none 0 0) h1 h2 h3 h4))))]) (fun _ => ⟨kr (show 2 ≤ y.length ∧ y.length ≤ c ∧ 0 < y.length by omega), kr (show 2 ≤ y.length ∧ y.length ≤ y.length ∧ y.length ≤ c by omega), kr (show 2 ≤ (y.drop 2).length ∧ (y.drop 2).length ≤ (c - 2) ∧ 0 < (y.drop 2).length by simp only [List.length_drop]; omega), kr (show 4 ≤ y.length ∧ y.length ≤ y.length ∧ y.length ≤ c by omega), kr (show 3 ≤ (y.drop 4).length ∧ (y.drop 4).length ≤ (c - 4) ∧ 0 < (y.drop 4).length by simp only [List.length_drop]; omega), kr (show 7 < y.length by omega), kr (show 7 < (y).length by omega), trivial⟩) fun _ a u hE hS => ?_
 refine rgp hE hS [pu, rsl 111 111, pu] (fun p6 => kn [(1, sv (p6 1).g (p6 1).c (y.drop 8).length (c - 8))] [0, 4]) (fun p6 => kN [(111, some (.ry (fun x => x < B) ((some ⟨(p6 1).g, (p6 1).c, none⟩)) (y.drop 8)))] [101]) (fun _ => ⟨kr (show 8 ≤ y.length ∧ y.length ≤ y.length ∧ y.length ≤ c by omega), trivial⟩) fun p6 a u hE hS => ?_
 have hC16 := rd16_lt (hz.drop 2) 0
 have hyl : (y.drop 8).length = y.length - 8 := List.length_drop
 have hzy : Byts (y.drop 8) := hz.drop 8
 obtain ⟨C, hCv⟩ : ∃ C, rd16 (y.drop 2) 0 = C := ⟨_, rfl⟩
 obtain ⟨yy, hyy⟩ : ∃ yy, y.drop 8 = yy := ⟨_, rfl⟩
 rw [hCv] at hC16
 rw [hCv] at hS
 rw [hyy] at hS hE hyl hzy
 refine rgp hE hS [pu, pu, pu, ld 101, pe (.int .i64 C), pu] (fun _ => kp [(5, .int .i64 C)]) kP0 (fun _ => ⟨kr (ciV (wiV C (by omega))), trivial⟩) fun _ a u hE hS => ?_
 refine rg hE hS [pu] (fun _ => kp [(6, .slice none 0 0)]) kP0 fun _ a u hE hS => ?_
 have hS := stp_row0 hS 3 w.heap.size 32 1
 have hS := stp_row0 hS 1 w.heap.size 129 5
 have hS := stp_syms0 hS 2 w.heap.size
 have hS := stp_row0 hS 4 w.heap.size 132 2
 refine wp_seq ?_
 by_cases hC0 : C = 0
 ·skip
  refine rgp hE hS [pu, pe (.bool true)] (fun _ => kp [(53, .bool true)]) kP0 (fun _ => ⟨kr (cbV (ebV (show (C : Int) = 0 by omega))), trivial⟩) fun _ a u hE hS => ift hE ?_
  refine rg hE hS [pu] kp0 kP0 fun _ a u hE hS => ?_
  refine wp_ret (thR ?_)
  exact ret1 hE Tryz.results76 (.bool false) ⟨_, rfl, hS.grownBy (some g) (fun _ e => by rw [e]), (fun h => by cases h)⟩
 refine rgp hE hS [pu, pe (.bool false)] (fun _ => kp [(53, .bool false)]) kP0 (fun _ => ⟨kr (cbV (nbV (show (C : Int) ≠ 0 by omega))), trivial⟩) fun _ a u hE hS => iff hE <| wp_skip ?_
 refine wp_seq ?_
 refine wp_block ?_
 refine loop_k hE hS yy.length (fun k x => kd [1, 5, 6, 53] [(1, sv x.y.2.2.1.g x.y.2.2.1.c x.y.2.2.2.1.length x.y.2.2.2.2.1), (5, .int .i64 x.y.2.2.2.2.2.y), (6, .slice x.y.2.2.2.2.2.p.a x.y.2.2.2.2.2.n x.y.2.2.2.2.2.p.c)]) (fun k x => kN [(101, some (.blk g 38 ((cs13 s m (rd16 y 0) C (rd24 (y.drop 4) 0) (gi y 7) (.slice x.p.a x.n x.p.c) (.slice none 0 0) h1 h2 h3 h4)))), (1, some (.row w.heap.size 129 5 (.slice x.p.a x.n x.p.c) x.n x.xs)), (2, some (ckSyms w.heap.size x.y.2.1)), (3, some (.row w.heap.size 32 1 (.slice x.y.2.2.2.2.2.p.a x.y.2.2.2.2.2.n x.y.2.2.2.2.2.p.c) x.y.2.2.2.2.2.n x.y.2.2.2.2.2.xs)), (111, some (.ry (fun x => x < B) (some ⟨x.y.2.2.1.g, x.y.2.2.1.c, none⟩) x.y.2.2.2.1))] [4]) (fun k (x : Lx (List Sta × List (Sl Int) × Pay × List Int × Nat × Lx Int)) => x.n = k ∧ x.xs = x.y.1.flatMap Sta.cells ∧ x.y.1.map Sta.cln = stasN yy k ∧ x.y.1.length = k ∧ x.y.2.2.2.1 = yy.drop (2 * k) ∧ x.y.2.2.2.1.length ≤ x.y.2.2.2.2.1 ∧ 2 * k ≤ yy.length ∧ (∀ s ∈ x.y.1, s.list.l = [] ∨ s.list ∈ x.y.2.1) ∧ (∀ j, j < k → TkOk C yy j) ∧ x.y.2.2.2.2.2.n = (rcvN yy k).length ∧ x.y.2.2.2.2.2.xs = (rcvN yy k).flatMap u16c ∧ x.y.2.2.2.2.2.y = tl C yy k) ⟨pay0, 0, [], [], [], (⟨(p6 1).g, (p6 1).c, undef, none⟩ : Pay), yy, (c - 8), pay0, 0, [], C⟩ (⟨rfl, rfl, rfl, rfl, by simp, by show yy.length ≤ (c - 8); omega, Nat.zero_le _, fun s hs => (by cases hs), fun j h => absurd h (Nat.not_lt_zero j), rfl, rfl, rfl⟩) ?_
 intro k x a u hkk hI hE hS K hK
 obtain ⟨hk1, hk2, hk3, hk4, hk5, hk6, hk7, hk8, hk9, hk10, hk11, hk12⟩ := hI
 obtain ⟨xp, xn, xs, l1, rows, qa, z, c1, rp, rn, rs, lf⟩ := x
 simp only at hk1 hk2 hk3 hk4 hk5 hk6 hk7 hk8 hk9 hk10 hk11 hk12
 have hzl : z.length = yy.length - 2 * k := by rw [hk5]; exact List.length_drop
 have hz1 : Byts z := by rw [hk5]; exact hzy.drop _
 have htl := tl_le hzy C k
 have hrl := rcvN_le hzy k
 refine wp_seq ?_
 by_cases hlf : lf ≤ 0
 ·skip
  refine rgp hE hS [pu, pe (.bool false)] (fun _ => kp [(55, .bool false)]) kP0 (fun _ => ⟨kr (cbV (dfV (show ¬ (lf > 0) by omega))), trivial⟩) fun _ a u hE hS => iff hE ?_
  refine wp_exit ?_
  refine wp_seq ?_
  by_cases hrn0 : rn = 0
  ·skip
   refine rgp hE hS [pu, pu, pe (.bool true)] (fun _ => kp [(183, .bool true)]) kP0 (fun _ => ⟨kr (cbV (ebV (show (((rn : Nat) : Int) : Int) = 0 by omega))), trivial⟩) fun _ a u hE hS => ift hE ?_
   refine rg hE hS [pu] kp0 kP0 fun _ a u hE hS => ?_
   refine wp_ret (thR ?_)
   exact ret1 hE Tryz.results76 (.bool false) ⟨_, rfl, hS.grownBy (some g) (fun _ e => by rw [e]), (fun h => by cases h)⟩
  refine rgp hE hS [pu, pu, pe (.bool false)] (fun _ => kp [(183, .bool false)]) kP0 (fun _ => ⟨kr (cbV (nbV (show (((rn : Nat) : Int) : Int) ≠ 0 by omega))), trivial⟩) fun _ a u hE hS => iff hE <| wp_skip ?_
  refine wp_seq ?_
  obtain ⟨RS, hRS⟩ : ∃ RS, rcvN yy k = RS := ⟨_, rfl⟩
  have hRm : ∀ x ∈ RS, x = 1 ∨ x = 2 := fun x hx => rcvN_mem (y := yy) (n := k) (by rw [hRS]; exact hx)
  rw [hRS] at hk10 hk11 hrl
  refine rg hE hS [pu, pu, pu] (fun _ => kn [(184, .slice rp.a rn rp.c), (185, .int .i64 (rn : Nat)), (186, .int .i64 0)] [0, 4, 1]) (fun _ => kN [] [101, 1, 2, 3, 111, 4]) fun _ a u hE hS => ?_
  refine range_up hE hS 186 rn (fun i v => kd [186, 187, 223] [(1, sv v.y.1.g v.y.1.c v.y.2.1.length v.y.2.2)]) (fun _ v => kP [(101, some (.blk g 38 ((cs13 s m (rd16 y 0) C (rd24 (y.drop 4) 0) (gi y 7) (.slice xp.a xn xp.c) (.slice v.p.a v.n v.p.c) h1 h2 h3 h4)))), (4, some (.row w.heap.size 132 2 (.slice v.p.a v.n v.p.c) v.n v.xs)), (111, some (.ry (fun x => x < B) (some ⟨v.y.1.g, v.y.1.c, none⟩) v.y.2.1))]) (fun i (v : Lx (Pay × List Int × Nat)) => v.n = i ∧ v.xs = (dltN RS z i).flatMap Dlt.cells ∧ v.y.2.1 = z.drop (dPos RS i) ∧ v.y.2.1.length ≤ v.y.2.2 ∧ dPos RS i ≤ z.length ∧ ∀ j, j < i → dPos RS (j + 1) ≤ z.length) ⟨pay0, 0, [], qa, z, c1⟩ (by omega) (⟨rfl, rfl, rfl, by show z.length ≤ c1; omega, Nat.zero_le _, fun j h => absurd h (Nat.not_lt_zero j)⟩) (fun i v a u hik hI hE hS K8 hK8 RK8 hRK8 => ?_) fun ⟨vq, vn, vs, y1, z2, c2⟩ a u hI hE hS => ?_
  ·obtain ⟨hi1, hi2, hi3, hi4, hi5, hi6⟩ := hI
   obtain ⟨vp, vn, vs, y1, z2, c2⟩ := v
   simp only at hi1 hi2 hi3 hi4 hi5 hi6
   obtain ⟨s, hs⟩ : ∃ s, RS[i]? = some s := ⟨_, List.getElem?_eq_getElem (by omega)⟩
   have hs12 : s = 1 ∨ s = 2 := hRm s (List.mem_of_getElem? hs)
   have hgd : RS.getD i 0 = s := by rw [List.getD, hs]; rfl
   have hzl2 : z2.length = z.length - dPos RS i := by rw [hi3]; exact List.length_drop
   have hz2 : Byts z2 := by rw [hi3]; exact hz1.drop _
   have hdn : dPos RS (i + 1) = dPos RS i + s.toNat := by show dPos RS i + (RS.getD i 0).toNat = _; rw [hgd]
   have hb0 := hz2.gi 0
   have hb16 := rd16_lt hz2 0
   have hsx := sx_in hb16.1 hb16.2
   rcases hs12 with rfl | rfl
   ·skip
    refine rgp hE hS [ir 3, lr 3 i (.int .u16 1), pu] (fun _ => kp [(15, .int .u16 1)]) kP0 (fun _ => ⟨kr (show i < rn from hik), kr (show rs[i]? = some (.int .u16 1) ∧ 0 < rn from ⟨by rw [hk11]; exact u16c_at hs, by omega⟩), trivial⟩) fun _ a u hE hS => ?_
    refine wp_seq ?_
    by_cases hsh : z2.length < 1
    ·skip
     refine rgp hE hS [pu, pu, pu, pe (.int .i64 1), pe (.bool true)] (fun _ => kp [(194, .bool true)]) kP0 (fun _ => ⟨kr (ciV (wiV 1 (by omega))), kr (cbV (dtV (show ((z2.length : Nat) : Int) < 1 by omega))), trivial⟩) fun _ a u hE hS => ift hE ?_
     refine rg hE hS [pu] kp0 kP0 fun _ a u hE hS => ?_
     refine wp_ret (thR (bkR (thR (hRK8 _ _ _ (fun _ h => by cases h) (fun h => by cases h) (thR ?_)))))
     exact ret1 hE Tryz.results76 (.bool false) ⟨_, rfl, hS.grownBy (some g) (fun _ e => by rw [e]), (fun h => by cases h)⟩
    refine rgp hE hS [pu, pu, pu, pe (.int .i64 1), pe (.bool false)] (fun _ => kp [(194, .bool false)]) kP0 (fun _ => ⟨kr (ciV (wiV 1 (by omega))), kr (cbV (dfV (show ¬ (((z2.length : Nat) : Int) < 1) by omega))), trivial⟩) fun _ a u hE hS => iff hE <| wp_skip ?_
    refine rgp hE hS [pu, pu, ix, rb 111 0, pe (.int .i64 (gi z2 0)), pe (.int .i64 (gi z2 0 * 250)), pu, nw 96, st 96] (fun p21 => kp [(16, pt (p21 7).g 0)]) (fun p21 => kP [(96, some (.blk (p21 7).g 132 #[.int .u16 1, .int .i64 (gi z2 0 * 250)]))]) (fun _ => ⟨kr (show 0 < z2.length by omega), kr (show 0 < (z2).length by omega), kr (ciV (wiV (gi z2 0) (by omega))), kr (ciV (wiV (gi z2 0 * 250) (by omega))), trivial⟩) fun p21 a u hE hS => ?_
    refine wp_seq ?_
    refine rgp hE hS [pu, pe (.bool false)] (fun _ => kp [(203, .bool false)]) kP0 (fun _ => ⟨kr (cbV (nbV (show (1 : Int) ≠ 2 by decide))), trivial⟩) fun _ a u hE hS => iff hE <| wp_skip ?_
    refine dgp hE hS [pu, pu, pu, pu, ld 101, ld 96, nw 99, ap 4 [99], pu, pu, st 101] kp0 (fun p23 => kP [(101, some (.blk g 38 ((cs13 s m (rd16 y 0) C (rd24 (y.drop 4) 0) (gi y 7) (.slice xp.a xn xp.c) (.slice (p23 7).a (vn + 1) (p23 7).c) h1 h2 h3 h4)))), (4, some (.row w.heap.size 132 2 (.slice (p23 7).a (vn + 1) (p23 7).c) (vn + 1) (vs ++ ([.int .u16 1, .int .i64 (gi z2 0 * 250)] : List Value))))]) (fun _ => ⟨kr (show w.heap.size ≤ w.heap.size ∧ (vn + 1) * 16 ≤ 140737488355328 ∧ ∀ u ∈ ([.int .u16 1, .int .i64 (gi z2 0 * 250)] : List Value), u.oneCell' = true from ⟨Nat.le_refl _, by omega, by intro u hu; simp at hu; rcases hu with rfl | rfl <;> rfl⟩), trivial⟩) fun p23 a u hE hS => ?_
    refine rgE hE hS [pu, pu, rsk .u16 111 111 1, pu] (fun p24 => kn [(1, sv (p24 2).g (p24 2).c (z2.drop 1).length (c2 - 1))] [0, 4, 184, 185, 186]) (fun p24 => kN [(111, some (.ry (fun x => x < B) ((some ⟨(p24 2).g, (p24 2).c, none⟩)) (z2.drop 1)))] [101, 4, 1, 2, 3]) (fun _ => ⟨kr (show 1 ≤ z2.length ∧ z2.length ≤ c2 by omega), trivial⟩) fun p24 a u hE hS => ?_
    exact hK8 ⟨(p23 7), vn + 1, vs ++ ([.int .u16 1, .int .i64 (gi z2 0 * 250)] : List Value), (p24 2), z2.drop 1, c2 - 1⟩ a u _ _ ⟨congrArg (· + 1) hi1, by show vs ++ _ = _; rw [hi2, dltN_succ, List.flatMap_append, hgd, ← hi3]; rfl, by show z2.drop 1 = _; rw [hdn, hi3, List.drop_drop]; rfl, by show (z2.drop 1).length ≤ c2 - 1; rw [List.length_drop]; omega, by rw [hdn]; show dPos RS i + 1 ≤ _; omega, fun j hj => by
      by_cases e : j = i
      ·rw [e, hdn]; show dPos RS i + 1 ≤ _; omega
      ·exact hi6 j (by omega)⟩ hE hS (by kernel_rfl)
   refine rgp hE hS [ir 3, lr 3 i (.int .u16 2), pu] (fun _ => kp [(15, .int .u16 2)]) kP0 (fun _ => ⟨kr (show i < rn from hik), kr (show rs[i]? = some (.int .u16 2) ∧ 0 < rn from ⟨by rw [hk11]; exact u16c_at hs, by omega⟩), trivial⟩) fun _ a u hE hS => ?_
   refine wp_seq ?_
   by_cases hsh : z2.length < 2
   ·skip
    refine rgp hE hS [pu, pu, pu, pe (.int .i64 2), pe (.bool true)] (fun _ => kp [(194, .bool true)]) kP0 (fun _ => ⟨kr (ciV (wiV 2 (by omega))), kr (cbV (dtV (show ((z2.length : Nat) : Int) < 2 by omega))), trivial⟩) fun _ a u hE hS => ift hE ?_
    refine rg hE hS [pu] kp0 kP0 fun _ a u hE hS => ?_
    refine wp_ret (thR (bkR (thR (hRK8 _ _ _ (fun _ h => by cases h) (fun h => by cases h) (thR ?_)))))
    exact ret1 hE Tryz.results76 (.bool false) ⟨_, rfl, hS.grownBy (some g) (fun _ e => by rw [e]), (fun h => by cases h)⟩
   refine rgp hE hS [pu, pu, pu, pe (.int .i64 2), pe (.bool false)] (fun _ => kp [(194, .bool false)]) kP0 (fun _ => ⟨kr (ciV (wiV 2 (by omega))), kr (cbV (dfV (show ¬ (((z2.length : Nat) : Int) < 2) by omega))), trivial⟩) fun _ a u hE hS => iff hE <| wp_skip ?_
   refine rgp hE hS [pu, pu, ix, rb 111 0, pe (.int .i64 (gi z2 0)), pe (.int .i64 (gi z2 0 * 250)), pu, nw 96, st 96] (fun p29 => kp [(16, pt (p29 7).g 0)]) (fun p29 => kP [(96, some (.blk (p29 7).g 132 #[.int .u16 2, .int .i64 (gi z2 0 * 250)]))]) (fun _ => ⟨kr (show 0 < z2.length by omega), kr (show 0 < (z2).length by omega), kr (ciV (wiV (gi z2 0) (by omega))), kr (ciV (wiV (gi z2 0 * 250) (by omega))), trivial⟩) fun p29 a u hE hS => ?_
   refine wp_seq ?_
   refine rgp hE hS [pu, pe (.bool true)] (fun _ => kp [(203, .bool true)]) kP0 (fun _ => ⟨kr (cbV (ebV (show (2 : Int) = 2 by decide))), trivial⟩) fun _ a u hE hS => ift hE ?_
   refine rgE hE hS [pu, cl cU16 [111] [], pe (.int .i16 (sx16 (rd16 z2 0))), pe (.int .i64 (sx16 (rd16 z2 0))), pe (.int .i64 (sx16 (rd16 z2 0) * 250)), pu, st 96] kp0 (fun _ => kP [(96, some (.blk (p29 7).g 132 #[.int .u16 2, .int .i64 (sx16 (rd16 z2 0) * 250)]))]) (fun _ => ⟨kr (show 2 ≤ z2.length ∧ z2.length ≤ c2 ∧ 0 < z2.length by omega), kr (congrArg (Value.int .i16) (i16_sx (rd16 z2 0) (by omega) (by omega))), kr (ciV (wiV (sx16 (rd16 z2 0)) (by omega))), kr (ciV (wiV (sx16 (rd16 z2 0) * 250) (by omega))), trivial⟩) fun _ a u hE hS => ?_
   refine dgp hE hS [pu, pu, pu, pu, ld 101, ld 96, nw 99, ap 4 [99], pu, pu, st 101] kp0 (fun p32 => kP [(101, some (.blk g 38 ((cs13 s m (rd16 y 0) C (rd24 (y.drop 4) 0) (gi y 7) (.slice xp.a xn xp.c) (.slice (p32 7).a (vn + 1) (p32 7).c) h1 h2 h3 h4)))), (4, some (.row w.heap.size 132 2 (.slice (p32 7).a (vn + 1) (p32 7).c) (vn + 1) (vs ++ ([.int .u16 2, .int .i64 (sx16 (rd16 z2 0) * 250)] : List Value))))]) (fun _ => ⟨kr (show w.heap.size ≤ w.heap.size ∧ (vn + 1) * 16 ≤ 140737488355328 ∧ ∀ u ∈ ([.int .u16 2, .int .i64 (sx16 (rd16 z2 0) * 250)] : List Value), u.oneCell' = true from ⟨Nat.le_refl _, by omega, by intro u hu; simp at hu; rcases hu with rfl | rfl <;> rfl⟩), trivial⟩) fun p32 a u hE hS => ?_
   refine rgE hE hS [pu, pu, rsk .u16 111 111 2, pu] (fun p33 => kn [(1, sv (p33 2).g (p33 2).c (z2.drop 2).length (c2 - 2))] [0, 4, 184, 185, 186]) (fun p33 => kN [(111, some (.ry (fun x => x < B) ((some ⟨(p33 2).g, (p33 2).c, none⟩)) (z2.drop 2)))] [101, 4, 1, 2, 3]) (fun _ => ⟨kr (show 2 ≤ z2.length ∧ z2.length ≤ c2 by omega), trivial⟩) fun p33 a u hE hS => ?_
   exact hK8 ⟨(p32 7), vn + 1, vs ++ ([.int .u16 2, .int .i64 (sx16 (rd16 z2 0) * 250)] : List Value), (p33 2), z2.drop 2, c2 - 2⟩ a u _ _ ⟨congrArg (· + 1) hi1, by show vs ++ _ = _; rw [hi2, dltN_succ, List.flatMap_append, hgd, ← hi3]; rfl, by show z2.drop 2 = _; rw [hdn, hi3, List.drop_drop]; rfl, by show (z2.drop 2).length ≤ c2 - 2; rw [List.length_drop]; omega, by rw [hdn]; show dPos RS i + 2 ≤ _; omega, fun j hj => by
     by_cases e : j = i
     ·rw [e, hdn]; show dPos RS i + 2 ≤ _; omega
     ·exact hi6 j (by omega)⟩ hE hS (by kernel_rfl)
  simp only at hI
  obtain ⟨hd1, hd2, hd3, hd4, hd5, hd6⟩ := hI
  have hz2 : Byts z2 := by rw [hd3]; exact hz1.drop _
  have hzl2 : z2.length ≤ z.length := by rw [hd3, List.length_drop]; omega
  refine wp_seq ?_
  refine rg hE hS [pu, pu, pu] (fun _ => kn [(224, sv y1.g y1.c z2.length c2), (225, .int .i64 (z2.length : Nat)), (226, .int .i64 0)] [4, 1]) (fun _ => kN [] [101, 1, 2, 3, 111, 4]) fun _ a u hE hS => ?_
  refine range_up hE hS 226 z2.length (fun _ _ => kd [226, 227, 232] []) (fun _ x => kP []) (fun j (x : Unit) => True) () (by omega) (trivial) (fun j x a u hjk hI hE hS K10 hK10 RK10 hRK10 => ?_) fun _ a u hI hE hS => ?_
  ·obtain hj1 := hI
   refine rgp hE hS [ix, rb 111 j, pu] (fun _ => kp [(18, .int .u8 (gi z2 j))]) kP0 (fun _ => ⟨kr (show j < z2.length by omega), kr (show j < (z2).length by omega), trivial⟩) fun _ a u hE hS => ?_
   by_cases hb0 : gi z2 j = 0
   rotate_left
   ·skip
    refine rgp hE hS [pu, pe (.bool true)] (fun _ => kp [(231, .bool true)]) kP0 (fun _ => ⟨kr (cbV (bne_iff_ne.2 hb0)), trivial⟩) fun _ a u hE hS => ift hE ?_
    refine rg hE hS [pu] kp0 kP0 fun _ a u hE hS => ?_
    refine wp_ret (bkR (thR (hRK10 _ _ _ (fun _ h => by cases h) (fun h => by cases h) (thR ?_))))
    exact ret1 hE Tryz.results76 (.bool false) ⟨_, rfl, hS.grownBy (some g) (fun _ e => by rw [e]), (fun h => by cases h)⟩
   refine rgp hE hS [pu, pe (.bool false)] (fun _ => kp [(231, .bool false)]) kP0 (fun _ => ⟨kr (cbV (show (gi z2 j != 0) = false by rw [hb0]; rfl)), trivial⟩) fun _ a u hE hS => iff hE <| wp_skip ?_
   exact hK10 () a u _ _ trivial hE hS (by kernel_rfl)
  by_cases hl3 : z2.length ≤ 3
  ·skip
   refine rgp hE hS [pu, pu, pe (.bool true), pu] (fun _ => kp [(4, .bool true)]) kP0 (fun _ => ⟨kr (cbV (dtV (show ((z2.length : Nat) : Int) ≤ 3 by omega))), trivial⟩) fun _ a u hE hS => ?_
   refine wp_ret ?_
   have hrow := InRows.of_own (pcR (base := w.heap.size) (e := 129) (size := 5) (v := .slice xp.a xn xp.c) (n := xn) (xs := xs) hS 1)
   have hrowd := InRows.of_own (pcR (base := w.heap.size) (e := 132) (size := 2) (v := .slice vq.a vn vq.c) (n := vn) (xs := vs) hS 4)
   have hown := fun x hx => own_syms (B := w.heap.size) (l := rows) hS 2 x hx
   have hblk := pcB (g := g) (T := 38) (cs := cs13 s m (rd16 y 0) C (rd24 (y.drop 4) 0) (gi y 7) (.slice xp.a xn xp.c) (.slice vq.a vn vq.c) h1 h2 h3 h4) hS 101
   have hxl : xn = l1.length := by omega
   have hdl : vn = (dltN RS z rn).length := by simp [dltN, hd1]
   rw [hxl, hk2] at hrow
   rw [hdl, hd2] at hrowd
   have hd2 : rn = RS.length := hk10
   have hTOk : TOk C yy k := ⟨hk9, by omega, fun e => (by rw [e] at hRS; rw [← hRS] at hd2; exact hrn0 hd2), fun i hi => (by rw [hRS] at hi ⊢; have := hd6 i (by omega); omega)⟩
   exact ret1 hE Tryz.results76 (.bool true) ⟨_, rfl, hS.grownBy (some g) (fun _ e => by rw [e]), fun _ => ⟨({ pFb 13 s m with base := rd16 y 0, count := C, ref := rd24 (y.drop 4) 0, fb := gi y 7, stats := ⟨xp.a, xp.c, l1⟩, deltas := ⟨vq.a, vq.c, dltN RS z rn⟩, hpad := h1, hcount := h2, htype := h3, hlen := h4 } : Pkt), (by have e : (({ pFb 13 s m with base := rd16 y 0, count := C, ref := rd24 (y.drop 4) 0, fb := gi y 7, stats := ⟨xp.a, xp.c, l1⟩, deltas := ⟨vq.a, vq.c, dltN RS z rn⟩, hpad := h1, hcount := h2, htype := h3, hlen := h4 } : Pkt) : Pkt).cells = cs13 s m (rd16 y 0) C (rd24 (y.drop 4) 0) (gi y 7) (.slice xp.a xn xp.c) (.slice vq.a vn vq.c) h1 h2 h3 h4 := (by unfold cs13 Pkt.cells Sl.val; simp only [hxl, hdl]; rfl); rw [e]; exact hblk), ⟨⟨.nil, .nil, (fun x hx => by cases hx), .nil, .nil, .nil, .nil, (fun x hx => by cases hx), hrow, hrowd⟩, .nil, (fun x hx => syms_in (hk8 x hx) hown), rfl, rfl⟩, k, xp.a, xp.c, l1, vq.a, vq.c, (by rw [hCv, hyy, hRS, ← hd2, ← hk5]), (by rw [hyy]; exact hk3), (by rw [hCv, hyy]; exact hTOk), by omega⟩⟩
  refine rgp hE hS [pu, pu, pe (.bool false), pu] kp0 kP0 (fun _ => ⟨kr (cbV (dfV (show ¬ (((z2.length : Nat) : Int) ≤ 3) by omega))), trivial⟩) fun _ a u hE hS => ?_
  refine wp_ret ?_
  exact ret1 hE Tryz.results76 (.bool false) ⟨_, rfl, hS.grownBy (some g) (fun _ e => by rw [e]), (fun h => by cases h)⟩
 refine rgp hE hS [pu, pe (.bool true)] (fun _ => kp [(55, .bool true)]) kP0 (fun _ => ⟨kr (cbV (dtV (show lf > 0 by omega))), trivial⟩) fun _ a u hE hS => ift hE <| wp_skip <| wp_block ?_
 refine wp_seq ?_
 by_cases hl2 : z.length < 2
 ·skip
  refine rgp hE hS [pu, pu, pe (.bool true)] (fun _ => kp [(58, .bool true)]) kP0 (fun _ => ⟨kr (cbV (dtV (show ((z.length : Nat) : Int) < 2 by omega))), trivial⟩) fun _ a u hE hS => ift hE ?_
  refine rg hE hS [pu] kp0 kP0 fun _ a u hE hS => ?_
  refine wp_ret (thR (bkR (thR (bkR (thR ?_)))))
  exact ret1 hE Tryz.results76 (.bool false) ⟨_, rfl, hS.grownBy (some g) (fun _ e => by rw [e]), (fun h => by cases h)⟩
 refine rgp hE hS [pu, pu, pe (.bool false)] (fun _ => kp [(58, .bool false)]) kP0 (fun _ => ⟨kr (cbV (dfV (show ¬ (((z.length : Nat) : Int) < 2) by omega))), trivial⟩) fun _ a u hE hS => iff hE <| wp_skip ?_
 refine rgp hE hS [pu, cl cU16 [111] [], pu] (fun _ => kp [(7, .int .u16 (rd16 z 0))]) kP0 (fun _ => ⟨kr (show 2 ≤ z.length ∧ z.length ≤ c1 ∧ 0 < z.length by omega), trivial⟩) fun _ a u hE hS => ?_
 have hV16 := rd16_lt hz1 0
 obtain ⟨V, hVd⟩ : ∃ V, rd16 z 0 = V := ⟨_, rfl⟩
 rw [hVd] at hV16 hE
 have hVt : tw yy k = V := by unfold tw; rw [← hVd, hk5, rd16_drop]; rfl
 refine rgp hE hS [pu, rsl 111 111, pu] (fun p46 => kp [(1, sv (p46 1).g (p46 1).c (z.drop 2).length (c1 - 2))]) (fun p46 => kP [(111, some (.ry (fun x => x < B) ((some ⟨(p46 1).g, (p46 1).c, none⟩)) (z.drop 2)))]) (fun _ => ⟨kr (show 2 ≤ z.length ∧ z.length ≤ z.length ∧ z.length ≤ c1 by omega), trivial⟩) fun p46 a u hE hS => ?_
 refine rg hE hS [pu] (fun _ => kp [(8, .slice none 0 0)]) kP0 fun _ a u hE hS => ?_
 have hS := stp_row0 hS 94 w.heap.size 32 1
 refine seq_join2 hE hS (fun (x : Pay × Pay × Sta) => x.2.2.cln = staC V ∧ (x.2.2.list.l = [] ∨ x.2.2.list = ⟨x.1.a, x.1.c, symL V⟩) ∧ (V < 32768 → V % 8192 ≠ 0 ∧ V % 8192 ≤ lf)) (fun x => [(0, .pointer (some ⟨g, 0, none⟩)), (4, .bool false), (1, .slice (some ⟨(p46 1).g, (p46 1).c, none⟩) (z.drop 2).length (c1 - 2)), (6, .slice rp.a rn rp.c), (5, .int .i64 lf), (8, .slice x.1.a (symL V).length x.1.c)]) (fun x => [(101, some (.blk g 38 ((cs13 s m (rd16 y 0) C (rd24 (y.drop 4) 0) (gi y 7) (.slice x.2.1.a (xn + 1) x.2.1.c) (.slice none 0 0) h1 h2 h3 h4)))), (1, some (.row w.heap.size 129 5 (.slice x.2.1.a (xn + 1) x.2.1.c) (xn + 1) (xs ++ x.2.2.cells))), (2, some (ckSyms w.heap.size rows)), (3, some (.row w.heap.size 32 1 (.slice rp.a rn rp.c) rn rs)), (4, some (.row w.heap.size 132 2 (.slice none 0 0) 0 ([]))), (94, some (.row w.heap.size 32 1 (.slice x.1.a (symL V).length x.1.c) (symL V).length ((symL V).flatMap u16c))), (111, some (.ry (fun x => x < B) ((some ⟨(p46 1).g, (p46 1).c, none⟩)) (z.drop 2)))]) (fun Kj hKj => ?_) fun x a u hI hE hS => ?_
 ·skip
  refine rgp hE hS [pu, pe (.int .u16 (V / 32768)), pu] (fun _ => kp [(65, .bool (V / 32768 == 0))]) kP0 (fun _ => ⟨kr (shrv .u16 V 32768 (by decide)), trivial⟩) fun _ a u hE hS => ?_
  by_cases hrun : V < 32768
  ·skip
   rw [show (V / 32768 == 0) = true from beq_iff_eq.2 (by omega)] at hE
   refine ift hE ?_
   refine rgp hE hS [pu, pe (.int .u16 (V / 8192)), pe (.int .u16 (V / 8192 % 4)), pu, pe (.int .u16 (V % 8192)), pu, nw 93, st 93] (fun p49 => kp [(9, pt (p49 6).g 0)]) (fun p49 => kP [(93, some (.blk (p49 6).g 129 #[.bool false, .int .u16 (V / 8192 % 4), .int .u16 0, .int .u16 (V % 8192), .slice none 0 0]))]) (fun _ => ⟨kr (shrv .u16 V 8192 (by decide)), kr (congrArg (Value.int .u16) (and3h (V / 8192) (by omega) (by omega))), kr (congrArg (Value.int .u16) (and8191h V (by omega) (by omega))), trivial⟩) fun p49 a u hE hS => ?_
   refine wp_seq ?_
   by_cases hr0 : V % 8192 = 0
   ·skip
    refine rgp hE hS [pu, ld 93, pe (.bool true), pu, sk, sk, sk, sk, sk, pu] (fun _ => kp [(81, .bool true)]) kP0 (fun _ => ⟨kr (cbV (ebV (show (V % 8192 : Int) = 0 by omega))), trivial⟩) fun _ a u hE hS => ift hE ?_
    refine rg hE hS [pu] kp0 kP0 fun _ a u hE hS => ?_
    refine wp_ret (thR (thR (bkR (thR (bkR (thR ?_))))))
    exact ret1 hE Tryz.results76 (.bool false) ⟨_, rfl, hS.grownBy (some g) (fun _ e => by rw [e]), (fun h => by cases h)⟩
   by_cases hrg : V % 8192 > lf
   ·skip
    refine rgp hE hS [pu, ld 93, pe (.bool false), pu, pu, ld 93, pe (.int .i64 (V % 8192)), pu, pe (.bool true), pu] (fun _ => kp [(81, .bool true)]) kP0 (fun _ => ⟨kr (cbV (nbV (show (V % 8192 : Int) ≠ 0 by omega))), kr (ciV (wiV (V % 8192) (by omega))), kr (cbV (dtV (show V % 8192 > lf by omega))), trivial⟩) fun _ a u hE hS => ift hE ?_
    refine rg hE hS [pu] kp0 kP0 fun _ a u hE hS => ?_
    refine wp_ret (thR (thR (bkR (thR (bkR (thR ?_))))))
    exact ret1 hE Tryz.results76 (.bool false) ⟨_, rfl, hS.grownBy (some g) (fun _ e => by rw [e]), (fun h => by cases h)⟩
   refine rgp hE hS [pu, ld 93, pe (.bool false), pu, pu, ld 93, pe (.int .i64 (V % 8192)), pu, pe (.bool false), pu] (fun _ => kp [(81, .bool false)]) kP0 (fun _ => ⟨kr (cbV (nbV (show (V % 8192 : Int) ≠ 0 by omega))), kr (ciV (wiV (V % 8192) (by omega))), kr (cbV (dfV (show ¬ (V % 8192 > lf) by omega))), trivial⟩) fun _ a u hE hS => iff hE <| wp_skip ?_
   refine wp_seq ?_
   refine rg hE hS [pu, ld 93, pu] (fun _ => kp [(83, .int .u16 (V % 8192)), (84, .int .u16 ((0 : Nat) : Int))]) kP0 fun _ a u hE hS => wp_block ?_
   refine loop_k hE hS (V % 8192).toNat (fun i v => kd [7, 8, 55, 58, 65, 81, 84] [(84, .int .u16 (i : Nat)), (8, .slice v.p.a v.n v.p.c)]) (fun i v => kN [(94, some (.row w.heap.size 32 1 (.slice v.p.a v.n v.p.c) v.n v.xs))] [101, 1, 2, 3, 4, 111, 93]) (fun i (v : Lx Unit) => v.n = i ∧ v.xs = (List.replicate i (V / 8192 % 4)).flatMap u16c) ⟨pay0, 0, [], ()⟩ (⟨rfl, rfl⟩) ?_
   intro i v a u hki hIi hE hS Ki hKi
   obtain ⟨hi1, hi2⟩ := hIi
   obtain ⟨vp, vn, vs, _⟩ := v
   simp only at hi1 hi2
   by_cases hlt : i < (V % 8192).toNat
   ·skip
    refine rgp hE hS [pe (.bool true)] (fun _ => kp [(85, .bool true)]) kP0 (fun _ => ⟨kr (cbV (dtV (show ((i : Nat) : Int) < V % 8192 by omega))), trivial⟩) fun _ a u hE hS => ?_
    refine wp_seq ?_
    refine ift hE <| wp_skip ?_
    refine wp_seq ?_
    refine wp_block ?_
    refine rgE hE hS [pu, pu, ld 93, nw 92, ap 94 [92], pu] (fun p57 => kp [(8, .slice (p57 4).a (vn + 1) (p57 4).c)]) (fun p57 => kP [(94, some (.row w.heap.size 32 1 (.slice (p57 4).a (vn + 1) (p57 4).c) (vn + 1) (vs ++ ([.int .u16 (V / 8192 % 4)] : List Value))))]) (fun _ => ⟨kr (show w.heap.size ≤ w.heap.size ∧ (vn + 1) * 2 ≤ 140737488355328 ∧ ∀ u ∈ ([.int .u16 (V / 8192 % 4)] : List Value), u.oneCell' = true from ⟨Nat.le_refl _, by omega, by intro u hu; simp at hu; rw [hu]; rfl⟩), trivial⟩) fun p57 a u hE hS => ?_
    refine rgE hE hS [pe (.int .u16 ((i + 1 : Nat) : Int)), pu] (fun _ => kp [(84, .int .u16 ((i + 1 : Nat) : Int))]) kP0 (fun _ => ⟨kr (congrArg (Value.int .u16) (show IntKind.u16.wrap (((i : Nat) : Int) + 1) = ((i + 1 : Nat) : Int) by rw [IntKind.wrap_u16]; omega)), trivial⟩) fun _ a u hE hS => ?_
    exact hKi ⟨(p57 4), vn + 1, vs ++ [.int .u16 (V / 8192 % 4)], ()⟩ a u _ _ hlt ⟨congrArg (· + 1) hi1, by show vs ++ _ = _; rw [hi2, List.replicate_succ', List.flatMap_append]; rfl⟩ hE hS (by kernel_rfl)
   ·have hNi : (V % 8192).toNat = i := by omega
    refine rgp hE hS [pe (.bool false)] (fun _ => kp [(85, .bool false)]) kP0 (fun _ => ⟨kr (cbV (dfV (show ¬ (((i : Nat) : Int) < V % 8192) by omega))), trivial⟩) fun _ a u hE hS => ?_
    refine wp_seq ?_
    refine iff hE ?_
    refine wp_exit ?_
    have e1 : vn = (symL V).length := by rw [symL_len, if_pos hrun, hNi]; exact hi1
    have e2 : vs = (symL V).flatMap u16c := by rw [hi2]; unfold symL; rw [if_pos hrun, hNi]
    subst e1 e2
    refine dgE hE hS [pu, pu, pu, pu, ld 101, ld 93, nw 99, ap 1 [99], pu, pu, st 101] kp0 (fun p60 => kP [(101, some (.blk g 38 ((cs13 s m (rd16 y 0) C (rd24 (y.drop 4) 0) (gi y 7) (.slice (p60 7).a (xn + 1) (p60 7).c) (.slice none 0 0) h1 h2 h3 h4)))), (1, some (.row w.heap.size 129 5 (.slice (p60 7).a (xn + 1) (p60 7).c) (xn + 1) (xs ++ ([.bool false, .int .u16 (V / 8192 % 4), .int .u16 0, .int .u16 (V % 8192), .slice none 0 0] : List Value))))]) (fun _ => ⟨kr (show w.heap.size ≤ w.heap.size ∧ (xn + 1) * 32 ≤ 140737488355328 ∧ ∀ u ∈ ([.bool false, .int .u16 (V / 8192 % 4), .int .u16 0, .int .u16 (V % 8192), .slice none 0 0] : List Value), u.oneCell' = true from ⟨Nat.le_refl _, by omega, by intro u hu; simp at hu; rcases hu with rfl | rfl | rfl | rfl | rfl <;> rfl⟩), trivial⟩) fun p60 a u hE hS => ?_
    exact hKj (vp, (p60 7), ⟨false, V / 8192 % 4, 0, V % 8192, ⟨none, 0, []⟩⟩) a u _ _ ⟨by unfold staC; rw [if_pos hrun]; rfl, .inl rfl, fun _ => ⟨hr0, by omega⟩⟩ hE hS (by kernel_rfl)
  rw [show (V / 32768 == 0) = false from beq_eq_false_iff_ne.2 (by omega)] at hE
  refine iff hE ?_
  refine rgp hE hS [pu, pe (.int .u16 (V / 16384)), pe (.int .u16 (V / 16384 % 2)), pu, nw 93, st 93] (fun p61 => kp [(10, pt (p61 4).g 0)]) (fun p61 => kP [(93, some (.blk (p61 4).g 129 #[.bool true, .int .u16 0, .int .u16 (V / 16384 % 2), .int .u16 0, .slice none 0 0]))]) (fun _ => ⟨kr (shrv .u16 V 16384 (by decide)), kr (congrArg (Value.int .u16) (and1h (V / 16384) (by omega) (by omega))), trivial⟩) fun p61 a u hE hS => ?_
  refine wp_seq ?_
  by_cases hs1 : V / 16384 % 2 = 0
  ·skip
   refine rg hE hS [pu] (fun _ => kp [(11, .int .i64 13)]) kP0 fun _ a u hE hS => wp_block ?_
   refine loop_k hE hS 14 (fun i v => kd [8, 11, 55, 58, 65] [(11, .int .i64 (13 - ((i : Nat) : Int)))]) (fun i v => kN [(93, some (.blk (p61 4).g 129 #[.bool true, .int .u16 0, .int .u16 (V / 16384 % 2), .int .u16 0, .slice v.p.a v.n v.p.c])), (94, some (.row w.heap.size 32 1 (.slice v.p.a v.n v.p.c) v.n v.xs))] [101, 1, 2, 3, 4, 111]) (fun i (v : Lx Unit) => v.n = i ∧ v.xs = (vecN V i).flatMap u16c) ⟨pay0, 0, [], ()⟩ (⟨rfl, by unfold vecN; split <;> rfl⟩) ?_
   intro i v a u hki hIi hE hS Ki hKi
   obtain ⟨hi1, hi2⟩ := hIi
   obtain ⟨vp, vn, vs, _⟩ := v
   simp only at hi1 hi2
   by_cases hlt : i < 14
   ·skip
    have hsh := sh_in (13 - i) hV16.1 hV16.2
    refine wp_seq ?_
    refine rgp hE hS [pu, pe (.bool true)] (fun _ => kp [(107, .bool true)]) kP0 (fun _ => ⟨kr (cbV (dtV (show 13 - ((i : Nat) : Int) ≥ 0 by omega))), trivial⟩) fun _ a u hE hS => ift hE <| wp_skip ?_
    refine wp_seq ?_
    refine wp_block ?_
    refine rgp hE hS [pu, ld 93, pe (.bool true)] (fun _ => kp [(116, .bool true)]) kP0 (fun _ => ⟨kr (cbV (ebV (show (V / 16384 % 2 : Int) = 0 by omega))), trivial⟩) fun _ a u hE hS => ift hE ?_
    refine dgE hE hS [pu, ld 93, pu, pu, pf (.int .u16 (V / 2 ^ (13 - i))), pe (.int .u16 (V / 2 ^ (13 - i) % 2)), nw 92, ap 94 [92], pu, st 93] kp0 (fun p65 => kP [(93, some (.blk (p61 4).g 129 #[.bool true, .int .u16 0, .int .u16 (V / 16384 % 2), .int .u16 0, .slice (p65 7).a (vn + 1) (p65 7).c])), (94, some (.row w.heap.size 32 1 (.slice (p65 7).a (vn + 1) (p65 7).c) (vn + 1) (vs ++ ([.int .u16 (V / 2 ^ (13 - i) % 2)] : List Value))))]) (fun _ => ⟨kr (shr_v (P := Tryz.prog) (t := 32) V (13 - ((i : Nat) : Int)) (13 - i) (by omega) (by omega)), kr (congrArg (Value.int .u16) (and1h (V / 2 ^ (13 - i)) hsh.1 hsh.2)), kr (show w.heap.size ≤ w.heap.size ∧ (vn + 1) * 2 ≤ 140737488355328 ∧ ∀ u ∈ ([.int .u16 (V / 2 ^ (13 - i) % 2)] : List Value), u.oneCell' = true from ⟨Nat.le_refl _, by omega, by intro u hu; simp at hu; rw [hu]; rfl⟩), trivial⟩) fun p65 a u hE hS => ?_
    refine rgE hE hS [pu, pu, ld 93, pe (.int .i64 (V / 16384 % 2)), pe (.int .i64 (1 + V / 16384 % 2)), pe (.int .i64 (13 - ((i + 1 : Nat) : Int))), pu] (fun _ => kp [(11, .int .i64 (13 - ((i + 1 : Nat) : Int)))]) kP0 (fun _ => ⟨kr (ciV (wiV (V / 16384 % 2) (by omega))), kr (ciV (wiV (1 + V / 16384 % 2) (by omega))), kr (ciV (show IntKind.i64.wrap (13 - ((i : Nat) : Int) - (1 + V / 16384 % 2)) = 13 - ((i + 1 : Nat) : Int) from (wiV _ (by omega)).trans (by omega))), trivial⟩) fun _ a u hE hS => ?_
    exact hKi ⟨(p65 7), vn + 1, vs ++ [.int .u16 (V / 2 ^ (13 - i) % 2)], ()⟩ a u _ _ hlt ⟨congrArg (· + 1) hi1, by show vs ++ _ = _; rw [hi2, vecN_succ, List.flatMap_append, if_pos hs1]; rfl⟩ hE hS (by kernel_rfl)
   ·have hNi : 14 = i := by omega
    refine wp_seq ?_
    refine rgp hE hS [pu, pe (.bool false)] (fun _ => kp [(107, .bool false)]) kP0 (fun _ => ⟨kr (cbV (dfV (show ¬ (13 - ((i : Nat) : Int) ≥ 0) by omega))), trivial⟩) fun _ a u hE hS => iff hE ?_
    refine wp_exit ?_
    have e1 : vn = (symL V).length := by rw [symL_len, if_neg hrun]; unfold vecM; rw [if_pos hs1]; omega
    have e2 : vs = (symL V).flatMap u16c := by rw [hi2]; unfold symL vecM; rw [if_neg hrun, if_pos hs1, ← hNi]
    subst e1 e2
    refine rg hE hS [pu, ld 93, pu] (fun _ => kp [(8, .slice vp.a (symL V).length vp.c)]) kP0 fun _ a u hE hS => ?_
    refine dgE hE hS [pu, pu, pu, pu, ld 101, ld 93, nw 99, ap 1 [99], pu, pu, st 101] kp0 (fun p69 => kP [(101, some (.blk g 38 ((cs13 s m (rd16 y 0) C (rd24 (y.drop 4) 0) (gi y 7) (.slice (p69 7).a (xn + 1) (p69 7).c) (.slice none 0 0) h1 h2 h3 h4)))), (1, some (.row w.heap.size 129 5 (.slice (p69 7).a (xn + 1) (p69 7).c) (xn + 1) (xs ++ ([.bool true, .int .u16 0, .int .u16 (V / 16384 % 2), .int .u16 0, .slice vp.a (symL V).length vp.c] : List Value))))]) (fun _ => ⟨kr (show w.heap.size ≤ w.heap.size ∧ (xn + 1) * 32 ≤ 140737488355328 ∧ ∀ u ∈ ([.bool true, .int .u16 0, .int .u16 (V / 16384 % 2), .int .u16 0, .slice vp.a (symL V).length vp.c] : List Value), u.oneCell' = true from ⟨Nat.le_refl _, by omega, by intro u hu; simp at hu; rcases hu with rfl | rfl | rfl | rfl | rfl <;> rfl⟩), trivial⟩) fun p69 a u hE hS => ?_
    exact hKj (vp, (p69 7), ⟨true, 0, V / 16384 % 2, 0, ⟨vp.a, vp.c, symL V⟩⟩) a u _ _ ⟨by unfold staC; rw [if_neg hrun]; rfl, .inr rfl, fun h => absurd h hrun⟩ hE hS (by kernel_rfl)
  refine rg hE hS [pu] (fun _ => kp [(11, .int .i64 13)]) kP0 fun _ a u hE hS => wp_block ?_
  refine loop_k hE hS 7 (fun i v => kd [8, 11, 55, 58, 65] [(11, .int .i64 (13 - 2 * ((i : Nat) : Int)))]) (fun i v => kN [(93, some (.blk (p61 4).g 129 #[.bool true, .int .u16 0, .int .u16 (V / 16384 % 2), .int .u16 0, .slice v.p.a v.n v.p.c])), (94, some (.row w.heap.size 32 1 (.slice v.p.a v.n v.p.c) v.n v.xs))] [101, 1, 2, 3, 4, 111]) (fun i (v : Lx Unit) => v.n = i ∧ v.xs = (vecN V i).flatMap u16c) ⟨pay0, 0, [], ()⟩ (⟨rfl, by unfold vecN; split <;> rfl⟩) ?_
  intro i v a u hki hIi hE hS Ki hKi
  obtain ⟨hi1, hi2⟩ := hIi
  obtain ⟨vp, vn, vs, _⟩ := v
  simp only at hi1 hi2
  by_cases hlt : i < 7
  ·skip
   have hsh := sh_in (12 - 2 * i) hV16.1 hV16.2
   refine wp_seq ?_
   refine rgp hE hS [pu, pe (.bool true)] (fun _ => kp [(107, .bool true)]) kP0 (fun _ => ⟨kr (cbV (dtV (show 13 - 2 * ((i : Nat) : Int) ≥ 0 by omega))), trivial⟩) fun _ a u hE hS => ift hE <| wp_skip ?_
   refine wp_seq ?_
   refine wp_block ?_
   refine rgp hE hS [pu, ld 93, pe (.bool false)] (fun _ => kp [(116, .bool false)]) kP0 (fun _ => ⟨kr (cbV (nbV (show (V / 16384 % 2 : Int) ≠ 0 by omega))), trivial⟩) fun _ a u hE hS => iff hE ?_
   refine dgE hE hS [pu, ld 93, pu, pu, pe (.int .i64 (12 - 2 * ((i : Nat) : Int))), pf (.int .u16 (V / 2 ^ (12 - 2 * i))), pe (.int .u16 (V / 2 ^ (12 - 2 * i) % 4)), nw 92, ap 94 [92], pu, st 93] kp0 (fun p73 => kP [(93, some (.blk (p61 4).g 129 #[.bool true, .int .u16 0, .int .u16 (V / 16384 % 2), .int .u16 0, .slice (p73 8).a (vn + 1) (p73 8).c])), (94, some (.row w.heap.size 32 1 (.slice (p73 8).a (vn + 1) (p73 8).c) (vn + 1) (vs ++ ([.int .u16 (V / 2 ^ (12 - 2 * i) % 4)] : List Value))))]) (fun _ => ⟨kr (ciV (show IntKind.i64.wrap (13 - 2 * ((i : Nat) : Int) - 1) = 12 - 2 * ((i : Nat) : Int) from (wiV _ (by omega)).trans (by omega))), kr (shr_v (P := Tryz.prog) (t := 32) V (12 - 2 * ((i : Nat) : Int)) (12 - 2 * i) (by omega) (by omega)), kr (congrArg (Value.int .u16) (and3h (V / 2 ^ (12 - 2 * i)) hsh.1 hsh.2)), kr (show w.heap.size ≤ w.heap.size ∧ (vn + 1) * 2 ≤ 140737488355328 ∧ ∀ u ∈ ([.int .u16 (V / 2 ^ (12 - 2 * i) % 4)] : List Value), u.oneCell' = true from ⟨Nat.le_refl _, by omega, by intro u hu; simp at hu; rw [hu]; rfl⟩), trivial⟩) fun p73 a u hE hS => ?_
   refine rgE hE hS [pu, pu, ld 93, pe (.int .i64 (V / 16384 % 2)), pe (.int .i64 (1 + V / 16384 % 2)), pe (.int .i64 (13 - 2 * ((i + 1 : Nat) : Int))), pu] (fun _ => kp [(11, .int .i64 (13 - 2 * ((i + 1 : Nat) : Int)))]) kP0 (fun _ => ⟨kr (ciV (wiV (V / 16384 % 2) (by omega))), kr (ciV (wiV (1 + V / 16384 % 2) (by omega))), kr (ciV (show IntKind.i64.wrap (13 - 2 * ((i : Nat) : Int) - (1 + V / 16384 % 2)) = 13 - 2 * ((i + 1 : Nat) : Int) from (wiV _ (by omega)).trans (by omega))), trivial⟩) fun _ a u hE hS => ?_
   exact hKi ⟨(p73 8), vn + 1, vs ++ [.int .u16 (V / 2 ^ (12 - 2 * i) % 4)], ()⟩ a u _ _ hlt ⟨congrArg (· + 1) hi1, by show vs ++ _ = _; rw [hi2, vecN_succ, List.flatMap_append, if_neg hs1]; rfl⟩ hE hS (by kernel_rfl)
  ·have hNi : 7 = i := by omega
   refine wp_seq ?_
   refine rgp hE hS [pu, pe (.bool false)] (fun _ => kp [(107, .bool false)]) kP0 (fun _ => ⟨kr (cbV (dfV (show ¬ (13 - 2 * ((i : Nat) : Int) ≥ 0) by omega))), trivial⟩) fun _ a u hE hS => iff hE ?_
   refine wp_exit ?_
   have e1 : vn = (symL V).length := by rw [symL_len, if_neg hrun]; unfold vecM; rw [if_neg hs1]; omega
   have e2 : vs = (symL V).flatMap u16c := by rw [hi2]; unfold symL vecM; rw [if_neg hrun, if_neg hs1, ← hNi]
   subst e1 e2
   refine rg hE hS [pu, ld 93, pu] (fun _ => kp [(8, .slice vp.a (symL V).length vp.c)]) kP0 fun _ a u hE hS => ?_
   refine dgE hE hS [pu, pu, pu, pu, ld 101, ld 93, nw 99, ap 1 [99], pu, pu, st 101] kp0 (fun p77 => kP [(101, some (.blk g 38 ((cs13 s m (rd16 y 0) C (rd24 (y.drop 4) 0) (gi y 7) (.slice (p77 7).a (xn + 1) (p77 7).c) (.slice none 0 0) h1 h2 h3 h4)))), (1, some (.row w.heap.size 129 5 (.slice (p77 7).a (xn + 1) (p77 7).c) (xn + 1) (xs ++ ([.bool true, .int .u16 0, .int .u16 (V / 16384 % 2), .int .u16 0, .slice vp.a (symL V).length vp.c] : List Value))))]) (fun _ => ⟨kr (show w.heap.size ≤ w.heap.size ∧ (xn + 1) * 32 ≤ 140737488355328 ∧ ∀ u ∈ ([.bool true, .int .u16 0, .int .u16 (V / 16384 % 2), .int .u16 0, .slice vp.a (symL V).length vp.c] : List Value), u.oneCell' = true from ⟨Nat.le_refl _, by omega, by intro u hu; simp at hu; rcases hu with rfl | rfl | rfl | rfl | rfl <;> rfl⟩), trivial⟩) fun p77 a u hE hS => ?_
   exact hKj (vp, (p77 7), ⟨true, 0, V / 16384 % 2, 0, ⟨vp.a, vp.c, symL V⟩⟩) a u _ _ ⟨by unfold staC; rw [if_neg hrun]; rfl, .inr rfl, fun h => absurd h hrun⟩ hE hS (by kernel_rfl)
 ·skip
  obtain ⟨sp, tp, sta⟩ := x
  simp only at hI
  obtain ⟨hst1, hst2, hst3⟩ := hI
  refine rg hE hS [pu, pu, pu] (fun _ => kn [(148, .slice sp.a (symL V).length sp.c), (149, .int .i64 ((symL V).length : Nat)), (150, .int .i64 0)] [0, 4, 1, 6, 5]) (fun _ => kN [] [101, 1, 2, 3, 4, 94, 111]) fun _ a u hE hS => ?_
  have hsl := symL_le hV16.1
  refine range_up hE hS 150 (symL V).length (fun _ v => kd [150, 151, 180] [(5, .int .i64 v.y), (6, .slice v.p.a v.n v.p.c)]) (fun _ v => kP [(3, some (.row w.heap.size 32 1 (.slice v.p.a v.n v.p.c) v.n v.xs))]) (fun j (v : Lx Int) => v.n = (rcvN yy k ++ rcv ((symL V).take j)).length ∧ v.xs = (rcvN yy k ++ rcv ((symL V).take j)).flatMap u16c ∧ v.y = tl C yy k - (j : Nat) ∧ SyOk (tl C yy k) (symL V) j) ⟨rp, rn, rs, lf⟩ (by omega) (⟨by simp only [List.take_zero, rcv, List.filter_nil, List.append_nil]; exact hk10, by simp only [List.take_zero, rcv, List.filter_nil, List.append_nil]; exact hk11, by show lf = _; omega, fun i x hi => absurd hi (Nat.not_lt_zero i)⟩) (fun j v a u hjk hI hE hS K6 hK6 RK6 hRK6 => ?_) fun ⟨vq, vn, vs, l6⟩ a u hI hE hS => ?_
  ·obtain ⟨hj1, hj2, hj3, hj4⟩ := hI
   obtain ⟨vp, vn, vs, l6⟩ := v
   simp only at hj1 hj2 hj3 hj4
   obtain ⟨s, hs⟩ : ∃ s, (symL V)[j]? = some s := ⟨_, List.getElem?_eq_getElem hjk⟩
   have hrt := rcv_take hs
   have hrj : (rcv ((symL V).take j)).length ≤ j := Nat.le_trans (rcv_le _) (by simp; omega)
   have hvn := hj1
   rw [List.length_append] at hvn
   refine rgp hE hS [ir 94, lr 94 j (.int .u16 s), pu] (fun _ => kp [(13, .int .u16 s)]) kP0 (fun _ => ⟨kr (show j < (symL V).length from hjk), kr (show ((symL V).flatMap u16c)[j]? = some (.int .u16 s) ∧ 0 < (symL V).length from ⟨u16c_at hs, by omega⟩), trivial⟩) fun _ a u hE hS => ?_
   refine wp_seq ?_
   by_cases hAs : 0 < l6 ∧ s = 3
   ·skip
    refine rgp hE hS [pu, pe (.bool true), pu, pu, pe (.bool true), pu, pu, sk, sk, sk, gu false true pu, gu false true pu, sk, pu] (fun _ => kp [(167, .bool true)]) kP0 (fun _ => ⟨kr (cbV (dtV (show l6 > 0 by omega))), kr (cbV (ebV (show (s : Int) = 3 by omega))), trivial⟩) fun _ a u hE hS => ift hE ?_
    refine rg hE hS [pu] kp0 kP0 fun _ a u hE hS => ?_
    refine wp_ret (thR (bkR (thR (hRK6 _ _ _ (fun _ h => by cases h) (fun h => by cases h) (bkR (thR (bkR (thR ?_))))))))
    exact ret1 hE Tryz.results76 (.bool false) ⟨_, rfl, hS.grownBy (some g) (fun _ e => by rw [e]), (fun h => by cases h)⟩
   by_cases hBs : l6 ≤ 0 ∧ s ≠ 0
   ·skip
    refine rgp hE hS [pu, pe (.bool false), pu, sk, sk, pu, pu, pu, pe (.bool true), pu, pu, pe (.bool true), pu, pu] (fun _ => kp [(167, .bool true)]) kP0 (fun _ => ⟨kr (cbV (dfV (show ¬ (l6 > 0) by omega))), kr (cbV (dtV (show l6 ≤ 0 by omega))), kr (cbV (show (s != 0) = true from bne_iff_ne.2 hBs.2)), trivial⟩) fun _ a u hE hS => ift hE ?_
    refine rg hE hS [pu] kp0 kP0 fun _ a u hE hS => ?_
    refine wp_ret (thR (bkR (thR (hRK6 _ _ _ (fun _ h => by cases h) (fun h => by cases h) (bkR (thR (bkR (thR ?_))))))))
    exact ret1 hE Tryz.results76 (.bool false) ⟨_, rfl, hS.grownBy (some g) (fun _ e => by rw [e]), (fun h => by cases h)⟩
   by_cases hl0 : 0 < l6
   ·skip
    refine rgp hE hS [pu, pe (.bool true), pu, pu, pe (.bool false), pu, pu, pu, pe (.bool false), pu, sk, sk, pu, pu] (fun _ => kp [(167, .bool false)]) kP0 (fun _ => ⟨kr (cbV (dtV (show l6 > 0 by omega))), kr (cbV (nbV (show (s : Int) ≠ 3 by omega))), kr (cbV (dfV (show ¬ (l6 ≤ 0) by omega))), trivial⟩) fun _ a u hE hS => iff hE <| wp_skip ?_
    refine rgp hE hS [pu, pe (.int .i64 (l6 - 1)), pu] (fun _ => kp [(5, .int .i64 (l6 - 1))]) kP0 (fun _ => ⟨kr (ciV (wiV (l6 - 1) (by omega))), trivial⟩) fun _ a u hE hS => ?_
    by_cases hs1 : s = 1
    ·skip
     refine rgp hE hS [pu, pe (.bool true), pu, sk, sk, pu] (fun _ => kp [(175, .bool true)]) kP0 (fun _ => ⟨kr (cbV (ebV (show (s : Int) = 1 by omega))), trivial⟩) fun _ a u hE hS => ift hE ?_
     refine rgE hE hS [pu, pu, nw 92, ap 3 [92], pu] (fun p87 => kp [(6, .slice (p87 3).a (vn + 1) (p87 3).c)]) (fun p87 => kP [(3, some (.row w.heap.size 32 1 (.slice (p87 3).a (vn + 1) (p87 3).c) (vn + 1) (vs ++ ([.int .u16 s] : List Value))))]) (fun _ => ⟨kr (show w.heap.size ≤ w.heap.size ∧ (vn + 1) * 2 ≤ 140737488355328 ∧ ∀ u ∈ ([.int .u16 s] : List Value), u.oneCell' = true from ⟨Nat.le_refl _, by omega, by intro u hu; simp at hu; rw [hu]; rfl⟩), trivial⟩) fun p87 a u hE hS => ?_
     exact hK6 ⟨(p87 3), vn + 1, vs ++ [.int .u16 s], l6 - 1⟩ a u _ _ ⟨by show vn + 1 = _; rw [hrt, rcv_yes (by omega), ← List.append_assoc, List.length_append, ← hj1]; rfl, by show vs ++ _ = _; rw [hrt, rcv_yes (by omega), ← List.append_assoc, List.flatMap_append, ← hj2]; rfl, by show l6 - 1 = _; omega, fun i x hi hx => by
       by_cases e : i = j
       ·rw [e, hs] at hx; rw [e]; injection hx with hx; rw [← hx]; exact ⟨fun h1 => by omega, fun h1 => by omega⟩
       ·exact hj4 i x (by omega) hx⟩ hE hS (by kernel_rfl)
    by_cases hs2 : s = 2
    ·skip
     refine rgp hE hS [pu, pe (.bool false), pu, pu, pe (.bool true), pu] (fun _ => kp [(175, .bool true)]) kP0 (fun _ => ⟨kr (cbV (nbV (show (s : Int) ≠ 1 by omega))), kr (cbV (ebV (show (s : Int) = 2 by omega))), trivial⟩) fun _ a u hE hS => ift hE ?_
     refine rgE hE hS [pu, pu, nw 92, ap 3 [92], pu] (fun p89 => kp [(6, .slice (p89 3).a (vn + 1) (p89 3).c)]) (fun p89 => kP [(3, some (.row w.heap.size 32 1 (.slice (p89 3).a (vn + 1) (p89 3).c) (vn + 1) (vs ++ ([.int .u16 s] : List Value))))]) (fun _ => ⟨kr (show w.heap.size ≤ w.heap.size ∧ (vn + 1) * 2 ≤ 140737488355328 ∧ ∀ u ∈ ([.int .u16 s] : List Value), u.oneCell' = true from ⟨Nat.le_refl _, by omega, by intro u hu; simp at hu; rw [hu]; rfl⟩), trivial⟩) fun p89 a u hE hS => ?_
     exact hK6 ⟨(p89 3), vn + 1, vs ++ [.int .u16 s], l6 - 1⟩ a u _ _ ⟨by show vn + 1 = _; rw [hrt, rcv_yes (by omega), ← List.append_assoc, List.length_append, ← hj1]; rfl, by show vs ++ _ = _; rw [hrt, rcv_yes (by omega), ← List.append_assoc, List.flatMap_append, ← hj2]; rfl, by show l6 - 1 = _; omega, fun i x hi hx => by
       by_cases e : i = j
       ·rw [e, hs] at hx; rw [e]; injection hx with hx; rw [← hx]; exact ⟨fun h1 => by omega, fun h1 => by omega⟩
       ·exact hj4 i x (by omega) hx⟩ hE hS (by kernel_rfl)
    refine rgp hE hS [pu, pe (.bool false), pu, pu, pe (.bool false), pu] (fun _ => kp [(175, .bool false)]) kP0 (fun _ => ⟨kr (cbV (nbV (show (s : Int) ≠ 1 by omega))), kr (cbV (nbV (show (s : Int) ≠ 2 by omega))), trivial⟩) fun _ a u hE hS => iff hE <| wp_skip ?_
    exact hK6 ⟨vp, vn, vs, l6 - 1⟩ a u _ _ ⟨by show vn = _; rw [hrt, rcv_no hs1 hs2, List.append_nil]; exact hj1, by show vs = _; rw [hrt, rcv_no hs1 hs2, List.append_nil]; exact hj2, by show l6 - 1 = _; omega, fun i x hi hx => by
      by_cases e : i = j
      ·rw [e, hs] at hx; rw [e]; injection hx with hx; rw [← hx]; exact ⟨fun h1 => by omega, fun h1 => by omega⟩
      ·exact hj4 i x (by omega) hx⟩ hE hS (by kernel_rfl)
   refine rgp hE hS [pu, pe (.bool false), pu, sk, sk, pu, pu, pu, pe (.bool true), pu, pu, pe (.bool false), pu, pu] (fun _ => kp [(167, .bool false)]) kP0 (fun _ => ⟨kr (cbV (dfV (show ¬ (l6 > 0) by omega))), kr (cbV (dtV (show l6 ≤ 0 by omega))), kr (cbV (show (s != 0) = false by rw [show s = 0 by omega]; rfl)), trivial⟩) fun _ a u hE hS => iff hE <| wp_skip ?_
   refine rgp hE hS [pu, pe (.int .i64 (l6 - 1)), pu] (fun _ => kp [(5, .int .i64 (l6 - 1))]) kP0 (fun _ => ⟨kr (ciV (wiV (l6 - 1) (by omega))), trivial⟩) fun _ a u hE hS => ?_
   by_cases hs1 : s = 1
   ·skip
    refine rgp hE hS [pu, pe (.bool true), pu, sk, sk, pu] (fun _ => kp [(175, .bool true)]) kP0 (fun _ => ⟨kr (cbV (ebV (show (s : Int) = 1 by omega))), trivial⟩) fun _ a u hE hS => ift hE ?_
    refine rgE hE hS [pu, pu, nw 92, ap 3 [92], pu] (fun p94 => kp [(6, .slice (p94 3).a (vn + 1) (p94 3).c)]) (fun p94 => kP [(3, some (.row w.heap.size 32 1 (.slice (p94 3).a (vn + 1) (p94 3).c) (vn + 1) (vs ++ ([.int .u16 s] : List Value))))]) (fun _ => ⟨kr (show w.heap.size ≤ w.heap.size ∧ (vn + 1) * 2 ≤ 140737488355328 ∧ ∀ u ∈ ([.int .u16 s] : List Value), u.oneCell' = true from ⟨Nat.le_refl _, by omega, by intro u hu; simp at hu; rw [hu]; rfl⟩), trivial⟩) fun p94 a u hE hS => ?_
    exact hK6 ⟨(p94 3), vn + 1, vs ++ [.int .u16 s], l6 - 1⟩ a u _ _ ⟨by show vn + 1 = _; rw [hrt, rcv_yes (by omega), ← List.append_assoc, List.length_append, ← hj1]; rfl, by show vs ++ _ = _; rw [hrt, rcv_yes (by omega), ← List.append_assoc, List.flatMap_append, ← hj2]; rfl, by show l6 - 1 = _; omega, fun i x hi hx => by
      by_cases e : i = j
      ·rw [e, hs] at hx; rw [e]; injection hx with hx; rw [← hx]; exact ⟨fun h1 => by omega, fun h1 => by omega⟩
      ·exact hj4 i x (by omega) hx⟩ hE hS (by kernel_rfl)
   by_cases hs2 : s = 2
   ·skip
    refine rgp hE hS [pu, pe (.bool false), pu, pu, pe (.bool true), pu] (fun _ => kp [(175, .bool true)]) kP0 (fun _ => ⟨kr (cbV (nbV (show (s : Int) ≠ 1 by omega))), kr (cbV (ebV (show (s : Int) = 2 by omega))), trivial⟩) fun _ a u hE hS => ift hE ?_
    refine rgE hE hS [pu, pu, nw 92, ap 3 [92], pu] (fun p96 => kp [(6, .slice (p96 3).a (vn + 1) (p96 3).c)]) (fun p96 => kP [(3, some (.row w.heap.size 32 1 (.slice (p96 3).a (vn + 1) (p96 3).c) (vn + 1) (vs ++ ([.int .u16 s] : List Value))))]) (fun _ => ⟨kr (show w.heap.size ≤ w.heap.size ∧ (vn + 1) * 2 ≤ 140737488355328 ∧ ∀ u ∈ ([.int .u16 s] : List Value), u.oneCell' = true from ⟨Nat.le_refl _, by omega, by intro u hu; simp at hu; rw [hu]; rfl⟩), trivial⟩) fun p96 a u hE hS => ?_
    exact hK6 ⟨(p96 3), vn + 1, vs ++ [.int .u16 s], l6 - 1⟩ a u _ _ ⟨by show vn + 1 = _; rw [hrt, rcv_yes (by omega), ← List.append_assoc, List.length_append, ← hj1]; rfl, by show vs ++ _ = _; rw [hrt, rcv_yes (by omega), ← List.append_assoc, List.flatMap_append, ← hj2]; rfl, by show l6 - 1 = _; omega, fun i x hi hx => by
      by_cases e : i = j
      ·rw [e, hs] at hx; rw [e]; injection hx with hx; rw [← hx]; exact ⟨fun h1 => by omega, fun h1 => by omega⟩
      ·exact hj4 i x (by omega) hx⟩ hE hS (by kernel_rfl)
   refine rgp hE hS [pu, pe (.bool false), pu, pu, pe (.bool false), pu] (fun _ => kp [(175, .bool false)]) kP0 (fun _ => ⟨kr (cbV (nbV (show (s : Int) ≠ 1 by omega))), kr (cbV (nbV (show (s : Int) ≠ 2 by omega))), trivial⟩) fun _ a u hE hS => iff hE <| wp_skip ?_
   exact hK6 ⟨vp, vn, vs, l6 - 1⟩ a u _ _ ⟨by show vn = _; rw [hrt, rcv_no hs1 hs2, List.append_nil]; exact hj1, by show vs = _; rw [hrt, rcv_no hs1 hs2, List.append_nil]; exact hj2, by show l6 - 1 = _; omega, fun i x hi hx => by
     by_cases e : i = j
     ·rw [e, hs] at hx; rw [e]; injection hx with hx; rw [← hx]; exact ⟨fun h1 => by omega, fun h1 => by omega⟩
     ·exact hj4 i x (by omega) hx⟩ hE hS (by kernel_rfl)
  simp only [List.take_length] at hI
  obtain ⟨hm1, hm2, hm3, hm4⟩ := hI
  have hS := stp_syms (B := w.heap.size) (l := rows) hS 2 94 (⟨sp.a, sp.c, symL V⟩ : Sl Int) (by decide)
  have htn : tl C yy (k + 1) = tl C yy k - (symL V).length := by rw [← hVt]; rfl
  have hrcn : rcvN yy (k + 1) = rcvN yy k ++ rcv (symL V) := by rw [← hVt]; rfl
  exact hK ⟨tp, xn + 1, xs ++ sta.cells, l1 ++ [sta], rows ++ [⟨sp.a, sp.c, symL V⟩], (p46 1), z.drop 2, c1 - 2, vq, vn, vs, l6⟩ a u _ _ (by omega) ⟨congrArg (· + 1) hk1, by show xs ++ _ = (l1 ++ _).flatMap _; rw [hk2, List.flatMap_append]; simp, by show (l1 ++ [sta]).map _ = _; rw [List.map_append, hk3, stasN_succ, hVt]; simp [hst1], by show (l1 ++ [sta]).length = _; simp [hk4], by show z.drop 2 = _; rw [hk5, List.drop_drop]; rfl, by show (z.drop 2).length ≤ c1 - 2; rw [List.length_drop]; omega, by omega, fun s hs => by
    rcases List.mem_append.1 hs with h | h
    ·exact (hk8 s h).imp id fun h => List.mem_append_left _ h
    ·rw [List.mem_singleton.1 h]; exact hst2.imp id fun h => by rw [h]; exact List.mem_append_right _ (List.mem_singleton.2 rfl), fun j2 hj2 => by
    by_cases e : j2 = k
    ·rw [e]; unfold TkOk; rw [hVt]; exact ⟨by omega, by omega, ⟨fun hrun => (by have := hst3 hrun; omega), fun i x hx => hm4 i x (List.getElem?_eq_some_iff.1 hx).1 hx⟩⟩
    ·exact hk9 j2 (by omega), by rw [hrcn]; exact hm1, by rw [hrcn]; exact hm2, by show l6 = _; rw [htn]; exact hm3⟩ hE hS (by kernel_rfl)
end Go.Proofs.YtmmfpgoodfgkbaaGreatDoor
