/-
  THE WALK of the reference's reading of descriptions. Condition: the bytes lie in memory, ahead of the packet's variable.
-/
import Derived.Test.YtmmfpgoodfgkbaaGreatDoorMDesc
namespace Go.Proofs.YtmmfpgoodfgkbaaGreatDoor
open Go Go.RowKit
set_option maxHeartbeats 4000000
set_option maxRecDepth 100000
set_option linter.unusedVariables false
set_option linter.unusedSimpArgs false

abbrev ckItemsS (B : Nat) (l : List Chunk) : Pc := .ck (ckRs B 107 2 (fun x : Chunk => x.items.val) (fun x => x.items.l.flatMap Item.cells) (fun x => x.items.l.length) l)
theorem stp_itemsS {olds : Nat → Prop} {w0 w : World} {L : PL} {B : Nat} {l : List Chunk} (h : Stp olds w0 w (lookM (den olds w0 L))) (k k2 : Nat) (x : Chunk) (hne : k ≠ k2) (hk : lookP L k = some (ckItemsS B l) := by kernel_rfl) (hk2 : lookP L k2 = some (.row B 107 2 x.items.val x.items.l.length (x.items.l.flatMap Item.cells)) := by kernel_rfl) : Stp olds w0 w (lookM (den olds w0 ((k, some (ckItemsS B (l ++ [x]))) :: (k2, none) :: L))) :=
 Stp.merge h k k2 x (by rw [lookM_den, hk]; rfl) (by rw [lookM_den, hk2]; rfl) hne
theorem own_itemsS {olds : Nat → Prop} {w0 w : World} {L : PL} {B : Nat} {l : List Chunk} (h : Stp olds w0 w (lookM (den olds w0 L))) (k : Nat) (x : Chunk) (hx : x ∈ l) (hk : lookP L k = some (ckItemsS B l) := by kernel_rfl) : w.ownsRow B 107 2 x.items.val x.items.l.length (x.items.l.flatMap Item.cells) := (show (Pc.den olds w0 (ckItemsS B l)).ok w from h.ok k _ (by rw [lookM_den, hk]; rfl)) x hx
theorem stp_itemsS0 {olds : Nat → Prop} {w0 w : World} {L : PL} (h : Stp olds w0 w (lookM (den olds w0 L))) (k B : Nat) : Stp olds w0 w (lookM (den olds w0 ((k, some (ckItemsS B [])) :: L))) := ckRs_nil h k B 107 2 _ _ _
def cs3 (v : Value) : Array Value := #[.int .i64 3, .int .u32 0, .int .u32 0, .int .u64 0, .int .u32 0, .int .u32 0, .int .u32 0, .slice none 0 0, .slice none 0 0, v, .slice none 0 0, .string ByteArray.empty, .int .u8 0, .slice none 0 0, .slice none 0 0, .slice none 0 0, .slice none 0 0, .int .u32 0, .slice none 0 0, .int .u32 0, .int .u16 0, .int .u16 0, .int .u32 0, .int .u8 0, .slice none 0 0, .slice none 0 0, .bool false, .int .u8 0, .int .u8 0, .int .u16 0]
def SdR (n : Nat) (y : List Int) (q : Pkt) : Prop := ∃ A c l, q = { pNul with kind := 3, chunks := ⟨A, c, l⟩ } ∧ l.map Chunk.cln = chsN y n ∧ SdOk y n
theorem chOff_in {y : List Int} : ∀ {n : Nat}, (∀ j, j < n → ChOk (y.drop (chOff y j))) → chOff y n ≤ y.length
 | 0, _ => Nat.zero_le _
 | n + 1, h => by
  have h1 := (h n (by omega)).pad
  have h2 := (h n (by omega)).len
  rw [List.length_drop] at h1 h2
  show chOff y n + cLen (y.drop (chOff y n)) ≤ _
  omega
theorem rem4 (n : Nat) : ((n : Nat) : Int).tmod 4 = ((n % 4 : Nat) : Int) := by
 rw [Int.tmod_eq_emod_of_nonneg (by omega)]
 omega
theorem bne_false {x y : Int} (h : x = y) : (x != y) = false := by rw [h]; simp
theorem readChunks_any (g : Nat) (n : Nat) (B b o c : Nat) (y : List Int) (w : World) (hb : Blk w g 38 (cs3 (.slice none 0 0))) (hr : Reads w B 1 (some ⟨b, o, none⟩) y.length (u8s y)) (hB : B ≤ g) (hz : Byts y) (hc : y.length ≤ c) (hl : y.length ≤ 1048576) (hn : n ≤ 31) :
  Calls Tryz.prog 40 #[.pointer (some ⟨g, 0, none⟩), .slice (some ⟨b, o, none⟩) y.length c, .int .i64 (n : Nat)] w (RdOut g w (SdR n y)) := by
 refine go_in Tryz.func40 rfl Tryz.ntmps40 [pt g 0, sv b o y.length c, .int .i64 (n : Nat)] fun a hE => ?_
 have hS := stp_blk1 101 hb
 have hS := stp_ry hS 111 hr (fun x hx => ⟨by have := hb.lt; omega, by omega⟩) hz
 refine rg hE hS [pu] (fun _ => kp [(6, .bool false)]) kP0 fun _ a u hE hS => ?_
 refine wp_seq ?_
 refine rg hE hS [pu, pu] (fun _ => kn [(9, .int .i64 (n : Nat)), (10, .int .i64 0)] [0, 1, 6]) (fun _ => kN [] [111, 101]) fun _ a u hE hS => ?_
 have hS := stp_row0 hS 1 w.heap.size 102 2
 have hS := stp_itemsS0 hS 2 w.heap.size
 refine range_up hE hS 10 n (fun _ x => kd [10, 11, 110] [(1, sv x.y.2.1.g x.y.2.1.c x.y.2.2.1.length x.y.2.2.2)]) (fun _ x => kP [(101, some (.blk g 38 ((cs3 (.slice x.p.a x.n x.p.c))))), (1, some (.row w.heap.size 102 2 (.slice x.p.a x.n x.p.c) x.n x.xs)), (2, some (ckItemsS w.heap.size x.y.1)), (111, some (.ry (fun x => x < B) (some ⟨x.y.2.1.g, x.y.2.1.c, none⟩) x.y.2.2.1))]) (fun k (x : Lx (List Chunk × Pay × List Int × Nat)) => x.n = k ∧ x.xs = x.y.1.flatMap Chunk.cells ∧ x.y.1.map Chunk.cln = chsN y k ∧ x.y.1.length = k ∧ x.y.2.2.1 = y.drop (chOff y k) ∧ x.y.2.2.1.length ≤ x.y.2.2.2 ∧ ∀ j, j < k → ChOk (y.drop (chOff y j))) ⟨pay0, 0, [], [], (⟨b, o, undef, none⟩ : Pay), y, c⟩ (by omega) (⟨rfl, rfl, rfl, rfl, by simp [chOff], by show y.length ≤ c; omega, fun j h => absurd h (Nat.not_lt_zero j)⟩) (fun k x a u hk hI hE hS K hK RK hRK => ?_) fun ⟨qq, n1, xs1, l2, q2, z2, c2⟩ a u hI hE hS => ?_
 ·obtain ⟨hk1, hk2, hk3, hk4, hk5, hk6, hk7⟩ := hI
  obtain ⟨xp, xn, xs, l1, y1, z, c1⟩ := x
  simp only at hk1 hk2 hk3 hk4 hk5 hk6 hk7
  have hzl : z.length = y.length - chOff y k := by rw [hk5]; exact List.length_drop
  have hz1 : Byts z := by rw [hk5]; exact hz.drop _
  have hcu := chOff_up y k
  refine wp_seq ?_
  by_cases h8 : z.length < 8
  ·skip
   refine rgp hE hS [pu, pu, pe (.bool true)] (fun _ => kp [(14, .bool true)]) kP0 (fun _ => ⟨kr (cbV (dtV (show ((z.length : Nat) : Int) < 8 by omega))), trivial⟩) fun _ a u hE hS => ift hE ?_
   refine rg hE hS [pu] kp0 kP0 fun _ a u hE hS => ?_
   refine wp_ret (thR (bkR (thR (hRK _ _ _ (fun _ h => by cases h) (fun h => by cases h) (thR ?_)))))
   exact ret1 hE Tryz.results40 (.bool false) ⟨_, rfl, hS.grownBy (some g) (fun _ e => by rw [e]), (fun h => by cases h)⟩
  refine rgp hE hS [pu, pu, pe (.bool false)] (fun _ => kp [(14, .bool false)]) kP0 (fun _ => ⟨kr (cbV (dfV (show ¬ (((z.length : Nat) : Int) < 8) by omega))), trivial⟩) fun _ a u hE hS => iff hE <| wp_skip ?_
  refine rgp hE hS [pu, cl cU32 [111] [], pu, nw 93, st 93] (fun p6 => kp [(7, pt (p6 3).g 0)]) (fun p6 => kP [(93, some (.blk (p6 3).g 102 #[.int .u32 (rd32 z 0), .slice none 0 0]))]) (fun _ => ⟨kr (show 4 ≤ z.length ∧ z.length ≤ c1 ∧ 0 < z.length by omega), trivial⟩) fun p6 a u hE hS => ?_
  have hS := stp_row0 hS 94 w.heap.size 107 2
  refine rg hE hS [pu] (fun _ => kn [(8, .int .i64 (4 : Nat))] [0, 1, 6, 9, 10, 7]) (fun _ => kN [] [94, 101, 1, 2, 111, 93]) fun _ a u hE hS => ?_
  refine wp_seq ?_
  refine wp_block ?_
  refine loop_k hE hS (itM z) (fun j v => kd [8] [(8, .int .i64 (itOff z j : Nat))]) (fun j v => kN [(93, some (.blk (p6 3).g 102 #[.int .u32 (rd32 z 0), .slice v.p.a v.n v.p.c])), (94, some (.row w.heap.size 107 2 (.slice v.p.a v.n v.p.c) v.n v.xs))] [101, 1, 2, 111]) (fun j (v : Lx Unit) => v.n = j ∧ v.xs = (itsN z j).flatMap Item.cells) ⟨pay0, 0, [], ()⟩ (⟨rfl, by simp [itsN]⟩) ?_
  intro j v a u hkj hIj hE hS Kj hKj
  obtain ⟨hj1, hj2⟩ := hIj
  obtain ⟨vp, vn, vs, _⟩ := v
  simp only at hj1 hj2
  by_cases hlt : j < itM z
  ·skip
   obtain ⟨hm1, hm2, hm3⟩ := itM_good hlt
   have hg1 := hz1.gi (itOff z j + 1)
   have hnx : itOff z (j + 1) = itOff z j + 2 + (gi z (itOff z j + 1)).toNat := rfl
   refine wp_block ?_
   refine wp_seq ?_
   refine rgp hE hS [pu, pu, pu, pe (.bool false)] (fun _ => kp [(21, .bool false)]) kP0 (fun _ => ⟨kr (cbV (dfV (show ¬ (((itOff z j : Nat) : Int) ≥ ((z.length : Nat) : Int)) by omega))), trivial⟩) fun _ a u hE hS => iff hE <| wp_skip ?_
   refine wp_seq ?_
   refine rgp hE hS [pu, pu, ix, rb 111 (itOff z j), pe (.bool false)] (fun _ => kp [(26, .bool false)]) kP0 (fun _ => ⟨kr (show itOff z j < z.length by omega), kr (show itOff z j < (z).length by omega), kr (cbV (beq_eq_false_iff_ne.2 hm2)), trivial⟩) fun _ a u hE hS => iff hE <| wp_skip ?_
   refine wp_seq ?_
   refine rgp hE hS [pu, pe (.int .i64 ((itOff z j + 2 : Nat) : Int)), pu, pu, pe (.bool false), pu, pu, pe (.int .i64 ((itOff z j + 2 : Nat) : Int)), pu, pu, pe (.int .i64 ((itOff z j + 1 : Nat) : Int)), ix, rb 111 (itOff z j + 1), pe (.int .i64 (gi z (itOff z j + 1))), pe (.int .i64 (itOff z (j + 1) : Nat)), pu, pu, pe (.bool false), pu] (fun _ => kp [(47, .bool false)]) kP0 (fun _ => ⟨kr (ciV (show IntKind.i64.wrap (((itOff z j : Nat) : Int) + (2 : Int)) = ((itOff z j + 2 : Nat) : Int) from by rw [wiV _ (by omega)]; omega)), kr (cbV (dfV (show ¬ (((itOff z j + 2 : Nat) : Int) > ((z.length : Nat) : Int)) by omega))), kr (ciV (show IntKind.i64.wrap (((itOff z j : Nat) : Int) + (2 : Int)) = ((itOff z j + 2 : Nat) : Int) from by rw [wiV _ (by omega)]; omega)), kr (ciV (show IntKind.i64.wrap (((itOff z j : Nat) : Int) + (1 : Int)) = ((itOff z j + 1 : Nat) : Int) from by rw [wiV _ (by omega)]; omega)), kr (show (itOff z j + 1) < z.length by omega), kr (show (itOff z j + 1) < (z).length by omega), kr (ciV (wiV (gi z (itOff z j + 1)) (by omega))), kr (ciV (show IntKind.i64.wrap (((itOff z j + 2 : Nat) : Int) + gi z (itOff z j + 1)) = ((itOff z (j + 1) : Nat) : Int) from (wiV _ (by omega)).trans (by omega))), kr (cbV (dfV (show ¬ (((itOff z (j + 1) : Nat) : Int) > ((z.length : Nat) : Int)) by omega))), trivial⟩) fun _ a u hE hS => iff hE <| wp_skip ?_
   refine dgp hE hS [pu, ld 93, pu, pu, ix, rb 111 (itOff z j), pu, pu, pe (.int .i64 ((itOff z j + 2 : Nat) : Int)), pu, pe (.int .i64 ((itOff z j + 2 : Nat) : Int)), pu, pu, pe (.int .i64 ((itOff z j + 1 : Nat) : Int)), ix, rb 111 (itOff z j + 1), pe (.int .i64 (gi z (itOff z j + 1))), pe (.int .i64 (itOff z (j + 1) : Nat)), rsl 111 112, rt 112, pu, nw 92, ap 94 [92], pu, st 93] kp0 (fun p11 => kP [(93, some (.blk (p6 3).g 102 #[.int .u32 (rd32 z 0), .slice (p11 22).a (vn + 1) (p11 22).c])), (94, some (.row w.heap.size 107 2 (.slice (p11 22).a (vn + 1) (p11 22).c) (vn + 1) (vs ++ (itAt z j).cells)))]) (fun _ => ⟨kr (show itOff z j < z.length by omega), kr (show itOff z j < (z).length by omega), kr (ciV (show IntKind.i64.wrap (((itOff z j : Nat) : Int) + (2 : Int)) = ((itOff z j + 2 : Nat) : Int) from by rw [wiV _ (by omega)]; omega)), kr (ciV (show IntKind.i64.wrap (((itOff z j : Nat) : Int) + (2 : Int)) = ((itOff z j + 2 : Nat) : Int) from by rw [wiV _ (by omega)]; omega)), kr (ciV (show IntKind.i64.wrap (((itOff z j : Nat) : Int) + (1 : Int)) = ((itOff z j + 1 : Nat) : Int) from by rw [wiV _ (by omega)]; omega)), kr (show (itOff z j + 1) < z.length by omega), kr (show (itOff z j + 1) < (z).length by omega), kr (ciV (wiV (gi z (itOff z j + 1)) (by omega))), kr (ciV (show IntKind.i64.wrap (((itOff z j + 2 : Nat) : Int) + gi z (itOff z j + 1)) = ((itOff z (j + 1) : Nat) : Int) from (wiV _ (by omega)).trans (by omega))), kr (show (itOff z j + 2) ≤ (itOff z (j + 1)) ∧ (itOff z (j + 1)) ≤ z.length ∧ z.length ≤ c1 by omega), kr (show w.heap.size ≤ w.heap.size ∧ (vn + 1) * 24 ≤ 140737488355328 ∧ ∀ u ∈ (itAt z j).cells, u.oneCell' = true from ⟨Nat.le_refl _, by have := itM_le z; omega, by intro u hu; simp [Item.cells] at hu; rcases hu with rfl | rfl <;> rfl⟩), trivial⟩) fun p11 a u hE hS => ?_
   refine rgE hE hS [pu, pu, pu, pe (.int .i64 ((itOff z j + 1 : Nat) : Int)), ix, rb 111 (itOff z j + 1), pe (.int .i64 (gi z (itOff z j + 1))), pe (.int .i64 (2 + gi z (itOff z j + 1))), pe (.int .i64 (itOff z (j + 1) : Nat)), pu] (fun _ => kp [(8, .int .i64 (itOff z (j + 1) : Nat))]) kP0 (fun _ => ⟨kr (ciV (show IntKind.i64.wrap (((itOff z j : Nat) : Int) + (1 : Int)) = ((itOff z j + 1 : Nat) : Int) from by rw [wiV _ (by omega)]; omega)), kr (show (itOff z j + 1) < z.length by omega), kr (show (itOff z j + 1) < (z).length by omega), kr (ciV (wiV (gi z (itOff z j + 1)) (by omega))), kr (ciV (wiV (2 + gi z (itOff z j + 1)) (by omega))), kr (ciV (show IntKind.i64.wrap (((itOff z j : Nat) : Int) + (2 + gi z (itOff z j + 1))) = ((itOff z (j + 1) : Nat) : Int) from (wiV _ (by omega)).trans (by omega))), trivial⟩) fun _ a u hE hS => ?_
   exact hKj ⟨(p11 22), vn + 1, vs ++ (itAt z j).cells, ()⟩ a u _ _ hlt ⟨congrArg (· + 1) hj1, by show vs ++ _ = _; rw [hj2, itsN_succ, List.flatMap_append]; simp⟩ hE hS (by kernel_rfl)
  ·have hNj : itM z = j := by omega
   by_cases hA : z.length ≤ itOff z j
   ·skip
    refine wp_block ?_
    refine wp_seq ?_
    refine rgp hE hS [pu, pu, pu, pe (.bool true)] (fun _ => kp [(21, .bool true)]) kP0 (fun _ => ⟨kr (cbV (dtV (show ((itOff z j : Nat) : Int) ≥ ((z.length : Nat) : Int) by omega))), trivial⟩) fun _ a u hE hS => ift hE ?_
    refine rg hE hS [pu] kp0 kP0 fun _ a u hE hS => ?_
    refine wp_ret (thR (bkR (thR (bkR (thR (bkR (thR (hRK _ _ _ (fun _ h => by cases h) (fun h => by cases h) (thR ?_)))))))))
    exact ret1 hE Tryz.results40 (.bool false) ⟨_, rfl, hS.grownBy (some g) (fun _ e => by rw [e]), (fun h => by cases h)⟩
   by_cases hB : gi z (itOff z j) = 0
   ·skip
    have hg1 := hz1.gi (itOff z j + 1)
    have hnx : itOff z (j + 1) = itOff z j + 2 + (gi z (itOff z j + 1)).toNat := rfl
    refine wp_block ?_
    refine wp_seq ?_
    refine rgp hE hS [pu, pu, pu, pe (.bool false)] (fun _ => kp [(21, .bool false)]) kP0 (fun _ => ⟨kr (cbV (dfV (show ¬ (((itOff z j : Nat) : Int) ≥ ((z.length : Nat) : Int)) by omega))), trivial⟩) fun _ a u hE hS => iff hE <| wp_skip ?_
    refine wp_seq ?_
    refine rgp hE hS [pu, pu, ix, rb 111 (itOff z j), pe (.bool true)] (fun _ => kp [(26, .bool true)]) kP0 (fun _ => ⟨kr (show itOff z j < z.length by omega), kr (show itOff z j < (z).length by omega), kr (cbV (beq_iff_eq.2 hB)), trivial⟩) fun _ a u hE hS => ift hE ?_
    refine rgp hE hS [pu, pe (.int .i64 ((itOff z j + 1 : Nat) : Int)), pu] (fun _ => kp [(8, .int .i64 (itOff z j + 1 : Nat))]) kP0 (fun _ => ⟨kr (ciV (show IntKind.i64.wrap (((itOff z j : Nat) : Int) + (1 : Int)) = ((itOff z j + 1 : Nat) : Int) from by rw [wiV _ (by omega)]; omega)), trivial⟩) fun _ a u hE hS => ?_
    refine wp_exit ?_
    refine wp_seq ?_
    have hcl := up4_spec (itOff z j + 1)
    have hcle : cLen z = up4 (itOff z j + 1) := by unfold cLen; rw [hNj]
    refine wp_block ?_
    refine loop_k hE hS ((cLen z - (itOff z j + 1))) (fun i v2 => kd [8, 21, 26] [(8, .int .i64 ((itOff z j + 1 + i : Nat) : Int))]) (fun i v2 => kN [] [101, 1, 2, 111, 93, 94]) (fun i (v2 : Unit) => itOff z j + 1 + i ≤ z.length) () ((show itOff z j + 1 + 0 ≤ z.length by omega)) ?_
    intro i v2 a u hki hIi hE hS Ki hKi
    obtain hi1 := hIi
    by_cases hltp : i < (cLen z - (itOff z j + 1))
    ·skip
     refine wp_seq ?_
     refine rgp hE hS [pu, pe (.int .i64 (((itOff z j + 1 + i) % 4 : Nat) : Int)), pe (.bool true)] (fun _ => kp [(83, .bool true)]) kP0 (fun _ => ⟨kr (ciV (rem4 (itOff z j + 1 + i))), kr (cbV (show ((((itOff z j + 1 + i) % 4 : Nat) : Int) != 0) = true from bne_iff_ne.2 (by omega))), trivial⟩) fun _ a u hE hS => ift hE <| wp_skip ?_
     refine wp_seq ?_
     refine wp_block ?_
     by_cases hD : z.length ≤ itOff z j + 1 + i
     ·skip
      refine rgp hE hS [pu, pu, pu, pe (.bool true), pu, sk, sk, sk, sk, sk, pu] (fun _ => kp [(96, .bool true)]) kP0 (fun _ => ⟨kr (cbV (dtV (show ((itOff z j + 1 + i : Nat) : Int) ≥ ((z.length : Nat) : Int) by omega))), trivial⟩) fun _ a u hE hS => ift hE ?_
      refine rg hE hS [pu] kp0 kP0 fun _ a u hE hS => ?_
      refine wp_ret (bkR (thR (thR (bkR (thR (bkR (thR (hRK _ _ _ (fun _ h => by cases h) (fun h => by cases h) (thR ?_)))))))))
      exact ret1 hE Tryz.results40 (.bool false) ⟨_, rfl, hS.grownBy (some g) (fun _ e => by rw [e]), (fun h => by cases h)⟩
     by_cases hF : gi z (itOff z j + 1 + i) = 0
     rotate_left
     ·skip
      refine rgp hE hS [pu, pu, pu, pe (.bool false), pu, pu, pu, ix, rb 111 (itOff z j + 1 + i), pe (.bool true), pu] (fun _ => kp [(96, .bool true)]) kP0 (fun _ => ⟨kr (cbV (dfV (show ¬ (((itOff z j + 1 + i : Nat) : Int) ≥ ((z.length : Nat) : Int)) by omega))), kr (show (itOff z j + 1 + i) < z.length by omega), kr (show (itOff z j + 1 + i) < (z).length by omega), kr (cbV (bne_iff_ne.2 hF)), trivial⟩) fun _ a u hE hS => ift hE ?_
      refine rg hE hS [pu] kp0 kP0 fun _ a u hE hS => ?_
      refine wp_ret (bkR (thR (thR (bkR (thR (bkR (thR (hRK _ _ _ (fun _ h => by cases h) (fun h => by cases h) (thR ?_)))))))))
      exact ret1 hE Tryz.results40 (.bool false) ⟨_, rfl, hS.grownBy (some g) (fun _ e => by rw [e]), (fun h => by cases h)⟩
     refine rgp hE hS [pu, pu, pu, pe (.bool false), pu, pu, pu, ix, rb 111 (itOff z j + 1 + i), pe (.bool false), pu] (fun _ => kp [(96, .bool false)]) kP0 (fun _ => ⟨kr (cbV (dfV (show ¬ (((itOff z j + 1 + i : Nat) : Int) ≥ ((z.length : Nat) : Int)) by omega))), kr (show (itOff z j + 1 + i) < z.length by omega), kr (show (itOff z j + 1 + i) < (z).length by omega), kr (cbV (show (gi z (itOff z j + 1 + i) != 0) = false by rw [hF]; rfl)), trivial⟩) fun _ a u hE hS => iff hE <| wp_skip ?_
     refine rgE hE hS [pu, pe (.int .i64 ((itOff z j + 1 + (i + 1) : Nat) : Int)), pu] (fun _ => kp [(8, .int .i64 (itOff z j + 1 + (i + 1) : Nat))]) kP0 (fun _ => ⟨kr (ciV (show IntKind.i64.wrap (((itOff z j + 1 + i : Nat) : Int) + (1 : Int)) = ((itOff z j + 1 + (i + 1) : Nat) : Int) from by rw [wiV _ (by omega)]; omega)), trivial⟩) fun _ a u hE hS => ?_
     exact hKi () a u _ _ hltp (show itOff z j + 1 + (i + 1) ≤ z.length by omega) hE hS (by kernel_rfl)
    ·have hNpi : (cLen z - (itOff z j + 1)) = i := by omega
     refine wp_seq ?_
     refine rgp hE hS [pu, pe (.int .i64 (((itOff z j + 1 + i) % 4 : Nat) : Int)), pe (.bool false)] (fun _ => kp [(83, .bool false)]) kP0 (fun _ => ⟨kr (ciV (rem4 (itOff z j + 1 + i))), kr (cbV (show ((((itOff z j + 1 + i) % 4 : Nat) : Int) != 0) = false from bne_false (by omega))), trivial⟩) fun _ a u hE hS => iff hE ?_
     refine wp_exit ?_
     have hcz : cLen z ≤ z.length := by omega
     refine dgp hE hS [pu, pu, pu, pu, ld 101, ld 93, nw 99, ap 1 [99], pu, pu, st 101] kp0 (fun p26 => kP [(101, some (.blk g 38 ((cs3 (.slice (p26 7).a (xn + 1) (p26 7).c))))), (1, some (.row w.heap.size 102 2 (.slice (p26 7).a (xn + 1) (p26 7).c) (xn + 1) (xs ++ ([.int .u32 (rd32 z 0), .slice vp.a vn vp.c] : List Value))))]) (fun _ => ⟨kr (show w.heap.size ≤ w.heap.size ∧ (xn + 1) * 32 ≤ 140737488355328 ∧ ∀ u ∈ ([.int .u32 (rd32 z 0), .slice vp.a vn vp.c] : List Value), u.oneCell' = true from ⟨Nat.le_refl _, by omega, by intro u hu; simp at hu; rcases hu with rfl | rfl <;> rfl⟩), trivial⟩) fun p26 a u hE hS => ?_
     have hoff : itOff z j + 1 + i = cLen z := by omega
     refine rgE hE hS [pu, pu, rsl 111 111, pu] (fun p27 => kp [(1, sv (p27 2).g (p27 2).c (z.drop (itOff z j + 1 + i)).length (c1 - (itOff z j + 1 + i)))]) (fun p27 => kP [(111, some (.ry (fun x => x < B) ((some ⟨(p27 2).g, (p27 2).c, none⟩)) (z.drop (itOff z j + 1 + i))))]) (fun _ => ⟨kr (show (itOff z j + 1 + i) ≤ z.length ∧ z.length ≤ z.length ∧ z.length ≤ c1 by omega), trivial⟩) fun p27 a u hE hS => ?_
     have hvn : vn = (itsN z j).length := by rw [itsN_len]; exact hj1
     have hS := stp_itemsS (B := w.heap.size) (l := l1) hS 2 94 (⟨rd32 z 0, ⟨vp.a, vp.c, itsN z j⟩⟩ : Chunk) (by decide) (by kernel_rfl) (by show lookP _ 94 = some (.row w.heap.size 107 2 (.slice vp.a ((itsN z j).length : Nat) vp.c) (itsN z j).length ((itsN z j).flatMap Item.cells)); rw [← hvn, ← hj2]; kernel_rfl)
     have hNz : itM z = j := hNj
     have hlast : gi z (itOff z j) = 0 := hB
     exact hK ⟨(p26 7), xn + 1, xs ++ ([.int .u32 (rd32 z 0), .slice vp.a vn vp.c] : List Value), l1 ++ [(⟨rd32 z 0, ⟨vp.a, vp.c, itsN z j⟩⟩ : Chunk)], (p27 2), z.drop (itOff z j + 1 + i), c1 - (itOff z j + 1 + i)⟩ a u _ _ ⟨congrArg (· + 1) hk1, by show xs ++ _ = (l1 ++ _).flatMap _; rw [hk2, List.flatMap_append, hvn]; rfl, by show (l1 ++ [_]).map _ = _; rw [List.map_append, hk3, chsN_succ, ← hk5]; unfold chC; rw [hNz]; rfl, by show (l1 ++ [_]).length = _; simp [hk4], by show z.drop _ = _; rw [hoff, hk5, List.drop_drop]; rfl, by show (z.drop (itOff z j + 1 + i)).length ≤ c1 - (itOff z j + 1 + i); rw [List.length_drop]; omega, fun j2 hj2 => by
       by_cases e : j2 = k
       ·rw [e, ← hk5]; exact ⟨by omega, by rw [hNz]; omega, by rw [hNz]; exact hlast, hcz⟩
       ·exact hk7 j2 (by omega)⟩ hE hS (by kernel_rfl)
   by_cases hC : itOff z j + 2 > z.length
   ·skip
    have hover := itM_end z
    rw [hNj] at hover
    replace hover := hover (by omega) hB
    have hg1 := hz1.gi (itOff z j + 1)
    have hnx : itOff z (j + 1) = itOff z j + 2 + (gi z (itOff z j + 1)).toNat := rfl
    refine wp_block ?_
    refine wp_seq ?_
    refine rgp hE hS [pu, pu, pu, pe (.bool false)] (fun _ => kp [(21, .bool false)]) kP0 (fun _ => ⟨kr (cbV (dfV (show ¬ (((itOff z j : Nat) : Int) ≥ ((z.length : Nat) : Int)) by omega))), trivial⟩) fun _ a u hE hS => iff hE <| wp_skip ?_
    refine wp_seq ?_
    refine rgp hE hS [pu, pu, ix, rb 111 (itOff z j), pe (.bool false)] (fun _ => kp [(26, .bool false)]) kP0 (fun _ => ⟨kr (show itOff z j < z.length by omega), kr (show itOff z j < (z).length by omega), kr (cbV (beq_eq_false_iff_ne.2 hB)), trivial⟩) fun _ a u hE hS => iff hE <| wp_skip ?_
    refine wp_seq ?_
    refine rgp hE hS [pu, pe (.int .i64 ((itOff z j + 2 : Nat) : Int)), pu, pu, pe (.bool true), pu, sk, sk, sk, sk, sk, sk, sk, sk, sk, sk, sk, sk, pu] (fun _ => kp [(47, .bool true)]) kP0 (fun _ => ⟨kr (ciV (show IntKind.i64.wrap (((itOff z j : Nat) : Int) + (2 : Int)) = ((itOff z j + 2 : Nat) : Int) from by rw [wiV _ (by omega)]; omega)), kr (cbV (dtV (show ((itOff z j + 2 : Nat) : Int) > ((z.length : Nat) : Int) by omega))), trivial⟩) fun _ a u hE hS => ift hE ?_
    refine rg hE hS [pu] kp0 kP0 fun _ a u hE hS => ?_
    refine wp_ret (thR (bkR (thR (bkR (thR (bkR (thR (hRK _ _ _ (fun _ h => by cases h) (fun h => by cases h) (thR ?_)))))))))
    exact ret1 hE Tryz.results40 (.bool false) ⟨_, rfl, hS.grownBy (some g) (fun _ e => by rw [e]), (fun h => by cases h)⟩
   have hover := itM_end z
   rw [hNj] at hover
   replace hover := hover (by omega) hB
   have hg1 := hz1.gi (itOff z j + 1)
   have hnx : itOff z (j + 1) = itOff z j + 2 + (gi z (itOff z j + 1)).toNat := rfl
   refine wp_block ?_
   refine wp_seq ?_
   refine rgp hE hS [pu, pu, pu, pe (.bool false)] (fun _ => kp [(21, .bool false)]) kP0 (fun _ => ⟨kr (cbV (dfV (show ¬ (((itOff z j : Nat) : Int) ≥ ((z.length : Nat) : Int)) by omega))), trivial⟩) fun _ a u hE hS => iff hE <| wp_skip ?_
   refine wp_seq ?_
   refine rgp hE hS [pu, pu, ix, rb 111 (itOff z j), pe (.bool false)] (fun _ => kp [(26, .bool false)]) kP0 (fun _ => ⟨kr (show itOff z j < z.length by omega), kr (show itOff z j < (z).length by omega), kr (cbV (beq_eq_false_iff_ne.2 hB)), trivial⟩) fun _ a u hE hS => iff hE <| wp_skip ?_
   refine wp_seq ?_
   refine rgp hE hS [pu, pe (.int .i64 ((itOff z j + 2 : Nat) : Int)), pu, pu, pe (.bool false), pu, pu, pe (.int .i64 ((itOff z j + 2 : Nat) : Int)), pu, pu, pe (.int .i64 ((itOff z j + 1 : Nat) : Int)), ix, rb 111 (itOff z j + 1), pe (.int .i64 (gi z (itOff z j + 1))), pe (.int .i64 (itOff z (j + 1) : Nat)), pu, pu, pe (.bool true), pu] (fun _ => kp [(47, .bool true)]) kP0 (fun _ => ⟨kr (ciV (show IntKind.i64.wrap (((itOff z j : Nat) : Int) + (2 : Int)) = ((itOff z j + 2 : Nat) : Int) from by rw [wiV _ (by omega)]; omega)), kr (cbV (dfV (show ¬ (((itOff z j + 2 : Nat) : Int) > ((z.length : Nat) : Int)) by omega))), kr (ciV (show IntKind.i64.wrap (((itOff z j : Nat) : Int) + (2 : Int)) = ((itOff z j + 2 : Nat) : Int) from by rw [wiV _ (by omega)]; omega)), kr (ciV (show IntKind.i64.wrap (((itOff z j : Nat) : Int) + (1 : Int)) = ((itOff z j + 1 : Nat) : Int) from by rw [wiV _ (by omega)]; omega)), kr (show (itOff z j + 1) < z.length by omega), kr (show (itOff z j + 1) < (z).length by omega), kr (ciV (wiV (gi z (itOff z j + 1)) (by omega))), kr (ciV (show IntKind.i64.wrap (((itOff z j + 2 : Nat) : Int) + gi z (itOff z j + 1)) = ((itOff z (j + 1) : Nat) : Int) from (wiV _ (by omega)).trans (by omega))), kr (cbV (dtV (show ((itOff z (j + 1) : Nat) : Int) > ((z.length : Nat) : Int) by omega))), trivial⟩) fun _ a u hE hS => ift hE ?_
   refine rg hE hS [pu] kp0 kP0 fun _ a u hE hS => ?_
   refine wp_ret (thR (bkR (thR (bkR (thR (bkR (thR (hRK _ _ _ (fun _ h => by cases h) (fun h => by cases h) (thR ?_)))))))))
   exact ret1 hE Tryz.results40 (.bool false) ⟨_, rfl, hS.grownBy (some g) (fun _ e => by rw [e]), (fun h => by cases h)⟩
 simp only at hI
 obtain ⟨h1, h2, h3, h4, h5, h6, h7⟩ := hI
 subst h1
 have hzl : z2.length = y.length - chOff y n1 := by rw [h5]; exact List.length_drop
 have hno : 8 * n1 ≤ y.length := by
  cases hn0 : n1 with
  | zero => omega
  | succ m => have hk := h7 m (by omega); have hp := hk.pad; have hu := chOff_up y m; have hc8 := cLen_pos (y.drop (chOff y m)); have hl8 := hk.len; rw [List.length_drop] at hp hl8; omega
 by_cases hz0 : z2.length = 0
 ·skip
  refine rgp hE hS [pu, pu, pe (.bool true), pu] (fun _ => kp [(6, .bool true)]) kP0 (fun _ => ⟨kr (cbV (ebV (show (((z2.length : Nat) : Int) : Int) = 0 by omega))), trivial⟩) fun _ a u hE hS => ?_
  refine wp_ret ?_
  have hrow := InRows.of_own (pcR (base := w.heap.size) (e := 102) (size := 2) (v := .slice qq.a n1 qq.c) (n := n1) (xs := xs1) hS 1)
  have hown := fun x hx => own_itemsS (B := w.heap.size) (l := l2) hS 2 x hx
  have hblk := pcB (g := g) (T := 38) (cs := cs3 (.slice qq.a n1 qq.c)) hS 101
  rw [← h4, h2] at hrow
  have hlen : chOff y n1 = y.length := by
   rcases Nat.lt_or_ge (chOff y n1) y.length with h | h
   ·omega
   ·exact Nat.le_antisymm (chOff_in h7) h
  exact ret1 hE Tryz.results40 (.bool true) ⟨_, rfl, hS.grownBy (some g) (fun _ e => by rw [e]), fun _ => ⟨({ pNul with kind := 3, chunks := ⟨qq.a, qq.c, l2⟩ } : Pkt), (by have e : (({ pNul with kind := 3, chunks := ⟨qq.a, qq.c, l2⟩ } : Pkt) : Pkt).cells = cs3 (.slice qq.a n1 qq.c) := (by unfold cs3 Pkt.cells Sl.val; simp only [h4]; rfl); rw [e]; exact hblk), ⟨⟨.nil, hrow, (fun x hx => InRows.of_own (hown x hx)), .nil, .nil, .nil, .nil, (fun x hx => by cases hx), .nil, .nil⟩, .nil, (fun x hx => by cases hx), rfl, rfl⟩, qq.a, qq.c, l2, rfl, h3, ⟨h7, hlen⟩⟩⟩
 refine rgp hE hS [pu, pu, pe (.bool false), pu] kp0 kP0 (fun _ => ⟨kr (cbV (nbV (show (((z2.length : Nat) : Int) : Int) ≠ 0 by omega))), trivial⟩) fun _ a u hE hS => ?_
 refine wp_ret ?_
 exact ret1 hE Tryz.results40 (.bool false) ⟨_, rfl, hS.grownBy (some g) (fun _ e => by rw [e]), (fun h => by cases h)⟩
end Go.Proofs.YtmmfpgoodfgkbaaGreatDoor
