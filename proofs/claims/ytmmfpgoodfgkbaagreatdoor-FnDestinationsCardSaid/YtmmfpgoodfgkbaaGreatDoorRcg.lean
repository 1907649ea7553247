/-
  THE WALK of the reference's reading of congestion control feedback. Condition: the bytes lie in memory, ahead of the packet's variable.
-/
import Derived.Test.YtmmfpgoodfgkbaaGreatDoorMDesc
import Derived.Test.YtmmfpgoodfgkbaaGreatDoorStepsD
namespace Go.Proofs.YtmmfpgoodfgkbaaGreatDoor
open Go Go.RowKit
set_option maxHeartbeats 4000000
set_option maxRecDepth 100000
set_option linter.unusedVariables false
set_option linter.unusedSimpArgs false

theorem rem2 (n : Nat) : ((n : Nat) : Int).tmod 2 = ((n % 2 : Nat) : Int) := by
 rw [Int.tmod_eq_emod_of_nonneg (by omega)]
 omega
abbrev ckMetsS (B : Nat) (l : List Blo) : Pc := .ck (ckRs B 125 3 (fun x : Blo => x.mets.val) (fun x => x.mets.l.flatMap Met.cells) (fun x => x.mets.l.length) l)
theorem stp_metsS {olds : Nat → Prop} {w0 w : World} {L : PL} {B : Nat} {l : List Blo} (h : Stp olds w0 w (lookM (den olds w0 L))) (k k2 : Nat) (x : Blo) (hne : k ≠ k2) (hk : lookP L k = some (ckMetsS B l) := by kernel_rfl) (hk2 : lookP L k2 = some (.row B 125 3 x.mets.val x.mets.l.length (x.mets.l.flatMap Met.cells)) := by kernel_rfl) : Stp olds w0 w (lookM (den olds w0 ((k, some (ckMetsS B (l ++ [x]))) :: (k2, none) :: L))) :=
 Stp.merge h k k2 x (by rw [lookM_den, hk]; rfl) (by rw [lookM_den, hk2]; rfl) hne
theorem own_metsS {olds : Nat → Prop} {w0 w : World} {L : PL} {B : Nat} {l : List Blo} (h : Stp olds w0 w (lookM (den olds w0 L))) (k : Nat) (x : Blo) (hx : x ∈ l) (hk : lookP L k = some (ckMetsS B l) := by kernel_rfl) : w.ownsRow B 125 3 x.mets.val x.mets.l.length (x.mets.l.flatMap Met.cells) := (show (Pc.den olds w0 (ckMetsS B l)).ok w from h.ok k _ (by rw [lookM_den, hk]; rfl)) x hx
theorem stp_metsS0 {olds : Nat → Prop} {w0 w : World} {L : PL} (h : Stp olds w0 w (lookM (den olds w0 L))) (k B : Nat) : Stp olds w0 w (lookM (den olds w0 ((k, some (ckMetsS B [])) :: L))) := ckRs_nil h k B 125 3 _ _ _
def cs8 (s : Int) (v : Value) (t : Int) : Array Value := #[.int .i64 8, .int .u32 s, .int .u32 0, .int .u64 0, .int .u32 0, .int .u32 0, .int .u32 0, .slice none 0 0, .slice none 0 0, .slice none 0 0, .slice none 0 0, .string ByteArray.empty, .int .u8 0, .slice none 0 0, .slice none 0 0, .slice none 0 0, .slice none 0 0, .int .u32 0, v, .int .u32 t, .int .u16 0, .int .u16 0, .int .u32 0, .int .u8 0, .slice none 0 0, .slice none 0 0, .bool false, .int .u8 0, .int .u8 0, .int .u16 0]
def CgR (s : Int) (y : List Int) (q : Pkt) : Prop := ∃ n A c l, q = { pFb 8 s 0 with blocks := ⟨A, c, l⟩, time := rd32 (y.drop (bkOff y n)) 0 } ∧ l.map Blo.cln = bksN y n ∧ CgOk y n
theorem readCong_any (g : Nat) (s : Int) (B b o c : Nat) (y : List Int) (w : World) (hb : Blk w g 38 (cs8 s (.slice none 0 0) 0)) (hr : Reads w B 1 (some ⟨b, o, none⟩) y.length (u8s y)) (hB : B ≤ g) (hz : Byts y) (hc : y.length ≤ c) (hl : y.length ≤ 1048576) :
  Calls Tryz.prog 75 #[.pointer (some ⟨g, 0, none⟩), .slice (some ⟨b, o, none⟩) y.length c] w (RdOut g w (CgR s y)) := by
 refine go_in Tryz.func75 rfl Tryz.ntmps75 [pt g 0, sv b o y.length c] fun a hE => ?_
 have hS := stp_blk1 101 hb
 have hS := stp_ry hS 111 hr (fun x hx => ⟨by have := hb.lt; omega, by omega⟩) hz
 refine rg hE hS [pu] (fun _ => kp [(4, .bool false)]) kP0 fun _ a u hE hS => ?_
 have hS := stp_row0 hS 1 w.heap.size 120 3
 have hS := stp_metsS0 hS 2 w.heap.size
 refine wp_seq ?_
 refine wp_block ?_
 refine loop_k hE hS y.length (fun k x => kd [1] [(1, sv x.y.2.1.g x.y.2.1.c x.y.2.2.1.length x.y.2.2.2)]) (fun k x => kN [(101, some (.blk g 38 ((cs8 s (.slice x.p.a x.n x.p.c) 0)))), (1, some (.row w.heap.size 120 3 (.slice x.p.a x.n x.p.c) x.n x.xs)), (2, some (ckMetsS w.heap.size x.y.1)), (111, some (.ry (fun x => x < B) (some ⟨x.y.2.1.g, x.y.2.1.c, none⟩) x.y.2.2.1))] []) (fun k (x : Lx (List Blo × Pay × List Int × Nat)) => x.n = k ∧ x.xs = x.y.1.flatMap Blo.cells ∧ x.y.1.map Blo.cln = bksN y k ∧ x.y.1.length = k ∧ x.y.2.2.1 = y.drop (bkOff y k) ∧ x.y.2.2.1.length ≤ x.y.2.2.2 ∧ bkOff y k ≤ y.length ∧ ∀ j, j < k → BkOk (y.drop (bkOff y j))) ⟨pay0, 0, [], [], (⟨b, o, undef, none⟩ : Pay), y, c⟩ (⟨rfl, rfl, rfl, rfl, by simp [bkOff], by show y.length ≤ c; omega, Nat.zero_le _, fun j h => absurd h (Nat.not_lt_zero j)⟩) ?_
 intro k x a u hkk hI hE hS K hK
 obtain ⟨hk1, hk2, hk3, hk4, hk5, hk6, hk7, hk8⟩ := hI
 obtain ⟨xp, xn, xs, l1, y1, z, c1⟩ := x
 simp only at hk1 hk2 hk3 hk4 hk5 hk6 hk7 hk8
 have hzl : z.length = y.length - bkOff y k := by rw [hk5]; exact List.length_drop
 have hz1 : Byts z := by rw [hk5]; exact hz.drop _
 have hcu := bkOff_up y k
 refine wp_seq ?_
 by_cases h4 : z.length ≤ 4
 ·skip
  refine rgp hE hS [pu, pu, pe (.bool false)] (fun _ => kp [(12, .bool false)]) kP0 (fun _ => ⟨kr (cbV (dfV (show ¬ (((z.length : Nat) : Int) > 4) by omega))), trivial⟩) fun _ a u hE hS => iff hE ?_
  refine wp_exit ?_
  refine wp_seq ?_
  by_cases hq4 : z.length = 4
  rotate_left
  ·skip
   refine rgp hE hS [pu, pu, pe (.bool true), pu, sk, sk, sk, sk, sk, sk, pu] (fun _ => kp [(108, .bool true)]) kP0 (fun _ => ⟨kr (cbV (show (((z.length : Nat) : Int) != 4) = true from bne_iff_ne.2 (by omega))), trivial⟩) fun _ a u hE hS => ift hE ?_
   refine rg hE hS [pu] kp0 kP0 fun _ a u hE hS => ?_
   refine wp_ret (thR ?_)
   exact ret1 hE Tryz.results75 (.bool false) ⟨_, rfl, hS.grownBy (some g) (fun _ e => by rw [e]), (fun h => by cases h)⟩
  by_cases hx0 : xn = 0
  ·skip
   refine rgp hE hS [pu, pu, pe (.bool false), pu, pu, pu, pu, ld 101, pu, pe (.bool true), pu] (fun _ => kp [(108, .bool true)]) kP0 (fun _ => ⟨kr (cbV (show (((z.length : Nat) : Int) != 4) = false by rw [show ((z.length : Nat) : Int) = 4 by omega]; rfl)), kr (cbV (ebV (show (((xn : Nat) : Int) : Int) = 0 by omega))), trivial⟩) fun _ a u hE hS => ift hE ?_
   refine rg hE hS [pu] kp0 kP0 fun _ a u hE hS => ?_
   refine wp_ret (thR ?_)
   exact ret1 hE Tryz.results75 (.bool false) ⟨_, rfl, hS.grownBy (some g) (fun _ e => by rw [e]), (fun h => by cases h)⟩
  refine rgp hE hS [pu, pu, pe (.bool false), pu, pu, pu, pu, ld 101, pu, pe (.bool false), pu] (fun _ => kp [(108, .bool false)]) kP0 (fun _ => ⟨kr (cbV (show (((z.length : Nat) : Int) != 4) = false by rw [show ((z.length : Nat) : Int) = 4 by omega]; rfl)), kr (cbV (nbV (show (((xn : Nat) : Int) : Int) ≠ 0 by omega))), trivial⟩) fun _ a u hE hS => iff hE <| wp_skip ?_
  refine rgp hE hS [pu, pu, cl cU32 [111] [], pu, pu, st 101] kp0 (fun _ => kP [(101, some (.blk g 38 ((cs8 s (.slice xp.a xn xp.c) (rd32 z 0)))))]) (fun _ => ⟨kr (show 4 ≤ z.length ∧ z.length ≤ c1 ∧ 0 < z.length by omega), trivial⟩) fun _ a u hE hS => ?_
  refine rg hE hS [pu] (fun _ => kp [(4, .bool true)]) kP0 fun _ a u hE hS => ?_
  refine wp_ret ?_
  have hrow := InRows.of_own (pcR (base := w.heap.size) (e := 120) (size := 3) (v := .slice xp.a xn xp.c) (n := xn) (xs := xs) hS 1)
  have hown := fun x hx => own_metsS (B := w.heap.size) (l := l1) hS 2 x hx
  have hblk := pcB (g := g) (T := 38) (cs := cs8 s (.slice xp.a xn xp.c) (rd32 z 0)) hS 101
  have hxl : xn = l1.length := by omega
  rw [hxl, hk2] at hrow
  rw [hk5] at hblk
  exact ret1 hE Tryz.results75 (.bool true) ⟨_, rfl, hS.grownBy (some g) (fun _ e => by rw [e]), fun _ => ⟨({ pFb 8 s 0 with blocks := ⟨xp.a, xp.c, l1⟩, time := rd32 (y.drop (bkOff y k)) 0 } : Pkt), (by have e : (({ pFb 8 s 0 with blocks := ⟨xp.a, xp.c, l1⟩, time := rd32 (y.drop (bkOff y k)) 0 } : Pkt) : Pkt).cells = cs8 s (.slice xp.a xn xp.c) (rd32 (y.drop (bkOff y k)) 0) := (by unfold cs8 Pkt.cells Sl.val; simp only [hxl]; rfl); rw [e]; exact hblk), ⟨⟨.nil, .nil, (fun x hx => by cases hx), .nil, .nil, .nil, hrow, (fun x hx => InRows.of_own (hown x hx)), .nil, .nil⟩, .nil, (fun x hx => by cases hx), rfl, rfl⟩, k, xp.a, xp.c, l1, rfl, hk3, ⟨hk8, by omega, by omega⟩⟩⟩
 refine rgp hE hS [pu, pu, pe (.bool true)] (fun _ => kp [(12, .bool true)]) kP0 (fun _ => ⟨kr (cbV (dtV (show ((z.length : Nat) : Int) > 4 by omega))), trivial⟩) fun _ a u hE hS => ift hE <| wp_skip <| wp_block ?_
 refine wp_seq ?_
 by_cases h12 : z.length < 12
 ·skip
  refine rgp hE hS [pu, pu, pe (.bool true)] (fun _ => kp [(15, .bool true)]) kP0 (fun _ => ⟨kr (cbV (dtV (show ((z.length : Nat) : Int) < 12 by omega))), trivial⟩) fun _ a u hE hS => ift hE ?_
  refine rg hE hS [pu] kp0 kP0 fun _ a u hE hS => ?_
  refine wp_ret (thR (bkR (thR (bkR (thR ?_)))))
  exact ret1 hE Tryz.results75 (.bool false) ⟨_, rfl, hS.grownBy (some g) (fun _ e => by rw [e]), (fun h => by cases h)⟩
 refine rgp hE hS [pu, pu, pe (.bool false)] (fun _ => kp [(15, .bool false)]) kP0 (fun _ => ⟨kr (cbV (dfV (show ¬ (((z.length : Nat) : Int) < 12) by omega))), trivial⟩) fun _ a u hE hS => iff hE <| wp_skip ?_
 refine dgp hE hS [pu, cl cU32 [111] [], pu, rsl 111 112, cl cU16 [112] [], pu, nw 93, st 93] (fun p14 => kp [(5, pt (p14 6).g 0)]) (fun p14 => kP [(93, some (.blk (p14 6).g 120 #[.int .u32 (rd32 z 0), .int .u16 (rd16 (z.drop 4) 0), .slice none 0 0]))]) (fun _ => ⟨kr (show 4 ≤ z.length ∧ z.length ≤ c1 ∧ 0 < z.length by omega), kr (show 4 ≤ z.length ∧ z.length ≤ z.length ∧ z.length ≤ c1 by omega), kr (show 2 ≤ (z.drop 4).length ∧ (z.drop 4).length ≤ (c1 - 4) ∧ 0 < (z.drop 4).length by simp only [List.length_drop]; omega), trivial⟩) fun p14 a u hE hS => ?_
 have hS := stp_row0 hS 95 w.heap.size 125 3
 have hn16 := rd16_lt (hz1.drop 6) 0
 have hbk : bkN z = (rd16 (z.drop 6) 0).toNat := rfl
 have hl8 : (z.drop 8).length = z.length - 8 := List.length_drop
 have hblen : bkLen z = 8 + 2 * (bkN z + bkN z % 2) := rfl
 refine rgp hE hS [pu, rsl 111 112, cl cU16 [112] [], pe (.int .i64 (bkN z : Nat)), pu] (fun _ => kp [(6, .int .i64 (bkN z : Nat))]) kP0 (fun _ => ⟨kr (show 6 ≤ z.length ∧ z.length ≤ z.length ∧ z.length ≤ c1 by omega), kr (show 2 ≤ (z.drop 6).length ∧ (z.drop 6).length ≤ (c1 - 6) ∧ 0 < (z.drop 6).length by simp only [List.length_drop]; omega), kr (ciV (show IntKind.i64.wrap (rd16 (z.drop 6) 0) = ((bkN z : Nat) : Int) from (wiV _ (by omega)).trans (by omega))), trivial⟩) fun _ a u hE hS => ?_
 refine rgp hE hS [pu, rsl 111 111, pu] (fun p16 => kn [(1, sv (p16 1).g (p16 1).c (z.drop 8).length (c1 - 8))] [0, 4, 5, 6]) (fun p16 => kN [(111, some (.ry (fun x => x < B) ((some ⟨(p16 1).g, (p16 1).c, none⟩)) (z.drop 8)))] [95, 101, 1, 2, 93]) (fun _ => ⟨kr (show 8 ≤ z.length ∧ z.length ≤ z.length ∧ z.length ≤ c1 by omega), trivial⟩) fun p16 a u hE hS => ?_
 refine wp_seq ?_
 by_cases hm : (z.drop 8).length < 2 * (bkN z + bkN z % 2) + 4
 ·skip
  refine rgp hE hS [pu, pu, pu, pu, pe (.int .i64 (bkN z % 2 : Nat)), pe (.int .i64 ((bkN z + bkN z % 2 : Nat) : Int)), pe (.int .i64 ((2 * (bkN z + bkN z % 2) : Nat) : Int)), pe (.int .i64 ((2 * (bkN z + bkN z % 2) + 4 : Nat) : Int)), pe (.bool true)] (fun _ => kp [(36, .bool true)]) kP0 (fun _ => ⟨kr (ciV (rem2 (bkN z))), kr (ciV (show IntKind.i64.wrap (((bkN z : Nat) : Int) + ((bkN z % 2 : Nat) : Int)) = ((bkN z + bkN z % 2 : Nat) : Int) from by rw [wiV _ (by omega)]; omega)), kr (ciV (show IntKind.i64.wrap ((2 : Int) * ((bkN z + bkN z % 2 : Nat) : Int)) = ((2 * (bkN z + bkN z % 2) : Nat) : Int) from by rw [wiV _ (by omega)]; omega)), kr (ciV (show IntKind.i64.wrap (((2 * (bkN z + bkN z % 2) : Nat) : Int) + (4 : Int)) = ((2 * (bkN z + bkN z % 2) + 4 : Nat) : Int) from by rw [wiV _ (by omega)]; omega)), kr (cbV (dtV (show (((z.drop 8).length : Nat) : Int) < ((2 * (bkN z + bkN z % 2) + 4 : Nat) : Int) by omega))), trivial⟩) fun _ a u hE hS => ift hE ?_
  refine rg hE hS [pu] kp0 kP0 fun _ a u hE hS => ?_
  refine wp_ret (thR (bkR (thR (bkR (thR ?_)))))
  exact ret1 hE Tryz.results75 (.bool false) ⟨_, rfl, hS.grownBy (some g) (fun _ e => by rw [e]), (fun h => by cases h)⟩
 refine rgp hE hS [pu, pu, pu, pu, pe (.int .i64 (bkN z % 2 : Nat)), pe (.int .i64 ((bkN z + bkN z % 2 : Nat) : Int)), pe (.int .i64 ((2 * (bkN z + bkN z % 2) : Nat) : Int)), pe (.int .i64 ((2 * (bkN z + bkN z % 2) + 4 : Nat) : Int)), pe (.bool false)] (fun _ => kp [(36, .bool false)]) kP0 (fun _ => ⟨kr (ciV (rem2 (bkN z))), kr (ciV (show IntKind.i64.wrap (((bkN z : Nat) : Int) + ((bkN z % 2 : Nat) : Int)) = ((bkN z + bkN z % 2 : Nat) : Int) from by rw [wiV _ (by omega)]; omega)), kr (ciV (show IntKind.i64.wrap ((2 : Int) * ((bkN z + bkN z % 2 : Nat) : Int)) = ((2 * (bkN z + bkN z % 2) : Nat) : Int) from by rw [wiV _ (by omega)]; omega)), kr (ciV (show IntKind.i64.wrap (((2 * (bkN z + bkN z % 2) : Nat) : Int) + (4 : Int)) = ((2 * (bkN z + bkN z % 2) + 4 : Nat) : Int) from by rw [wiV _ (by omega)]; omega)), kr (cbV (dfV (show ¬ ((((z.drop 8).length : Nat) : Int) < ((2 * (bkN z + bkN z % 2) + 4 : Nat) : Int)) by omega))), trivial⟩) fun _ a u hE hS => iff hE <| wp_skip ?_
 refine wp_seq ?_
 refine rg hE hS [pu, pu] (fun _ => kn [(37, .int .i64 (bkN z : Nat)), (38, .int .i64 0)] [0, 4, 1, 5, 6]) (fun _ => kN [] [111, 95, 101, 1, 2, 93]) fun _ a u hE hS => ?_
 refine range_up hE hS 38 (bkN z) (fun _ _ => kd [38, 39, 69] []) (fun _ v => kP [(93, some (.blk (p14 6).g 120 #[.int .u32 (rd32 z 0), .int .u16 (rd16 (z.drop 4) 0), .slice v.p.a v.n v.p.c])), (95, some (.row w.heap.size 125 3 (.slice v.p.a v.n v.p.c) v.n v.xs))]) (fun j (v : Lx Unit) => v.n = j ∧ v.xs = (metsN z j).flatMap Met.cells ∧ ∀ i, i < j → rd16 (z.drop (8 + 2 * i)) 0 / 32768 ≠ 1 → rd16 (z.drop (8 + 2 * i)) 0 = 0) ⟨pay0, 0, [], ()⟩ (by omega) (⟨rfl, rfl, fun i hi => absurd hi (Nat.not_lt_zero i)⟩) (fun j v a u hjk hI hE hS K2 hK2 RK2 hRK2 => ?_) fun ⟨vq, vn, vs, _⟩ a u hI hE hS => ?_
 ·obtain ⟨hj1, hj2, hj3⟩ := hI
  obtain ⟨vp, vn, vs, _⟩ := v
  simp only at hj1 hj2 hj3
  have hv16 := rd16_lt ((hz1.drop 8).drop (2 * j)) 0
  refine rg hE hS [pu, pu] (fun _ => kp [(7, .int .i64 (j : Nat))]) kP0 fun _ a u hE hS => ?_
  refine rgp hE hS [pu, pu, pe (.int .i64 ((2 * j : Nat) : Int)), rsl 111 112, cl cU16 [112] [], pu] (fun _ => kp [(8, .int .u16 (rd16 ((z.drop 8).drop (2 * j)) 0))]) kP0 (fun _ => ⟨kr (ciV (show IntKind.i64.wrap ((2 : Int) * ((j : Nat) : Int)) = ((2 * j : Nat) : Int) from by rw [wiV _ (by omega)]; omega)), kr (show (2 * j) ≤ (z.drop 8).length ∧ (z.drop 8).length ≤ (z.drop 8).length ∧ (z.drop 8).length ≤ (c1 - 8) by omega), kr (show 2 ≤ ((z.drop 8).drop (2 * j)).length ∧ ((z.drop 8).drop (2 * j)).length ≤ ((c1 - 8) - (2 * j)) ∧ 0 < ((z.drop 8).drop (2 * j)).length by simp only [List.length_drop] at *; omega), trivial⟩) fun _ a u hE hS => ?_
  refine rgp hE hS [pu, pe (.int .u16 (rd16 ((z.drop 8).drop (2 * j)) 0 / 32768)), pu, pu, pe (.int .u16 (rd16 ((z.drop 8).drop (2 * j)) 0 / 8192)), pe (.int .u16 (rd16 ((z.drop 8).drop (2 * j)) 0 / 8192 % 4)), pe (.int .u8 (rd16 ((z.drop 8).drop (2 * j)) 0 / 8192 % 4)), pu, pe (.int .u16 (rd16 ((z.drop 8).drop (2 * j)) 0 % 8192)), pu, nw 96, st 96] (fun p23 => kp [(9, pt (p23 10).g 0)]) (fun p23 => kP [(96, some (.blk (p23 10).g 125 #[.bool (rd16 ((z.drop 8).drop (2 * j)) 0 / 32768 == 1), .int .u8 (rd16 ((z.drop 8).drop (2 * j)) 0 / 8192 % 4), .int .u16 (rd16 ((z.drop 8).drop (2 * j)) 0 % 8192)]))]) (fun _ => ⟨kr (shrv .u16 (rd16 ((z.drop 8).drop (2 * j)) 0) 32768 (by decide)), kr (shrv .u16 (rd16 ((z.drop 8).drop (2 * j)) 0) 8192 (by decide)), kr (congrArg (Value.int .u16) (and3h (rd16 ((z.drop 8).drop (2 * j)) 0 / 8192) (by omega) (by omega))), kr (c8 (rd16 ((z.drop 8).drop (2 * j)) 0 / 8192 % 4) (by omega) (by omega)), kr (congrArg (Value.int .u16) (and8191h (rd16 ((z.drop 8).drop (2 * j)) 0) (by omega) (by omega))), trivial⟩) fun p23 a u hE hS => ?_
  refine wp_seq ?_
  by_cases hV : rd16 ((z.drop 8).drop (2 * j)) 0 / 32768 = 1
  ·skip
   have hbb : (rd16 ((z.drop 8).drop (2 * j)) 0 / 32768 == 1) = true := beq_iff_eq.2 hV
   rw [hbb] at hS
   refine rg hE hS [pu, ld 96, pu, pu, sk, sk, pu] (fun _ => kp [(62, .bool false)]) kP0 fun _ a u hE hS => iff hE <| wp_skip ?_
   refine rgE hE hS [pu, ld 93, ld 96, nw 98, ap 95 [98], pu, st 93] kp0 (fun p25 => kP [(93, some (.blk (p14 6).g 120 #[.int .u32 (rd32 z 0), .int .u16 (rd16 (z.drop 4) 0), .slice (p25 4).a (vn + 1) (p25 4).c])), (95, some (.row w.heap.size 125 3 (.slice (p25 4).a (vn + 1) (p25 4).c) (vn + 1) (vs ++ ([.bool true, .int .u8 (rd16 ((z.drop 8).drop (2 * j)) 0 / 8192 % 4), .int .u16 (rd16 ((z.drop 8).drop (2 * j)) 0 % 8192)] : List Value))))]) (fun _ => ⟨kr (show w.heap.size ≤ w.heap.size ∧ (vn + 1) * 4 ≤ 140737488355328 ∧ ∀ u ∈ ([.bool true, .int .u8 (rd16 ((z.drop 8).drop (2 * j)) 0 / 8192 % 4), .int .u16 (rd16 ((z.drop 8).drop (2 * j)) 0 % 8192)] : List Value), u.oneCell' = true from ⟨Nat.le_refl _, by omega, by intro u hu; simp at hu; rcases hu with rfl | rfl | rfl <;> rfl⟩), trivial⟩) fun p25 a u hE hS => ?_
   have hdd : (z.drop 8).drop (2 * j) = z.drop (8 + 2 * j) := List.drop_drop
   exact hK2 ⟨(p25 4), vn + 1, vs ++ ([.bool true, .int .u8 (rd16 ((z.drop 8).drop (2 * j)) 0 / 8192 % 4), .int .u16 (rd16 ((z.drop 8).drop (2 * j)) 0 % 8192)] : List Value), ()⟩ a u _ _ ⟨congrArg (· + 1) hj1, by show vs ++ _ = _; rw [hj2, metsN_succ, List.flatMap_append]; unfold metB metV; rw [← hdd, hbb]; rfl, fun i hi => by
     by_cases e : i = j
     ·rw [e, ← hdd]; exact fun hne => absurd hV hne
     ·exact hj3 i (by omega)⟩ hE hS (by kernel_rfl)
  by_cases hV0 : rd16 ((z.drop 8).drop (2 * j)) 0 = 0
  rotate_left
  ·skip
   have hbb : (rd16 ((z.drop 8).drop (2 * j)) 0 / 32768 == 1) = false := beq_eq_false_iff_ne.2 hV
   rw [hbb] at hS
   refine rgp hE hS [pu, ld 96, pu, pu, pu, pe (.bool true), pu] (fun _ => kp [(62, .bool true)]) kP0 (fun _ => ⟨kr (cbV (bne_iff_ne.2 hV0)), trivial⟩) fun _ a u hE hS => ift hE ?_
   refine rg hE hS [pu] kp0 kP0 fun _ a u hE hS => ?_
   refine wp_ret (thR (bkR (thR (hRK2 _ _ _ (fun _ h => by cases h) (fun h => by cases h) (thR (bkR (thR (bkR (thR ?_)))))))))
   exact ret1 hE Tryz.results75 (.bool false) ⟨_, rfl, hS.grownBy (some g) (fun _ e => by rw [e]), (fun h => by cases h)⟩
  have hbb : (rd16 ((z.drop 8).drop (2 * j)) 0 / 32768 == 1) = false := beq_eq_false_iff_ne.2 hV
  rw [hbb] at hS
  refine rgp hE hS [pu, ld 96, pu, pu, pu, pe (.bool false), pu] (fun _ => kp [(62, .bool false)]) kP0 (fun _ => ⟨kr (cbV (show (rd16 ((z.drop 8).drop (2 * j)) 0 != 0) = false by rw [hV0]; rfl)), trivial⟩) fun _ a u hE hS => iff hE <| wp_skip ?_
  refine rgE hE hS [pu, ld 93, ld 96, nw 98, ap 95 [98], pu, st 93] kp0 (fun p29 => kP [(93, some (.blk (p14 6).g 120 #[.int .u32 (rd32 z 0), .int .u16 (rd16 (z.drop 4) 0), .slice (p29 4).a (vn + 1) (p29 4).c])), (95, some (.row w.heap.size 125 3 (.slice (p29 4).a (vn + 1) (p29 4).c) (vn + 1) (vs ++ ([.bool false, .int .u8 (rd16 ((z.drop 8).drop (2 * j)) 0 / 8192 % 4), .int .u16 (rd16 ((z.drop 8).drop (2 * j)) 0 % 8192)] : List Value))))]) (fun _ => ⟨kr (show w.heap.size ≤ w.heap.size ∧ (vn + 1) * 4 ≤ 140737488355328 ∧ ∀ u ∈ ([.bool false, .int .u8 (rd16 ((z.drop 8).drop (2 * j)) 0 / 8192 % 4), .int .u16 (rd16 ((z.drop 8).drop (2 * j)) 0 % 8192)] : List Value), u.oneCell' = true from ⟨Nat.le_refl _, by omega, by intro u hu; simp at hu; rcases hu with rfl | rfl | rfl <;> rfl⟩), trivial⟩) fun p29 a u hE hS => ?_
  have hdd : (z.drop 8).drop (2 * j) = z.drop (8 + 2 * j) := List.drop_drop
  exact hK2 ⟨(p29 4), vn + 1, vs ++ ([.bool false, .int .u8 (rd16 ((z.drop 8).drop (2 * j)) 0 / 8192 % 4), .int .u16 (rd16 ((z.drop 8).drop (2 * j)) 0 % 8192)] : List Value), ()⟩ a u _ _ ⟨congrArg (· + 1) hj1, by show vs ++ _ = _; rw [hj2, metsN_succ, List.flatMap_append]; unfold metB metV; rw [← hdd, hbb]; rfl, fun i hi => by
    by_cases e : i = j
    ·rw [e, ← hdd]; exact fun hne => hV0
    ·exact hj3 i (by omega)⟩ hE hS (by kernel_rfl)
 simp only at hI
 obtain ⟨hm1, hm2, hm3⟩ := hI
 refine wp_seq ?_
 by_cases hodd : bkN z % 2 = 1
 rotate_left
 ·skip
  refine rgp hE hS [pu, pe (.int .i64 (bkN z % 2 : Nat)), pe (.bool false), pu, sk, sk, sk, sk, sk, sk, pu] (fun _ => kp [(80, .bool false)]) kP0 (fun _ => ⟨kr (ciV (rem2 (bkN z))), kr (cbV (nbV (show ((bkN z % 2 : Nat) : Int) ≠ 1 by omega))), trivial⟩) fun _ a u hE hS => iff hE <| wp_skip ?_
  refine dgp hE hS [pu, pu, pu, pu, ld 101, ld 93, nw 99, ap 1 [99], pu, pu, st 101] kp0 (fun p31 => kP [(101, some (.blk g 38 ((cs8 s (.slice (p31 7).a (xn + 1) (p31 7).c) 0)))), (1, some (.row w.heap.size 120 3 (.slice (p31 7).a (xn + 1) (p31 7).c) (xn + 1) (xs ++ ([.int .u32 (rd32 z 0), .int .u16 (rd16 (z.drop 4) 0), .slice vq.a vn vq.c] : List Value))))]) (fun _ => ⟨kr (show w.heap.size ≤ w.heap.size ∧ (xn + 1) * 32 ≤ 140737488355328 ∧ ∀ u ∈ ([.int .u32 (rd32 z 0), .int .u16 (rd16 (z.drop 4) 0), .slice vq.a vn vq.c] : List Value), u.oneCell' = true from ⟨Nat.le_refl _, by omega, by intro u hu; simp at hu; rcases hu with rfl | rfl | rfl <;> rfl⟩), trivial⟩) fun p31 a u hE hS => ?_
  refine rgE hE hS [pu, pu, pu, pe (.int .i64 (bkN z % 2 : Nat)), pe (.int .i64 ((bkN z + bkN z % 2 : Nat) : Int)), pe (.int .i64 ((2 * (bkN z + bkN z % 2) : Nat) : Int)), rsl 111 111, pu] (fun p32 => kp [(1, sv (p32 6).g (p32 6).c ((z.drop 8).drop ((2 * (bkN z + bkN z % 2)))).length ((c1 - 8) - (2 * (bkN z + bkN z % 2))))]) (fun p32 => kP [(111, some (.ry (fun x => x < B) ((some ⟨(p32 6).g, (p32 6).c, none⟩)) ((z.drop 8).drop ((2 * (bkN z + bkN z % 2))))))]) (fun _ => ⟨kr (ciV (rem2 (bkN z))), kr (ciV (show IntKind.i64.wrap (((bkN z : Nat) : Int) + ((bkN z % 2 : Nat) : Int)) = ((bkN z + bkN z % 2 : Nat) : Int) from by rw [wiV _ (by omega)]; omega)), kr (ciV (show IntKind.i64.wrap ((2 : Int) * ((bkN z + bkN z % 2 : Nat) : Int)) = ((2 * (bkN z + bkN z % 2) : Nat) : Int) from by rw [wiV _ (by omega)]; omega)), kr (show (2 * (bkN z + bkN z % 2)) ≤ (z.drop 8).length ∧ (z.drop 8).length ≤ (z.drop 8).length ∧ (z.drop 8).length ≤ (c1 - 8) by omega), trivial⟩) fun p32 a u hE hS => ?_
  have hvn : vn = (metsN z (bkN z)).length := by rw [metsN_len]; exact hm1
  have hS := stp_metsS (B := w.heap.size) (l := l1) hS 2 95 (⟨rd32 z 0, rd16 (z.drop 4) 0, ⟨vq.a, vq.c, metsN z (bkN z)⟩⟩ : Blo) (by decide) (by kernel_rfl) (by show lookP _ 95 = some (.row w.heap.size 125 3 (.slice vq.a ((metsN z (bkN z)).length : Nat) vq.c) (metsN z (bkN z)).length ((metsN z (bkN z)).flatMap Met.cells)); rw [← hvn, ← hm2]; kernel_rfl)
  have hnx : bkOff y (k + 1) = bkOff y k + bkLen (y.drop (bkOff y k)) := rfl
  rw [← hk5] at hnx
  exact hK ⟨(p31 7), xn + 1, xs ++ ([.int .u32 (rd32 z 0), .int .u16 (rd16 (z.drop 4) 0), .slice vq.a vn vq.c] : List Value), l1 ++ [(⟨rd32 z 0, rd16 (z.drop 4) 0, ⟨vq.a, vq.c, metsN z (bkN z)⟩⟩ : Blo)], (p32 6), (z.drop 8).drop (2 * (bkN z + bkN z % 2)), c1 - 8 - (2 * (bkN z + bkN z % 2))⟩ a u _ _ (by omega) ⟨congrArg (· + 1) hk1, by show xs ++ _ = (l1 ++ _).flatMap _; rw [hk2, List.flatMap_append, hvn]; rfl, by show (l1 ++ [_]).map _ = _; rw [List.map_append, hk3, bksN_succ, ← hk5]; rfl, by show (l1 ++ [_]).length = _; simp [hk4], by show (z.drop 8).drop _ = _; rw [hnx, List.drop_drop, ← hblen, hk5, List.drop_drop], by show ((z.drop 8).drop (2 * (bkN z + bkN z % 2))).length ≤ c1 - 8 - (2 * (bkN z + bkN z % 2)); rw [List.length_drop]; omega, by omega, fun j2 hj2 => by
    by_cases e : j2 = k
    ·rw [e, ← hk5]; exact ⟨by omega, hm3⟩
    ·exact hk8 j2 (by omega)⟩ hE hS (by kernel_rfl)
 by_cases hO : rd16 ((z.drop 8).drop (2 * bkN z)) 0 = 0
 rotate_left
 ·skip
  refine rgp hE hS [pu, pe (.int .i64 (bkN z % 2 : Nat)), pe (.bool true), pu, pu, pu, pe (.int .i64 ((2 * bkN z : Nat) : Int)), rsl 111 112, cl cU16 [112] [], pe (.bool true), pu] (fun _ => kp [(80, .bool true)]) kP0 (fun _ => ⟨kr (ciV (rem2 (bkN z))), kr (cbV (ebV (show ((bkN z % 2 : Nat) : Int) = 1 by omega))), kr (ciV (show IntKind.i64.wrap ((2 : Int) * ((bkN z : Nat) : Int)) = ((2 * bkN z : Nat) : Int) from by rw [wiV _ (by omega)]; omega)), kr (show (2 * bkN z) ≤ (z.drop 8).length ∧ (z.drop 8).length ≤ (z.drop 8).length ∧ (z.drop 8).length ≤ (c1 - 8) by omega), kr (show 2 ≤ ((z.drop 8).drop (2 * bkN z)).length ∧ ((z.drop 8).drop (2 * bkN z)).length ≤ ((c1 - 8) - (2 * bkN z)) ∧ 0 < ((z.drop 8).drop (2 * bkN z)).length by simp only [List.length_drop] at *; omega), kr (cbV (bne_iff_ne.2 hO)), trivial⟩) fun _ a u hE hS => ift hE ?_
  refine rg hE hS [pu] kp0 kP0 fun _ a u hE hS => ?_
  refine wp_ret (thR (bkR (thR (bkR (thR ?_)))))
  exact ret1 hE Tryz.results75 (.bool false) ⟨_, rfl, hS.grownBy (some g) (fun _ e => by rw [e]), (fun h => by cases h)⟩
 refine rgp hE hS [pu, pe (.int .i64 (bkN z % 2 : Nat)), pe (.bool true), pu, pu, pu, pe (.int .i64 ((2 * bkN z : Nat) : Int)), rsl 111 112, cl cU16 [112] [], pe (.bool false), pu] (fun _ => kp [(80, .bool false)]) kP0 (fun _ => ⟨kr (ciV (rem2 (bkN z))), kr (cbV (ebV (show ((bkN z % 2 : Nat) : Int) = 1 by omega))), kr (ciV (show IntKind.i64.wrap ((2 : Int) * ((bkN z : Nat) : Int)) = ((2 * bkN z : Nat) : Int) from by rw [wiV _ (by omega)]; omega)), kr (show (2 * bkN z) ≤ (z.drop 8).length ∧ (z.drop 8).length ≤ (z.drop 8).length ∧ (z.drop 8).length ≤ (c1 - 8) by omega), kr (show 2 ≤ ((z.drop 8).drop (2 * bkN z)).length ∧ ((z.drop 8).drop (2 * bkN z)).length ≤ ((c1 - 8) - (2 * bkN z)) ∧ 0 < ((z.drop 8).drop (2 * bkN z)).length by simp only [List.length_drop] at *; omega), kr (cbV (show (rd16 ((z.drop 8).drop (2 * bkN z)) 0 != 0) = false by rw [hO]; rfl)), trivial⟩) fun _ a u hE hS => iff hE <| wp_skip ?_
 refine dgp hE hS [pu, pu, pu, pu, ld 101, ld 93, nw 99, ap 1 [99], pu, pu, st 101] kp0 (fun p36 => kP [(101, some (.blk g 38 ((cs8 s (.slice (p36 7).a (xn + 1) (p36 7).c) 0)))), (1, some (.row w.heap.size 120 3 (.slice (p36 7).a (xn + 1) (p36 7).c) (xn + 1) (xs ++ ([.int .u32 (rd32 z 0), .int .u16 (rd16 (z.drop 4) 0), .slice vq.a vn vq.c] : List Value))))]) (fun _ => ⟨kr (show w.heap.size ≤ w.heap.size ∧ (xn + 1) * 32 ≤ 140737488355328 ∧ ∀ u ∈ ([.int .u32 (rd32 z 0), .int .u16 (rd16 (z.drop 4) 0), .slice vq.a vn vq.c] : List Value), u.oneCell' = true from ⟨Nat.le_refl _, by omega, by intro u hu; simp at hu; rcases hu with rfl | rfl | rfl <;> rfl⟩), trivial⟩) fun p36 a u hE hS => ?_
 refine rgE hE hS [pu, pu, pu, pe (.int .i64 (bkN z % 2 : Nat)), pe (.int .i64 ((bkN z + bkN z % 2 : Nat) : Int)), pe (.int .i64 ((2 * (bkN z + bkN z % 2) : Nat) : Int)), rsl 111 111, pu] (fun p37 => kp [(1, sv (p37 6).g (p37 6).c ((z.drop 8).drop ((2 * (bkN z + bkN z % 2)))).length ((c1 - 8) - (2 * (bkN z + bkN z % 2))))]) (fun p37 => kP [(111, some (.ry (fun x => x < B) ((some ⟨(p37 6).g, (p37 6).c, none⟩)) ((z.drop 8).drop ((2 * (bkN z + bkN z % 2))))))]) (fun _ => ⟨kr (ciV (rem2 (bkN z))), kr (ciV (show IntKind.i64.wrap (((bkN z : Nat) : Int) + ((bkN z % 2 : Nat) : Int)) = ((bkN z + bkN z % 2 : Nat) : Int) from by rw [wiV _ (by omega)]; omega)), kr (ciV (show IntKind.i64.wrap ((2 : Int) * ((bkN z + bkN z % 2 : Nat) : Int)) = ((2 * (bkN z + bkN z % 2) : Nat) : Int) from by rw [wiV _ (by omega)]; omega)), kr (show (2 * (bkN z + bkN z % 2)) ≤ (z.drop 8).length ∧ (z.drop 8).length ≤ (z.drop 8).length ∧ (z.drop 8).length ≤ (c1 - 8) by omega), trivial⟩) fun p37 a u hE hS => ?_
 have hvn : vn = (metsN z (bkN z)).length := by rw [metsN_len]; exact hm1
 have hS := stp_metsS (B := w.heap.size) (l := l1) hS 2 95 (⟨rd32 z 0, rd16 (z.drop 4) 0, ⟨vq.a, vq.c, metsN z (bkN z)⟩⟩ : Blo) (by decide) (by kernel_rfl) (by show lookP _ 95 = some (.row w.heap.size 125 3 (.slice vq.a ((metsN z (bkN z)).length : Nat) vq.c) (metsN z (bkN z)).length ((metsN z (bkN z)).flatMap Met.cells)); rw [← hvn, ← hm2]; kernel_rfl)
 have hnx : bkOff y (k + 1) = bkOff y k + bkLen (y.drop (bkOff y k)) := rfl
 rw [← hk5] at hnx
 exact hK ⟨(p36 7), xn + 1, xs ++ ([.int .u32 (rd32 z 0), .int .u16 (rd16 (z.drop 4) 0), .slice vq.a vn vq.c] : List Value), l1 ++ [(⟨rd32 z 0, rd16 (z.drop 4) 0, ⟨vq.a, vq.c, metsN z (bkN z)⟩⟩ : Blo)], (p37 6), (z.drop 8).drop (2 * (bkN z + bkN z % 2)), c1 - 8 - (2 * (bkN z + bkN z % 2))⟩ a u _ _ (by omega) ⟨congrArg (· + 1) hk1, by show xs ++ _ = (l1 ++ _).flatMap _; rw [hk2, List.flatMap_append, hvn]; rfl, by show (l1 ++ [_]).map _ = _; rw [List.map_append, hk3, bksN_succ, ← hk5]; rfl, by show (l1 ++ [_]).length = _; simp [hk4], by show (z.drop 8).drop _ = _; rw [hnx, List.drop_drop, ← hblen, hk5, List.drop_drop], by show ((z.drop 8).drop (2 * (bkN z + bkN z % 2))).length ≤ c1 - 8 - (2 * (bkN z + bkN z % 2)); rw [List.length_drop]; omega, by omega, fun j2 hj2 => by
   by_cases e : j2 = k
   ·rw [e, ← hk5]; exact ⟨by omega, hm3⟩
   ·exact hk8 j2 (by omega)⟩ hE hS (by kernel_rfl)
end Go.Proofs.YtmmfpgoodfgkbaaGreatDoor
