/-
  THE WALKS of the package's parsing of the sources that a raw packet refers to. Condition: the bytes lie in memory; the header says the kind; the reference reads them.
-/
import Derived.Test.YtmmfpgoodfgkbaaGreatDoorUm2
import Derived.Test.YtmmfpgoodfgkbaaGreatDoorUm4
import Derived.Test.YtmmfpgoodfgkbaaGreatDoorUm12
import Derived.Test.YtmmfpgoodfgkbaaGreatDoorUm8
namespace Go.Proofs.YtmmfpgoodfgkbaaGreatDoor
open Go Go.RowKit
set_option maxHeartbeats 4000000
set_option maxRecDepth 100000
set_option linter.unusedVariables false
set_option linter.unusedSimpArgs false

def DstP (w : World) (ds : List Int) (e : Ending) (w' : World) : Prop :=
 ∃ (A : Option Addr) (n c : Nat), e = .returned (.tuple #[.slice A n c, .nilIface]) ∧ InRows w' w.heap.size w'.heap.size 1 A n (ds.flatMap u32c) ∧ Below w.heap.size w w'
theorem i64n (n : Nat) (h : n ≤ 1048576) : IntKind.i64.wrap ((n : Nat) : Int) = ((n : Nat) : Int) := wiV _ (by omega)
theorem par_5 (b o c : Nat) (z : List Int) (D : Nat → Prop) (w : World) {n L : Nat} (hd : Hd z false n 204 L) (hr : RowD w D (some ⟨b, o, none⟩) z) (hD : ∀ x, D x → x < w.heap.size) (hc : z.length ≤ c) (h12 : 12 ≤ z.length) :
  Calls Tryz.prog 83 #[.slice none 0 0, .agg #[.bool false, .int .u8 (n : Nat), .int .u8 204, .int .u16 (L : Nat)], .slice (some ⟨b, o, none⟩) z.length c] w (DstP w ([rd32 ((z.take 8).drop 4) 0])) := by
 refine go_in Tryz.func83 rfl Tryz.ntmps83 [.slice none 0 0, .agg #[.bool false, .int .u8 (n : Nat), .int .u8 204, .int .u16 (L : Nat)], sv b o z.length c] fun a hE => ?_
 have hS := stp_in w
 have hS := stp_ry1 hS 110 hr (fun x hx => ⟨hD x hx, id⟩) hd.byts
 have hS := stp_row0 hS 1 w.heap.size 22 1
 have h4 := hd.len
 have hL : L ≤ 65535 := by have h1 := hd.ln; have h2 := rd16_lt hd.byts 2; omega
 refine rg hE hS [nw 100, pu, pu] (fun p1 => kp [(4, pt (p1 0).g 0), (6, .slice none 0 0), (7, .nilIface)]) (fun p1 => kP [(100, some (.blk (p1 0).g 83 #[.bool false, .int .u8 (n : Nat), .int .u8 204, .int .u16 (L : Nat)]))]) fun p1 a u hE hS => ?_
 refine wp_seq ?_
 refine rg hE hS [pu, ld 100, pu] (fun _ => kp [(10, .bool false)]) kP0 fun _ a u hE hS => iff hE <| wp_skip ?_
 refine wp_seq ?_
 refine rgp hE hS [pu, pu, pe (.bool false)] (fun _ => kp [(15, .bool false)]) kP0 (fun _ => ⟨kr (cbV (dfV (show ¬ (((z.length : Nat) : Int) < 12) by omega))), trivial⟩) fun _ a u hE hS => iff hE <| wp_skip ?_
 refine rgp hE hS [pu, pu, rsl 110 112, cl cB32 [112] [], nw 92, ap 1 [92], pu, pu] (fun p4 => kp [(6, .slice (p4 5).a (0 + 1) (p4 5).c)]) (fun p4 => kP [(1, some (.row w.heap.size 22 1 (.slice (p4 5).a (0 + 1) (p4 5).c) (0 + 1) ([] ++ u32c ((rd32 ((z.take 8).drop 4) 0)))))]) (fun _ => ⟨kr (show 4 ≤ 8 ∧ 8 ≤ z.length ∧ z.length ≤ c by omega), kr (show 4 ≤ ((z.take 8).drop 4).length ∧ ((z.take 8).drop 4).length ≤ (c - 4) ∧ 0 < ((z.take 8).drop 4).length by exact cut_need z 4 4 8 c (by omega) hc (by omega) (by decide)), kr (show w.heap.size ≤ w.heap.size ∧ (0 + 1) * 4 ≤ 140737488355328 ∧ ∀ u ∈ u32c ((rd32 ((z.take 8).drop 4) 0)), u.oneCell' = true from ⟨Nat.le_refl _, by omega, by intro u hu; simp [u32c] at hu; rw [hu]; rfl⟩), trivial⟩) fun p4 a u hE hS => ?_
 refine wp_ret ?_
 have hrow := InRows.of_own (pcR (base := w.heap.size) (e := 22) (size := 1) (v := .slice (p4 5).a (0 + 1) (p4 5).c) (n := 0 + 1) (xs := [] ++ u32c ((rd32 ((z.take 8).drop 4) 0))) hS 1)
 exact ret2 hE Tryz.results83 (.slice (p4 5).a (0 + 1) (p4 5).c) .nilIface ⟨_, _, _, rfl, hrow, hS.below⟩

theorem par_med (b o c : Nat) (z : List Int) (D : Nat → Prop) (w : World) {n L : Nat} {t : Int} (hd : Hd z false n t L) (hr : RowD w D (some ⟨b, o, none⟩) z) (hD : ∀ x, D x → x < w.heap.size) (hc : z.length ≤ c) (h12 : 12 ≤ z.length) :
  Calls Tryz.prog 85 #[.slice none 0 0, .agg #[.bool false, .int .u8 (n : Nat), .int .u8 t, .int .u16 (L : Nat)], .slice (some ⟨b, o, none⟩) z.length c] w (DstP w ([rd32 (z.drop 8) 0])) := by
 refine go_in Tryz.func85 rfl Tryz.ntmps85 [.slice none 0 0, .agg #[.bool false, .int .u8 (n : Nat), .int .u8 t, .int .u16 (L : Nat)], sv b o z.length c] fun a hE => ?_
 have hS := stp_in w
 have hS := stp_ry1 hS 110 hr (fun x hx => ⟨hD x hx, id⟩) hd.byts
 have hS := stp_row0 hS 1 w.heap.size 22 1
 have h4 := hd.len
 have hL : L ≤ 65535 := by have h1 := hd.ln; have h2 := rd16_lt hd.byts 2; omega
 refine rg hE hS [nw 100, pu, pu] (fun _ => kp [(6, .slice none 0 0), (7, .nilIface)]) (fun p1 => kP [(100, some (.blk (p1 0).g 83 #[.bool false, .int .u8 (n : Nat), .int .u8 t, .int .u16 (L : Nat)]))]) fun p1 a u hE hS => ?_
 refine wp_seq ?_
 refine rgp hE hS [pu, pu, pe (.bool false)] (fun _ => kp [(10, .bool false)]) kP0 (fun _ => ⟨kr (cbV (dfV (show ¬ (((z.length : Nat) : Int) < 12) by omega))), trivial⟩) fun _ a u hE hS => iff hE <| wp_skip ?_
 refine rgp hE hS [pu, pu, rsl 110 112, cl cB32 [112] [], nw 92, ap 1 [92], pu, pu] (fun p3 => kp [(6, .slice (p3 5).a (0 + 1) (p3 5).c)]) (fun p3 => kP [(1, some (.row w.heap.size 22 1 (.slice (p3 5).a (0 + 1) (p3 5).c) (0 + 1) ([] ++ u32c ((rd32 (z.drop 8) 0)))))]) (fun _ => ⟨kr (show 8 ≤ z.length ∧ z.length ≤ z.length ∧ z.length ≤ c by omega), kr (show 4 ≤ (z.drop 8).length ∧ (z.drop 8).length ≤ (c - 8) ∧ 0 < (z.drop 8).length by simp only [List.length_drop]; omega), kr (show w.heap.size ≤ w.heap.size ∧ (0 + 1) * 4 ≤ 140737488355328 ∧ ∀ u ∈ u32c ((rd32 (z.drop 8) 0)), u.oneCell' = true from ⟨Nat.le_refl _, by omega, by intro u hu; simp [u32c] at hu; rw [hu]; rfl⟩), trivial⟩) fun p3 a u hE hS => ?_
 refine wp_ret ?_
 have hrow := InRows.of_own (pcR (base := w.heap.size) (e := 22) (size := 1) (v := .slice (p3 5).a (0 + 1) (p3 5).c) (n := 0 + 1) (xs := [] ++ u32c ((rd32 (z.drop 8) 0))) hS 1)
 exact ret2 hE Tryz.results85 (.slice (p3 5).a (0 + 1) (p3 5).c) .nilIface ⟨_, _, _, rfl, hrow, hS.below⟩

theorem par_4 (b o c : Nat) (z : List Int) (D : Nat → Prop) (w : World) {n L : Nat} (hd : Hd z false n 203 L) (hr : RowD w D (some ⟨b, o, none⟩) z) (hD : ∀ x, D x → x < w.heap.size) (hc : z.length ≤ c) (h4n : 4 + n * 4 ≤ z.length) (hl : z.length ≤ 1048576) :
  Calls Tryz.prog 82 #[.slice none 0 0, .agg #[.bool false, .int .u8 (n : Nat), .int .u8 203, .int .u16 (L : Nat)], .slice (some ⟨b, o, none⟩) z.length c] w (DstP w (parts4 srcB 4 n (z.drop 4))) := by
 refine go_in Tryz.func82 rfl Tryz.ntmps82 [.slice none 0 0, .agg #[.bool false, .int .u8 (n : Nat), .int .u8 203, .int .u16 (L : Nat)], sv b o z.length c] fun a hE => ?_
 have hS := stp_in w
 have hS := stp_ry1 hS 110 hr (fun x hx => ⟨hD x hx, id⟩) hd.byts
 have hS := stp_row0 hS 1 w.heap.size 22 1
 have h4 := hd.len
 have hL : L ≤ 65535 := by have h1 := hd.ln; have h2 := rd16_lt hd.byts 2; omega
 have hn31 := hd.cnt31
 refine rg hE hS [nw 100, pu, pu] (fun p1 => kp [(4, pt (p1 0).g 0), (6, .slice none 0 0), (7, .nilIface)]) (fun p1 => kP [(100, some (.blk (p1 0).g 83 #[.bool false, .int .u8 (n : Nat), .int .u8 203, .int .u16 (L : Nat)]))]) fun p1 a u hE hS => ?_
 refine wp_seq ?_
 refine rg hE hS [pu, ld 100, pu] (fun _ => kp [(13, .bool false)]) kP0 fun _ a u hE hS => iff hE <| wp_skip ?_
 refine rgp hE hS [pu, ld 100, pe (.int .u8 ((n * 4 : Nat) : Int)), pe (.int .u8 ((4 + n * 4 : Nat) : Int)), pe (.int .i64 ((4 + n * 4 : Nat) : Int)), pu] (fun _ => kp [(8, .int .i64 ((4 + n * 4 : Nat) : Int))]) kP0 (fun _ => ⟨kr (congrArg (Value.int .u8) (show IntKind.u8.wrap (((n : Nat) : Int) * 4) = ((n * 4 : Nat) : Int) by rw [IntKind.wrap_u8]; omega)), kr (congrArg (Value.int .u8) (show IntKind.u8.wrap (4 + ((n * 4 : Nat) : Int)) = ((4 + n * 4 : Nat) : Int) by rw [IntKind.wrap_u8]; omega)), kr (ciV (i64n (4 + n * 4) (by omega))), trivial⟩) fun _ a u hE hS => ?_
 refine wp_seq ?_
 refine rgp hE hS [pu, pu, pu, pe (.bool false)] (fun _ => kp [(24, .bool false)]) kP0 (fun _ => ⟨kr (cbV (dfV (show ¬ (((4 + n * 4 : Nat) : Int) > ((z.length : Nat) : Int)) by omega))), trivial⟩) fun _ a u hE hS => iff hE <| wp_skip ?_
 refine wp_seq ?_
 refine rg hE hS [pu] (fun _ => kn [(9, .int .i64 ((0 : Nat) : Int))] [0, 2, 4, 6, 7]) (fun _ => kN [] [1, 110, 100]) fun _ a u hE hS => wp_block ?_
 refine loop_k hE hS n (fun k x => kd [0, 9] [(0, .slice x.p.a x.n x.p.c), (9, .int .i64 (k : Nat))]) (fun k x => kN [(1, some (.row w.heap.size 22 1 (.slice x.p.a x.n x.p.c) x.n x.xs))] [110, 100]) (fun k (x : Lx Unit) => x.n = k ∧ x.xs = (parts4 srcB 4 k (z.drop 4)).flatMap u32c) ⟨pay0, 0, [], ()⟩ (⟨rfl, rfl⟩) ?_
 intro k x a u hkk hI hE hS K hK
 obtain ⟨hk1, hk2⟩ := hI
 obtain ⟨xp, xn, xs, _⟩ := x
 simp only at hk1 hk2
 by_cases hlt : k < n
 ·skip
  refine wp_seq ?_
  refine rgp hE hS [pu, pu, ld 100, pe (.int .i64 (n : Nat)), pe (.bool true)] (fun _ => kp [(31, .bool true)]) kP0 (fun _ => ⟨kr (ciV (i64n n (by omega))), kr (cbV (dtV (show ((k : Nat) : Int) < ((n : Nat) : Int) by omega))), trivial⟩) fun _ a u hE hS => ift hE <| wp_skip ?_
  refine wp_seq ?_
  refine wp_block ?_
  refine rgp hE hS [pu, pe (.int .i64 ((k * 4 : Nat) : Int)), pe (.int .i64 ((4 + k * 4 : Nat) : Int)), pu] (fun _ => kp [(10, .int .i64 (4 + k * 4 : Nat))]) kP0 (fun _ => ⟨kr (ciV (show IntKind.i64.wrap (((k : Nat) : Int) * (4 : Int)) = ((k * 4 : Nat) : Int) from by rw [wiV _ (by omega)]; omega)), kr (ciV (show IntKind.i64.wrap ((4 : Int) + ((k * 4 : Nat) : Int)) = ((4 + k * 4 : Nat) : Int) from by rw [wiV _ (by omega)]; omega)), trivial⟩) fun _ a u hE hS => ?_
  refine rgE hE hS [pu, pu, pu, rsl 110 112, cl cB32 [112] [], nw 92, ap 1 [92], pu] (fun p8 => kp [(0, .slice (p8 6).a (xn + 1) (p8 6).c)]) (fun p8 => kP [(1, some (.row w.heap.size 22 1 (.slice (p8 6).a (xn + 1) (p8 6).c) (xn + 1) (xs ++ u32c ((rd32 (z.drop (4 + k * 4)) 0)))))]) (fun _ => ⟨kr (show (4 + k * 4) ≤ z.length ∧ z.length ≤ z.length ∧ z.length ≤ c by omega), kr (show 4 ≤ (z.drop (4 + k * 4)).length ∧ (z.drop (4 + k * 4)).length ≤ (c - (4 + k * 4)) ∧ 0 < (z.drop (4 + k * 4)).length by simp only [List.length_drop]; omega), kr (show w.heap.size ≤ w.heap.size ∧ (xn + 1) * 4 ≤ 140737488355328 ∧ ∀ u ∈ u32c ((rd32 (z.drop (4 + k * 4)) 0)), u.oneCell' = true from ⟨Nat.le_refl _, by omega, by intro u hu; simp [u32c] at hu; rw [hu]; rfl⟩), trivial⟩) fun p8 a u hE hS => ?_
  refine rgE hE hS [pu, pe (.int .i64 ((k + 1 : Nat) : Int)), pu] (fun _ => kp [(9, .int .i64 (k + 1 : Nat))]) kP0 (fun _ => ⟨kr (ciV (show IntKind.i64.wrap (((k : Nat) : Int) + (1 : Int)) = ((k + 1 : Nat) : Int) from by rw [wiV _ (by omega)]; omega)), trivial⟩) fun _ a u hE hS => ?_
  have hst : parts4 srcB 4 (k + 1) (z.drop 4) = parts4 srcB 4 k (z.drop 4) ++ [(rd32 (z.drop (4 + k * 4)) 0)] := by rw [parts4_succ]; unfold srcB; rw [List.drop_drop, show 4 + 4 * k = 4 + k * 4 by omega]
  exact hK ⟨(p8 6), xn + 1, xs ++ u32c ((rd32 (z.drop (4 + k * 4)) 0)), ()⟩ a u _ _ hlt ⟨congrArg (· + 1) hk1, by show xs ++ _ = _; rw [hk2, hst, List.flatMap_append]; simp⟩ hE hS (by kernel_rfl)
 ·have hNk : n = k := by omega
  refine wp_seq ?_
  refine rgp hE hS [pu, pu, ld 100, pe (.int .i64 (n : Nat)), pe (.bool false)] (fun _ => kp [(31, .bool false)]) kP0 (fun _ => ⟨kr (ciV (i64n n (by omega))), kr (cbV (dfV (show ¬ (((k : Nat) : Int) < ((n : Nat) : Int)) by omega))), trivial⟩) fun _ a u hE hS => iff hE ?_
  refine wp_exit ?_
  refine rg hE hS [pu, pu, pu] (fun _ => kp [(6, .slice xp.a xn xp.c)]) kP0 fun _ a u hE hS => ?_
  refine wp_ret ?_
  have hrow := InRows.of_own (pcR (base := w.heap.size) (e := 22) (size := 1) (v := .slice xp.a xn xp.c) (n := xn) (xs := xs) hS 1)
  rw [hk2, ← hNk] at hrow
  exact ret2 hE Tryz.results82 (.slice xp.a xn xp.c) .nilIface ⟨_, _, _, rfl, hrow, hS.below⟩

theorem par_11 (b o c : Nat) (z : List Int) (D : Nat → Prop) (w : World) {L : Nat} (hd : Hd z false 4 206 L) (hr : RowD w D (some ⟨b, o, none⟩) z) (hD : ∀ x, D x → x < w.heap.size) (hc : z.length ≤ c) (hzl : z.length = 4 * (L + 1)) (m : Nat) (hm : 4 * L = 8 + 8 * m) (hm0 : 0 < m) :
  Calls Tryz.prog 88 #[.slice none 0 0, .agg #[.bool false, .int .u8 4, .int .u8 206, .int .u16 (L : Nat)], .slice (some ⟨b, o, none⟩) z.length c] w (DstP w ((parts4 entB 8 m ((z.drop 4).drop 8)).map Ent.ssrc)) := by
 refine go_in Tryz.func88 rfl Tryz.ntmps88 [.slice none 0 0, .agg #[.bool false, .int .u8 4, .int .u8 206, .int .u16 (L : Nat)], sv b o z.length c] fun a hE => ?_
 have hS := stp_in w
 have hS := stp_ry1 hS 110 hr (fun x hx => ⟨hD x hx, id⟩) hd.byts
 have hS := stp_row0 hS 1 w.heap.size 22 1
 have h4 := hd.len
 have hL : L ≤ 65535 := by have h1 := hd.ln; have h2 := rd16_lt hd.byts 2; omega
 refine rg hE hS [nw 100, pu, pu] (fun p1 => kp [(4, pt (p1 0).g 0), (6, .slice none 0 0), (7, .nilIface)]) (fun p1 => kP [(100, some (.blk (p1 0).g 83 #[.bool false, .int .u8 4, .int .u8 206, .int .u16 (L : Nat)]))]) fun p1 a u hE hS => ?_
 refine wp_seq ?_
 refine rg hE hS [pu, ld 100, pu, pu, pu, ld 100, pu, pu] (fun _ => kp [(17, .bool false)]) kP0 fun _ a u hE hS => iff hE <| wp_skip ?_
 refine wp_seq ?_
 refine rgp hE hS [pu, ld 100, pe (.int .i64 (L : Nat)), pe (.int .i64 ((4 * L : Nat) : Int)), pe (.int .i64 ((8 * m : Nat) : Int)), pe (.bool false), pu, pu, ld 100, pe (.int .i64 (L : Nat)), pe (.int .i64 ((4 * L : Nat) : Int)), pe (.int .i64 0), pu, pu] (fun _ => kp [(33, .bool false)]) kP0 (fun _ => ⟨kr (ciV (i64n L (by omega))), kr (ciV (show IntKind.i64.wrap ((4 : Int) * ((L : Nat) : Int)) = ((4 * L : Nat) : Int) from by rw [wiV _ (by omega)]; omega)), kr (ciV (show IntKind.i64.wrap (((4 * L : Nat) : Int) - 8) = ((8 * m : Nat) : Int) from (wiV _ (by omega)).trans (by omega))), kr (cbV (dfV (show ¬ (((8 * m : Nat) : Int) ≤ 0) by omega))), kr (ciV (i64n L (by omega))), kr (ciV (show IntKind.i64.wrap ((4 : Int) * ((L : Nat) : Int)) = ((4 * L : Nat) : Int) from by rw [wiV _ (by omega)]; omega)), kr (ciV (show (((4 * L : Nat) : Int)).tmod 8 = 0 by rw [Int.tmod_eq_emod_of_nonneg (by omega)]; omega)), trivial⟩) fun _ a u hE hS => iff hE <| wp_skip ?_
 refine wp_seq ?_
 refine rg hE hS [pu] (fun _ => kn [(8, .int .i64 ((12 + 8 * 0 : Nat) : Int))] [0, 2, 4, 6, 7]) (fun _ => kN [] [1, 110, 100]) fun _ a u hE hS => wp_block ?_
 refine loop_k hE hS m (fun k x => kd [0, 8] [(0, .slice x.p.a x.n x.p.c), (8, .int .i64 ((12 + 8 * k : Nat) : Int))]) (fun k x => kN [(1, some (.row w.heap.size 22 1 (.slice x.p.a x.n x.p.c) x.n x.xs))] [110, 100]) (fun k (x : Lx Unit) => x.n = k ∧ x.xs = ((parts4 entB 8 k ((z.drop 4).drop 8)).map Ent.ssrc).flatMap u32c) ⟨pay0, 0, [], ()⟩ (⟨rfl, rfl⟩) ?_
 intro k x a u hkk hI hE hS K hK
 obtain ⟨hk1, hk2⟩ := hI
 obtain ⟨xp, xn, xs, _⟩ := x
 simp only at hk1 hk2
 by_cases hlt : k < m
 ·skip
  refine wp_seq ?_
  refine rgp hE hS [pu, pu, ld 100, pe (.int .i64 (L : Nat)), pe (.int .i64 ((4 * L : Nat) : Int)), pe (.int .i64 ((4 + 4 * L : Nat) : Int)), pe (.bool true)] (fun _ => kp [(42, .bool true)]) kP0 (fun _ => ⟨kr (ciV (i64n L (by omega))), kr (ciV (show IntKind.i64.wrap ((4 : Int) * ((L : Nat) : Int)) = ((4 * L : Nat) : Int) from by rw [wiV _ (by omega)]; omega)), kr (ciV (show IntKind.i64.wrap ((4 : Int) + ((4 * L : Nat) : Int)) = ((4 + 4 * L : Nat) : Int) from by rw [wiV _ (by omega)]; omega)), kr (cbV (dtV (show ((12 + 8 * k : Nat) : Int) < ((4 + 4 * L : Nat) : Int) by omega))), trivial⟩) fun _ a u hE hS => ift hE <| wp_skip ?_
  refine wp_seq ?_
  refine wp_block ?_
  refine rgp hE hS [pu, pu, pu, pe (.int .i64 ((12 + 8 * k + 8 : Nat) : Int)), rsl 110 112, pu] (fun p6 => kp [(9, sv (p6 4).g (p6 4).c ((z.take (12 + 8 * k + 8)).drop (12 + 8 * k)).length (c - (12 + 8 * k)))]) (fun p6 => kP [(112, some (.ry D ((some ⟨(p6 4).g, (p6 4).c, none⟩)) ((z.take (12 + 8 * k + 8)).drop (12 + 8 * k))))]) (fun _ => ⟨kr (ciV (show IntKind.i64.wrap (((12 + 8 * k : Nat) : Int) + (8 : Int)) = ((12 + 8 * k + 8 : Nat) : Int) from by rw [wiV _ (by omega)]; omega)), kr (show (12 + 8 * k) ≤ (12 + 8 * k + 8) ∧ (12 + 8 * k + 8) ≤ z.length ∧ z.length ≤ c by omega), trivial⟩) fun p6 a u hE hS => ?_
  refine rgE hE hS [pu, pu, cl cB32 [112] [], nw 92, ap 1 [92], pu] (fun p7 => kp [(0, .slice (p7 4).a (xn + 1) (p7 4).c)]) (fun p7 => kP [(1, some (.row w.heap.size 22 1 (.slice (p7 4).a (xn + 1) (p7 4).c) (xn + 1) (xs ++ u32c ((rd32 ((z.take (12 + 8 * k + 8)).drop (12 + 8 * k)) 0)))))]) (fun _ => ⟨kr (show 4 ≤ ((z.take (12 + 8 * k + 8)).drop (12 + 8 * k)).length ∧ ((z.take (12 + 8 * k + 8)).drop (12 + 8 * k)).length ≤ (c - (12 + 8 * k)) ∧ 0 < ((z.take (12 + 8 * k + 8)).drop (12 + 8 * k)).length by simp only [List.length_drop, List.length_take]; omega), kr (show w.heap.size ≤ w.heap.size ∧ (xn + 1) * 4 ≤ 140737488355328 ∧ ∀ u ∈ u32c ((rd32 ((z.take (12 + 8 * k + 8)).drop (12 + 8 * k)) 0)), u.oneCell' = true from ⟨Nat.le_refl _, by omega, by intro u hu; simp [u32c] at hu; rw [hu]; rfl⟩), trivial⟩) fun p7 a u hE hS => ?_
  refine rgE hE hS [pu, pe (.int .i64 ((12 + 8 * (k + 1) : Nat) : Int)), pu] (fun _ => kp [(8, .int .i64 (12 + 8 * (k + 1) : Nat))]) kP0 (fun _ => ⟨kr (ciV (show IntKind.i64.wrap (((12 + 8 * k : Nat) : Int) + (8 : Int)) = ((12 + 8 * (k + 1) : Nat) : Int) from by rw [wiV _ (by omega)]; omega)), trivial⟩) fun _ a u hE hS => ?_
  have hst : (parts4 entB 8 (k + 1) ((z.drop 4).drop 8)).map Ent.ssrc = (parts4 entB 8 k ((z.drop 4).drop 8)).map Ent.ssrc ++ [(rd32 ((z.take (12 + 8 * k + 8)).drop (12 + 8 * k)) 0)] := by rw [parts4_succ, List.map_append, rd32_cut z (12 + 8 * k) (12 + 8 * k + 8) (by omega), List.drop_drop]; show _ ++ [(entB ((z.drop (4 + 8)).drop (8 * k))).ssrc] = _; rw [List.drop_drop]; rfl
  exact hK ⟨(p7 4), xn + 1, xs ++ u32c ((rd32 ((z.take (12 + 8 * k + 8)).drop (12 + 8 * k)) 0)), ()⟩ a u _ _ hlt ⟨congrArg (· + 1) hk1, by show xs ++ _ = _; rw [hk2, hst, List.flatMap_append]; simp⟩ hE hS (by kernel_rfl)
 ·have hNk : m = k := by omega
  refine wp_seq ?_
  refine rgp hE hS [pu, pu, ld 100, pe (.int .i64 (L : Nat)), pe (.int .i64 ((4 * L : Nat) : Int)), pe (.int .i64 ((4 + 4 * L : Nat) : Int)), pe (.bool false)] (fun _ => kp [(42, .bool false)]) kP0 (fun _ => ⟨kr (ciV (i64n L (by omega))), kr (ciV (show IntKind.i64.wrap ((4 : Int) * ((L : Nat) : Int)) = ((4 * L : Nat) : Int) from by rw [wiV _ (by omega)]; omega)), kr (ciV (show IntKind.i64.wrap ((4 : Int) + ((4 * L : Nat) : Int)) = ((4 + 4 * L : Nat) : Int) from by rw [wiV _ (by omega)]; omega)), kr (cbV (dfV (show ¬ (((12 + 8 * k : Nat) : Int) < ((4 + 4 * L : Nat) : Int)) by omega))), trivial⟩) fun _ a u hE hS => iff hE ?_
  refine wp_exit ?_
  refine rg hE hS [pu, pu, pu] (fun _ => kp [(6, .slice xp.a xn xp.c)]) kP0 fun _ a u hE hS => ?_
  refine wp_ret ?_
  have hrow := InRows.of_own (pcR (base := w.heap.size) (e := 22) (size := 1) (v := .slice xp.a xn xp.c) (n := xn) (xs := xs) hS 1)
  rw [hk2, ← hNk] at hrow
  exact ret2 hE Tryz.results88 (.slice xp.a xn xp.c) .nilIface ⟨_, _, _, rfl, hrow, hS.below⟩

theorem par_12 (b o c : Nat) (z : List Int) (D : Nat → Prop) (w : World) {L : Nat} (hd : Hd z false 15 206 L) (hr : RowD w D (some ⟨b, o, none⟩) z) (hD : ∀ x, D x → x < w.heap.size) (hc : z.length ≤ c) (hl : z.length ≤ 1048576) (n : Nat) (hrm : (strB (((z.drop 4).drop 8).take 4)).toList = (⟨#[82, 69, 77, 66]⟩ : ByteArray).toList) (hlen : ((z.drop 4).drop 8).length = 8 + 4 * n) (hn : gi ((z.drop 4).drop 8) 4 = (n : Int)) :
  Calls Tryz.prog 89 #[.slice none 0 0, .agg #[.bool false, .int .u8 15, .int .u8 206, .int .u16 (L : Nat)], .slice (some ⟨b, o, none⟩) z.length c] w (DstP w (parts4 srcB 4 n (((z.drop 4).drop 8).drop 8))) := by
 refine go_in Tryz.func89 rfl Tryz.ntmps89 [.slice none 0 0, .agg #[.bool false, .int .u8 15, .int .u8 206, .int .u16 (L : Nat)], sv b o z.length c] fun a hE => ?_
 have hS := stp_in w
 have hS := stp_ry1 hS 110 hr (fun x hx => ⟨hD x hx, id⟩) hd.byts
 have hS := stp_row0 hS 1 w.heap.size 22 1
 have h4 := hd.len
 have hL : L ≤ 65535 := by have h1 := hd.ln; have h2 := rd16_lt hd.byts 2; omega
 have hg16 : gi z 16 = (n : Int) := by rw [← hn, List.drop_drop, gi_drop]
 have hlz : z.length = 20 + 4 * n := by rw [List.drop_drop, List.length_drop] at hlen; omega
 have hb16 := hd.byts.gi 16
 have hrm16 : (strB ((z.take 16).drop 12)).toList = (strB [82, 69, 77, 66]).toList := by
  have e : ((z.drop 4).drop 8).take 4 = (z.take 16).drop 12 := by rw [List.drop_drop, List.take_drop]
  rw [e] at hrm
  rw [hrm, remb_str]
 refine rg hE hS [nw 100, pu, pu] (fun p1 => kp [(4, pt (p1 0).g 0), (6, .slice none 0 0), (7, .nilIface)]) (fun p1 => kP [(100, some (.blk (p1 0).g 83 #[.bool false, .int .u8 15, .int .u8 206, .int .u16 (L : Nat)]))]) fun p1 a u hE hS => ?_
 refine wp_seq ?_
 refine rg hE hS [pu, ld 100, pu, pu, pu, ld 100, pu, pu] (fun _ => kp [(17, .bool false)]) kP0 fun _ a u hE hS => iff hE <| wp_skip ?_
 refine wp_seq ?_
 refine rgp hE hS [pu, pu, pe (.bool false)] (fun _ => kp [(22, .bool false)]) kP0 (fun _ => ⟨kr (cbV (dfV (show ¬ (((z.length : Nat) : Int) < 20) by omega))), trivial⟩) fun _ a u hE hS => iff hE <| wp_skip ?_
 refine wp_seq ?_
 refine rgp hE hS [pu, rsl 110 111, nw 92, cu 111 [111, 92] [] (fun _ => .bool true) (fun _ => []), pu] (fun _ => kp [(29, .bool false)]) kP0 (fun p4 => ⟨kr (show 12 ≤ 16 ∧ 16 ≤ z.length ∧ z.length ≤ c by omega), kr (cu_beq (olds := fun _ => False) (w0 := w) (D := D) (A := some ⟨(p4 1).g, (p4 1).c, none⟩) (l := (z.take 16).drop 12) (g := (p4 2).g) 111 92 (c - 12) _ rfl hrm16), trivial⟩) fun _ a u hE hS => iff hE <| wp_skip ?_
 refine rgp hE hS [pu, ix, rb 110 16, pe (.int .i64 (n : Nat)), pu] (fun _ => kp [(8, .int .i64 (n : Nat))]) kP0 (fun _ => ⟨kr (show 16 < z.length by omega), kr (show 16 < (z).length by omega), kr (ciV (show IntKind.i64.wrap (gi z 16) = ((n : Nat) : Int) from (wiV _ (by omega)).trans (by omega))), trivial⟩) fun _ a u hE hS => ?_
 refine wp_seq ?_
 refine rgp hE hS [pu, pu, pu, pe (.int .i64 ((4 * n : Nat) : Int)), pe (.int .i64 ((20 + 4 * n : Nat) : Int)), pe (.bool false)] (fun _ => kp [(41, .bool false)]) kP0 (fun _ => ⟨kr (ciV (show IntKind.i64.wrap ((4 : Int) * ((n : Nat) : Int)) = ((4 * n : Nat) : Int) from by rw [wiV _ (by omega)]; omega)), kr (ciV (show IntKind.i64.wrap ((20 : Int) + ((4 * n : Nat) : Int)) = ((20 + 4 * n : Nat) : Int) from by rw [wiV _ (by omega)]; omega)), kr (cbV (show (((z.length : Nat) : Int) != ((20 + 4 * n : Nat) : Int)) = false by rw [hlz]; simp)), trivial⟩) fun _ a u hE hS => iff hE <| wp_skip ?_
 refine wp_seq ?_
 refine rg hE hS [pu] (fun _ => kn [(9, .int .i64 ((20 + 4 * 0 : Nat) : Int))] [0, 2, 6, 7]) (fun _ => kN [] [1, 110, 100]) fun _ a u hE hS => wp_block ?_
 refine loop_k hE hS n (fun k x => kd [0, 9] [(0, .slice x.p.a x.n x.p.c), (9, .int .i64 ((20 + 4 * k : Nat) : Int))]) (fun k x => kN [(1, some (.row w.heap.size 22 1 (.slice x.p.a x.n x.p.c) x.n x.xs))] [110, 100]) (fun k (x : Lx Unit) => x.n = k ∧ x.xs = (parts4 srcB 4 k (((z.drop 4).drop 8).drop 8)).flatMap u32c) ⟨pay0, 0, [], ()⟩ (⟨rfl, rfl⟩) ?_
 intro k x a u hkk hI hE hS K hK
 obtain ⟨hk1, hk2⟩ := hI
 obtain ⟨xp, xn, xs, _⟩ := x
 simp only at hk1 hk2
 by_cases hlt : k < n
 ·skip
  refine wp_seq ?_
  refine rgp hE hS [pu, pu, pu, pe (.bool true)] (fun _ => kp [(47, .bool true)]) kP0 (fun _ => ⟨kr (cbV (dtV (show ((20 + 4 * k : Nat) : Int) < ((z.length : Nat) : Int) by omega))), trivial⟩) fun _ a u hE hS => ift hE <| wp_skip ?_
  refine wp_seq ?_
  refine wp_block ?_
  refine rgE hE hS [pu, pu, pu, pu, pe (.int .i64 ((20 + 4 * k + 4 : Nat) : Int)), rsl 110 112, cl cB32 [112] [], nw 92, ap 1 [92], pu] (fun p9 => kp [(0, .slice (p9 8).a (xn + 1) (p9 8).c)]) (fun p9 => kP [(1, some (.row w.heap.size 22 1 (.slice (p9 8).a (xn + 1) (p9 8).c) (xn + 1) (xs ++ u32c ((rd32 ((z.take (20 + 4 * k + 4)).drop (20 + 4 * k)) 0)))))]) (fun _ => ⟨kr (ciV (show IntKind.i64.wrap (((20 + 4 * k : Nat) : Int) + (4 : Int)) = ((20 + 4 * k + 4 : Nat) : Int) from by rw [wiV _ (by omega)]; omega)), kr (show (20 + 4 * k) ≤ (20 + 4 * k + 4) ∧ (20 + 4 * k + 4) ≤ z.length ∧ z.length ≤ c by omega), kr (show 4 ≤ ((z.take (20 + 4 * k + 4)).drop (20 + 4 * k)).length ∧ ((z.take (20 + 4 * k + 4)).drop (20 + 4 * k)).length ≤ (c - (20 + 4 * k)) ∧ 0 < ((z.take (20 + 4 * k + 4)).drop (20 + 4 * k)).length by exact cut_need z 4 (20 + 4 * k) (20 + 4 * k + 4) c (by omega) hc (by omega) (by decide)), kr (show w.heap.size ≤ w.heap.size ∧ (xn + 1) * 4 ≤ 140737488355328 ∧ ∀ u ∈ u32c ((rd32 ((z.take (20 + 4 * k + 4)).drop (20 + 4 * k)) 0)), u.oneCell' = true from ⟨Nat.le_refl _, by omega, by intro u hu; simp [u32c] at hu; rw [hu]; rfl⟩), trivial⟩) fun p9 a u hE hS => ?_
  refine rgE hE hS [pu, pe (.int .i64 ((20 + 4 * (k + 1) : Nat) : Int)), pu] (fun _ => kp [(9, .int .i64 (20 + 4 * (k + 1) : Nat))]) kP0 (fun _ => ⟨kr (ciV (show IntKind.i64.wrap (((20 + 4 * k : Nat) : Int) + (4 : Int)) = ((20 + 4 * (k + 1) : Nat) : Int) from by rw [wiV _ (by omega)]; omega)), trivial⟩) fun _ a u hE hS => ?_
  have hst : parts4 srcB 4 (k + 1) (((z.drop 4).drop 8).drop 8) = parts4 srcB 4 k (((z.drop 4).drop 8).drop 8) ++ [(rd32 ((z.take (20 + 4 * k + 4)).drop (20 + 4 * k)) 0)] := by rw [parts4_succ, rd32_cut z (20 + 4 * k) (20 + 4 * k + 4) (by omega)]; unfold srcB; rw [List.drop_drop, List.drop_drop, List.drop_drop]
  exact hK ⟨(p9 8), xn + 1, xs ++ u32c ((rd32 ((z.take (20 + 4 * k + 4)).drop (20 + 4 * k)) 0)), ()⟩ a u _ _ hlt ⟨congrArg (· + 1) hk1, by show xs ++ _ = _; rw [hk2, hst, List.flatMap_append]; simp⟩ hE hS (by kernel_rfl)
 ·have hNk : n = k := by omega
  refine wp_seq ?_
  refine rgp hE hS [pu, pu, pu, pe (.bool false)] (fun _ => kp [(47, .bool false)]) kP0 (fun _ => ⟨kr (cbV (dfV (show ¬ (((20 + 4 * k : Nat) : Int) < ((z.length : Nat) : Int)) by omega))), trivial⟩) fun _ a u hE hS => iff hE ?_
  refine wp_exit ?_
  refine rg hE hS [pu, pu, pu] (fun _ => kp [(6, .slice xp.a xn xp.c)]) kP0 fun _ a u hE hS => ?_
  refine wp_ret ?_
  have hrow := InRows.of_own (pcR (base := w.heap.size) (e := 22) (size := 1) (v := .slice xp.a xn xp.c) (n := xn) (xs := xs) hS 1)
  rw [hk2, ← hNk] at hrow
  exact ret2 hE Tryz.results89 (.slice xp.a xn xp.c) .nilIface ⟨_, _, _, rfl, hrow, hS.below⟩

theorem par_1 (b o c : Nat) (z : List Int) (D : Nat → Prop) (w : World) {n L : Nat} (hd : Hd z false n 200 L) (hr : RowD w D (some ⟨b, o, none⟩) z) (hD : ∀ x, D x → x < w.heap.size) (hc : z.length ≤ c) (hl0 : 28 + 24 * n ≤ z.length) (hl : z.length ≤ 1048576) :
  Calls Tryz.prog 79 #[.slice none 0 0, .agg #[.bool false, .int .u8 (n : Nat), .int .u8 200, .int .u16 (L : Nat)], .slice (some ⟨b, o, none⟩) z.length c] w (DstP w ((parts4 repB 24 n ((z.drop 4).drop 24)).map Rep.ssrc ++ [rd32 (z.drop 4) 0])) := by
 refine go_in Tryz.func79 rfl Tryz.ntmps79 [.slice none 0 0, .agg #[.bool false, .int .u8 (n : Nat), .int .u8 200, .int .u16 (L : Nat)], sv b o z.length c] fun a hE => ?_
 have hS := stp_in w
 have hS := stp_ry1 hS 110 hr (fun x hx => ⟨hD x hx, id⟩) hd.byts
 have hS := stp_row0 hS 1 w.heap.size 22 1
 have h4 := hd.len
 have hL : L ≤ 65535 := by have h1 := hd.ln; have h2 := rd16_lt hd.byts 2; omega
 have hn31 := hd.cnt31
 refine rg hE hS [nw 100, pu, pu] (fun p1 => kp [(4, pt (p1 0).g 0), (6, .slice none 0 0), (7, .nilIface)]) (fun p1 => kP [(100, some (.blk (p1 0).g 83 #[.bool false, .int .u8 (n : Nat), .int .u8 200, .int .u16 (L : Nat)]))]) fun p1 a u hE hS => ?_
 refine wp_seq ?_
 refine rg hE hS [pu, ld 100, pu] (fun _ => kp [(17, .bool false)]) kP0 fun _ a u hE hS => iff hE <| wp_skip ?_
 refine wp_seq ?_
 refine rgp hE hS [pu, pu, pe (.bool false)] (fun _ => kp [(22, .bool false)]) kP0 (fun _ => ⟨kr (cbV (dfV (show ¬ (((z.length : Nat) : Int) < 28) by omega))), trivial⟩) fun _ a u hE hS => iff hE <| wp_skip ?_
 refine rgp hE hS [pu, rsl 110 111, pu] (fun p4 => kp [(8, sv (p4 1).g (p4 1).c (z.drop 4).length (c - 4))]) (fun p4 => kP [(111, some (.ry D ((some ⟨(p4 1).g, (p4 1).c, none⟩)) (z.drop 4)))]) (fun _ => ⟨kr (show 4 ≤ z.length ∧ z.length ≤ z.length ∧ z.length ≤ c by omega), trivial⟩) fun p4 a u hE hS => ?_
 have hly : (z.drop 4).length = z.length - 4 := List.length_drop
 refine rg hE hS [pu] (fun _ => kp [(9, .int .i64 ((24 + 24 * 0 : Nat) : Int))]) kP0 fun _ a u hE hS => ?_
 refine wp_seq ?_
 refine rg hE hS [pu] (fun _ => kn [(10, .int .i64 ((0 : Nat) : Int))] [0, 4, 6, 7, 8, 9]) (fun _ => kN [] [111, 1, 110, 100]) fun _ a u hE hS => wp_block ?_
 refine loop_k hE hS n (fun k x => kd [0, 9, 10] [(0, .slice x.p.a x.n x.p.c), (10, .int .i64 (k : Nat)), (9, .int .i64 ((24 + 24 * k : Nat) : Int))]) (fun k x => kN [(1, some (.row w.heap.size 22 1 (.slice x.p.a x.n x.p.c) x.n x.xs))] [110, 100, 111]) (fun k (x : Lx Unit) => x.n = k ∧ x.xs = ((parts4 repB 24 k ((z.drop 4).drop 24)).map Rep.ssrc).flatMap u32c) ⟨pay0, 0, [], ()⟩ (⟨rfl, rfl⟩) ?_
 intro k x a u hkk hI hE hS K hK
 obtain ⟨hk1, hk2⟩ := hI
 obtain ⟨xp, xn, xs, _⟩ := x
 simp only at hk1 hk2
 by_cases hlt : k < n
 ·skip
  have hk8 : (24 + 24 * k) + 24 ≤ (z.drop 4).length := by omega
  refine wp_seq ?_
  refine rgp hE hS [pu, pu, ld 100, pe (.int .i64 (n : Nat)), pe (.bool true)] (fun _ => kp [(31, .bool true)]) kP0 (fun _ => ⟨kr (ciV (i64n n (by omega))), kr (cbV (dtV (show ((k : Nat) : Int) < ((n : Nat) : Int) by omega))), trivial⟩) fun _ a u hE hS => ift hE <| wp_skip ?_
  refine wp_seq ?_
  refine wp_block ?_
  refine rgp hE hS [pu, pe (.int .i64 ((24 + 24 * (k + 1) : Nat) : Int)), pu] (fun _ => kp [(11, .int .i64 (24 + 24 * (k + 1) : Nat))]) kP0 (fun _ => ⟨kr (ciV (show IntKind.i64.wrap (((24 + 24 * k : Nat) : Int) + (24 : Int)) = ((24 + 24 * (k + 1) : Nat) : Int) from by rw [wiV _ (by omega)]; omega)), trivial⟩) fun _ a u hE hS => ?_
  refine wp_seq ?_
  refine rgp hE hS [pu, pu, pu, pe (.bool false)] (fun _ => kp [(39, .bool false)]) kP0 (fun _ => ⟨kr (cbV (dfV (show ¬ (((24 + 24 * (k + 1) : Nat) : Int) > (((z.drop 4).length : Nat) : Int)) by omega))), trivial⟩) fun _ a u hE hS => iff hE <| wp_skip ?_
  refine rgp hE hS [pu, pu, pu, pe (.int .i64 ((24 + 24 * (k + 1) : Nat) : Int)), rsl 111 113, pu] (fun p10 => kp [(12, sv (p10 4).g (p10 4).c (((z.drop 4).take ((24 + 24 * (k + 1)))).drop (24 + 24 * k)).length ((c - 4) - (24 + 24 * k)))]) (fun p10 => kP [(113, some (.ry D ((some ⟨(p10 4).g, (p10 4).c, none⟩)) (((z.drop 4).take ((24 + 24 * (k + 1)))).drop (24 + 24 * k))))]) (fun _ => ⟨kr (ciV (show IntKind.i64.wrap (((24 + 24 * k : Nat) : Int) + (24 : Int)) = ((24 + 24 * (k + 1) : Nat) : Int) from by rw [wiV _ (by omega)]; omega)), kr (show (24 + 24 * k) ≤ (24 + 24 * (k + 1)) ∧ (24 + 24 * (k + 1)) ≤ (z.drop 4).length ∧ (z.drop 4).length ≤ (c - 4) by omega), trivial⟩) fun p10 a u hE hS => ?_
  refine rg hE hS [pu, pu] (fun _ => kp [(9, .int .i64 (24 + 24 * (k + 1) : Nat))]) kP0 fun _ a u hE hS => ?_
  refine rg hE hS [nw 104] (fun p12 => kp [(13, pt (p12 0).g 0)]) (fun p12 => kP [(104, some (.blk (p12 0).g 221 #[.int .u32 0, .int .u8 0, .int .u32 0, .int .u32 0, .int .u32 0, .int .u32 0, .int .u32 0]))]) fun p12 a u hE hS => ?_
  refine wp_seq ?_
  refine rgp hE hS [pu, cu 109 [113] [104] (fun _ => .nilIface) (fun _ => [some (.blk (p12 0).g 221 (repB (((z.drop 4).take (24 + 24 * (k + 1))).drop (24 + 24 * k))).cells.toArray)]), pu] (fun _ => kp [(14, .nilIface)]) (fun _ => kP [(104, some (.blk (p12 0).g 221 ((repB (((z.drop 4).take (24 + 24 * (k + 1))).drop (24 + 24 * k))).cells.toArray)))]) (fun _ => ⟨kr (cu_urep (w0 := w) (olds := fun _ => False) (D := D) 113 104 (p10 4).g (p10 4).c ((((z.drop 4).take ((24 + 24 * (k + 1)))).drop (24 + 24 * k)).length) (((c - 4) - (24 + 24 * k))) (p12 0).g rfl (by simp only [List.length_drop, List.length_take]; omega) (by simp only [List.length_drop, List.length_take]; omega)), trivial⟩) fun _ a u hE hS => ?_
  refine rg hE hS [pu, pu] (fun _ => kp [(51, .bool false)]) kP0 fun _ a u hE hS => iff hE <| wp_skip ?_
  refine rgE hE hS [pu, pu, ld 104, nw 92, ap 1 [92], pu] (fun p15 => kp [(0, .slice (p15 4).a (xn + 1) (p15 4).c)]) (fun p15 => kP [(1, some (.row w.heap.size 22 1 (.slice (p15 4).a (xn + 1) (p15 4).c) (xn + 1) (xs ++ u32c ((repB (((z.drop 4).take (24 + 24 * (k + 1))).drop (24 + 24 * k))).ssrc))))]) (fun _ => ⟨kr (show w.heap.size ≤ w.heap.size ∧ (xn + 1) * 4 ≤ 140737488355328 ∧ ∀ u ∈ u32c ((repB (((z.drop 4).take (24 + 24 * (k + 1))).drop (24 + 24 * k))).ssrc), u.oneCell' = true from ⟨Nat.le_refl _, by omega, by intro u hu; simp [u32c] at hu; rw [hu]; rfl⟩), trivial⟩) fun p15 a u hE hS => ?_
  refine rgE hE hS [pu, pe (.int .i64 ((k + 1 : Nat) : Int)), pu] (fun _ => kp [(10, .int .i64 (k + 1 : Nat))]) kP0 (fun _ => ⟨kr (ciV (show IntKind.i64.wrap (((k : Nat) : Int) + (1 : Int)) = ((k + 1 : Nat) : Int) from by rw [wiV _ (by omega)]; omega)), trivial⟩) fun _ a u hE hS => ?_
  have hst : (parts4 repB 24 (k + 1) ((z.drop 4).drop 24)).map Rep.ssrc = (parts4 repB 24 k ((z.drop 4).drop 24)).map Rep.ssrc ++ [(repB (((z.drop 4).take (24 + 24 * (k + 1))).drop (24 + 24 * k))).ssrc] := by rw [parts4_succ, List.map_append]; exact congrArg (fun r : Rep => _ ++ [r.ssrc]) ((repB_part (z.drop 4) (24 + 24 * k)).trans (congrArg repB List.drop_drop.symm)).symm
  exact hK ⟨(p15 4), xn + 1, xs ++ u32c ((repB (((z.drop 4).take (24 + 24 * (k + 1))).drop (24 + 24 * k))).ssrc), ()⟩ a u _ _ hlt ⟨congrArg (· + 1) hk1, by show xs ++ _ = _; rw [hk2, hst, List.flatMap_append]; simp⟩ hE hS (by kernel_rfl)
 ·have hNk : n = k := by omega
  refine wp_seq ?_
  refine rgp hE hS [pu, pu, ld 100, pe (.int .i64 (n : Nat)), pe (.bool false)] (fun _ => kp [(31, .bool false)]) kP0 (fun _ => ⟨kr (ciV (i64n n (by omega))), kr (cbV (dfV (show ¬ (((k : Nat) : Int) < ((n : Nat) : Int)) by omega))), trivial⟩) fun _ a u hE hS => iff hE ?_
  refine wp_exit ?_
  refine rgp hE hS [pu, pu, rsl 111 112, cl cB32 [112] [], nw 92, ap 1 [92], pu, pu] (fun p18 => kp [(6, .slice (p18 5).a (xn + 1) (p18 5).c)]) (fun p18 => kP [(1, some (.row w.heap.size 22 1 (.slice (p18 5).a (xn + 1) (p18 5).c) (xn + 1) (xs ++ u32c ((rd32 ((z.drop 4).drop 0) 0)))))]) (fun _ => ⟨kr (show 0 ≤ (z.drop 4).length ∧ (z.drop 4).length ≤ (z.drop 4).length ∧ (z.drop 4).length ≤ (c - 4) by omega), kr (show 4 ≤ ((z.drop 4).drop 0).length ∧ ((z.drop 4).drop 0).length ≤ ((c - 4) - 0) ∧ 0 < ((z.drop 4).drop 0).length by simp only [List.length_drop]; omega), kr (show w.heap.size ≤ w.heap.size ∧ (xn + 1) * 4 ≤ 140737488355328 ∧ ∀ u ∈ u32c ((rd32 ((z.drop 4).drop 0) 0)), u.oneCell' = true from ⟨Nat.le_refl _, by omega, by intro u hu; simp [u32c] at hu; rw [hu]; rfl⟩), trivial⟩) fun p18 a u hE hS => ?_
  refine wp_ret ?_
  have hrow := InRows.of_own (pcR (base := w.heap.size) (e := 22) (size := 1) (v := .slice (p18 5).a (xn + 1) (p18 5).c) (n := xn + 1) (xs := xs ++ u32c ((rd32 ((z.drop 4).drop 0) 0))) hS 1)
  rw [hk2, ← hNk] at hrow
  refine ret2 hE Tryz.results79 (.slice (p18 5).a (xn + 1) (p18 5).c) .nilIface ⟨_, _, _, rfl, ?_, hS.below⟩
  rw [List.flatMap_append]
  exact hrow

theorem par_2 (b o c : Nat) (z : List Int) (D : Nat → Prop) (w : World) {n L : Nat} (hd : Hd z false n 201 L) (hr : RowD w D (some ⟨b, o, none⟩) z) (hD : ∀ x, D x → x < w.heap.size) (hc : z.length ≤ c) (hl0 : 8 + 24 * n ≤ z.length) (hl : z.length ≤ 1048576) :
  Calls Tryz.prog 80 #[.slice none 0 0, .agg #[.bool false, .int .u8 (n : Nat), .int .u8 201, .int .u16 (L : Nat)], .slice (some ⟨b, o, none⟩) z.length c] w (DstP w ((parts4 repB 24 n (z.drop 8)).map Rep.ssrc)) := by
 refine go_in Tryz.func80 rfl Tryz.ntmps80 [.slice none 0 0, .agg #[.bool false, .int .u8 (n : Nat), .int .u8 201, .int .u16 (L : Nat)], sv b o z.length c] fun a hE => ?_
 have hS := stp_in w
 have hS := stp_ry1 hS 110 hr (fun x hx => ⟨hD x hx, id⟩) hd.byts
 have hS := stp_row0 hS 1 w.heap.size 22 1
 have h4 := hd.len
 have hL : L ≤ 65535 := by have h1 := hd.ln; have h2 := rd16_lt hd.byts 2; omega
 have hn31 := hd.cnt31
 refine rg hE hS [nw 100, pu, pu] (fun p1 => kp [(4, pt (p1 0).g 0), (6, .slice none 0 0), (7, .nilIface)]) (fun p1 => kP [(100, some (.blk (p1 0).g 83 #[.bool false, .int .u8 (n : Nat), .int .u8 201, .int .u16 (L : Nat)]))]) fun p1 a u hE hS => ?_
 refine wp_seq ?_
 refine rg hE hS [pu, ld 100, pu] (fun _ => kp [(14, .bool false)]) kP0 fun _ a u hE hS => iff hE <| wp_skip ?_
 refine wp_seq ?_
 refine rgp hE hS [pu, pu, pe (.bool false)] (fun _ => kp [(19, .bool false)]) kP0 (fun _ => ⟨kr (cbV (dfV (show ¬ (((z.length : Nat) : Int) < 8) by omega))), trivial⟩) fun _ a u hE hS => iff hE <| wp_skip ?_
 refine rg hE hS [pu] (fun _ => kp [(8, .int .i64 ((0 : Nat) : Int))]) kP0 fun _ a u hE hS => ?_
 refine wp_seq ?_
 refine rg hE hS [pu] (fun _ => kn [(9, .int .i64 ((8 + 24 * 0 : Nat) : Int))] [0, 2, 4, 6, 7, 8]) (fun _ => kN [] [1, 110, 100]) fun _ a u hE hS => wp_block ?_
 refine loop_k hE hS n (fun k x => kd [0, 8, 9] [(0, .slice x.p.a x.n x.p.c), (8, .int .i64 (k : Nat)), (9, .int .i64 ((8 + 24 * k : Nat) : Int))]) (fun k x => kN [(1, some (.row w.heap.size 22 1 (.slice x.p.a x.n x.p.c) x.n x.xs))] [110, 100]) (fun k (x : Lx Unit) => x.n = k ∧ x.xs = ((parts4 repB 24 k (z.drop 8)).map Rep.ssrc).flatMap u32c) ⟨pay0, 0, [], ()⟩ (⟨rfl, rfl⟩) ?_
 intro k x a u hkk hI hE hS K hK
 obtain ⟨hk1, hk2⟩ := hI
 obtain ⟨xp, xn, xs, _⟩ := x
 simp only at hk1 hk2
 by_cases hlt : k < n
 ·skip
  have hk8 : (8 + 24 * k) + 24 ≤ z.length := by omega
  refine wp_seq ?_
  refine rgp hE hS [pu, pu, pu, pe (.bool true), pu, pu, pu, ld 100, pe (.int .i64 (n : Nat)), pe (.bool true), pu] (fun _ => kp [(32, .bool true)]) kP0 (fun _ => ⟨kr (cbV (dtV (show ((8 + 24 * k : Nat) : Int) < ((z.length : Nat) : Int) by omega))), kr (ciV (i64n n (by omega))), kr (cbV (dtV (show ((k : Nat) : Int) < ((n : Nat) : Int) by omega))), trivial⟩) fun _ a u hE hS => ift hE <| wp_skip ?_
  refine wp_seq ?_
  refine wp_block ?_
  refine rg hE hS [nw 104] (fun p7 => kp [(10, pt (p7 0).g 0)]) (fun p7 => kP [(104, some (.blk (p7 0).g 221 #[.int .u32 0, .int .u8 0, .int .u32 0, .int .u32 0, .int .u32 0, .int .u32 0, .int .u32 0]))]) fun p7 a u hE hS => ?_
  refine wp_seq ?_
  refine rgp hE hS [pu, pu, rsl 110 113, cu 109 [113] [104] (fun _ => .nilIface) (fun _ => [some (.blk (p7 0).g 221 (repB (z.drop (8 + 24 * k))).cells.toArray)]), pu] (fun _ => kp [(11, .nilIface)]) (fun p8 => kP [(104, some (.blk (p7 0).g 221 ((repB (z.drop (8 + 24 * k))).cells.toArray))), (113, some (.ry D ((some ⟨(p8 2).g, (p8 2).c, none⟩)) (z.drop (8 + 24 * k))))]) (fun p8 => ⟨kr (show (8 + 24 * k) ≤ z.length ∧ z.length ≤ z.length ∧ z.length ≤ c by omega), kr (cu_urep (w0 := w) (olds := fun _ => False) (D := D) 113 104 (p8 2).g (p8 2).c ((z.drop (8 + 24 * k)).length) ((c - (8 + 24 * k))) (p7 0).g rfl (by simp only [List.length_drop, List.length_take]; omega) (by simp only [List.length_drop, List.length_take]; omega)), trivial⟩) fun p8 a u hE hS => ?_
  refine rg hE hS [pu, pu] (fun _ => kp [(40, .bool false)]) kP0 fun _ a u hE hS => iff hE <| wp_skip ?_
  refine rgp hE hS [pu, pu, ld 104, nw 92, ap 1 [92], pu] (fun p10 => kp [(0, .slice (p10 4).a (xn + 1) (p10 4).c)]) (fun p10 => kP [(1, some (.row w.heap.size 22 1 (.slice (p10 4).a (xn + 1) (p10 4).c) (xn + 1) (xs ++ u32c ((repB (z.drop (8 + 24 * k))).ssrc))))]) (fun _ => ⟨kr (show w.heap.size ≤ w.heap.size ∧ (xn + 1) * 4 ≤ 140737488355328 ∧ ∀ u ∈ u32c ((repB (z.drop (8 + 24 * k))).ssrc), u.oneCell' = true from ⟨Nat.le_refl _, by omega, by intro u hu; simp [u32c] at hu; rw [hu]; rfl⟩), trivial⟩) fun p10 a u hE hS => ?_
  refine rgE hE hS [pu, pe (.int .i64 ((k + 1 : Nat) : Int)), pu] (fun _ => kp [(8, .int .i64 (k + 1 : Nat))]) kP0 (fun _ => ⟨kr (ciV (show IntKind.i64.wrap (((k : Nat) : Int) + (1 : Int)) = ((k + 1 : Nat) : Int) from by rw [wiV _ (by omega)]; omega)), trivial⟩) fun _ a u hE hS => ?_
  refine rgE hE hS [pu, pe (.int .i64 ((8 + 24 * (k + 1) : Nat) : Int)), pu] (fun _ => kp [(9, .int .i64 (8 + 24 * (k + 1) : Nat))]) kP0 (fun _ => ⟨kr (ciV (show IntKind.i64.wrap (((8 + 24 * k : Nat) : Int) + (24 : Int)) = ((8 + 24 * (k + 1) : Nat) : Int) from by rw [wiV _ (by omega)]; omega)), trivial⟩) fun _ a u hE hS => ?_
  have hst : (parts4 repB 24 (k + 1) (z.drop 8)).map Rep.ssrc = (parts4 repB 24 k (z.drop 8)).map Rep.ssrc ++ [(repB (z.drop (8 + 24 * k))).ssrc] := by rw [parts4_succ, List.map_append]; exact congrArg (fun r : Rep => _ ++ [r.ssrc]) (congrArg repB List.drop_drop.symm).symm
  exact hK ⟨(p10 4), xn + 1, xs ++ u32c ((repB (z.drop (8 + 24 * k))).ssrc), ()⟩ a u _ _ hlt ⟨congrArg (· + 1) hk1, by show xs ++ _ = _; rw [hk2, hst, List.flatMap_append]; simp⟩ hE hS (by kernel_rfl)
 ·have hNk : n = k := by omega
  by_cases he : 8 + 24 * k < z.length
  ·skip
   refine wp_seq ?_
   refine rgp hE hS [pu, pu, pu, pe (.bool true), pu, pu, pu, ld 100, pe (.int .i64 (n : Nat)), pe (.bool false), pu] (fun _ => kp [(32, .bool false)]) kP0 (fun _ => ⟨kr (cbV (dtV (show ((8 + 24 * k : Nat) : Int) < ((z.length : Nat) : Int) by omega))), kr (ciV (i64n n (by omega))), kr (cbV (dfV (show ¬ (((k : Nat) : Int) < ((n : Nat) : Int)) by omega))), trivial⟩) fun _ a u hE hS => iff hE ?_
   refine wp_exit ?_
   refine wp_seq ?_
   refine rgp hE hS [pu, pu, ld 100, pe (.int .i64 (n : Nat)), pe (.bool false)] (fun _ => kp [(54, .bool false)]) kP0 (fun _ => ⟨kr (ciV (i64n n (by omega))), kr (cbV (show (((k : Nat) : Int) != ((n : Nat) : Int)) = false by rw [← hNk]; simp)), trivial⟩) fun _ a u hE hS => iff hE <| wp_skip ?_
   refine rg hE hS [pu, pu, pu] (fun _ => kp [(6, .slice xp.a xn xp.c)]) kP0 fun _ a u hE hS => ?_
   refine wp_ret ?_
   have hrow := InRows.of_own (pcR (base := w.heap.size) (e := 22) (size := 1) (v := .slice xp.a xn xp.c) (n := xn) (xs := xs) hS 1)
   rw [hk2, ← hNk] at hrow
   exact ret2 hE Tryz.results80 (.slice xp.a xn xp.c) .nilIface ⟨_, _, _, rfl, hrow, hS.below⟩
  ·skip
   refine wp_seq ?_
   refine rgp hE hS [pu, pu, pu, pe (.bool false), pu, sk, sk, sk, sk, sk, pu] (fun _ => kp [(32, .bool false)]) kP0 (fun _ => ⟨kr (cbV (dfV (show ¬ (((8 + 24 * k : Nat) : Int) < ((z.length : Nat) : Int)) by omega))), trivial⟩) fun _ a u hE hS => iff hE ?_
   refine wp_exit ?_
   refine wp_seq ?_
   refine rgp hE hS [pu, pu, ld 100, pe (.int .i64 (n : Nat)), pe (.bool false)] (fun _ => kp [(54, .bool false)]) kP0 (fun _ => ⟨kr (ciV (i64n n (by omega))), kr (cbV (show (((k : Nat) : Int) != ((n : Nat) : Int)) = false by rw [← hNk]; simp)), trivial⟩) fun _ a u hE hS => iff hE <| wp_skip ?_
   refine rg hE hS [pu, pu, pu] (fun _ => kp [(6, .slice xp.a xn xp.c)]) kP0 fun _ a u hE hS => ?_
   refine wp_ret ?_
   have hrow := InRows.of_own (pcR (base := w.heap.size) (e := 22) (size := 1) (v := .slice xp.a xn xp.c) (n := xn) (xs := xs) hS 1)
   rw [hk2, ← hNk] at hrow
   exact ret2 hE Tryz.results80 (.slice xp.a xn xp.c) .nilIface ⟨_, _, _, rfl, hrow, hS.below⟩

theorem par_8 (b o c : Nat) (z : List Int) (D : Nat → Prop) (w : World) {L : Nat} (hd : Hd z false 11 205 L) (hr : RowD w D (some ⟨b, o, none⟩) z) (hD : ∀ x, D x → x < w.heap.size) (hc : z.length ≤ c) (hl : z.length ≤ 1048576) (n : Nat) (hcg : CgOk (z.drop 8) n) :
  Calls Tryz.prog 86 #[.slice none 0 0, .agg #[.bool false, .int .u8 11, .int .u8 205, .int .u16 (L : Nat)], .slice (some ⟨b, o, none⟩) z.length c] w (DstP w ((bksN (z.drop 8) n).map Blo.media)) := by
 refine go_in Tryz.func86 rfl Tryz.ntmps86 [.slice none 0 0, .agg #[.bool false, .int .u8 11, .int .u8 205, .int .u16 (L : Nat)], sv b o z.length c] fun a hE => ?_
 have hS := stp_in w
 have hS := stp_ry1 hS 110 hr (fun x hx => ⟨hD x hx, id⟩) hd.byts
 have hS := stp_row0 hS 1 w.heap.size 22 1
 have h4 := hd.len
 have hL : L ≤ 65535 := by have h1 := hd.ln; have h2 := rd16_lt hd.byts 2; omega
 obtain ⟨y, hy⟩ : ∃ y, z.drop 8 = y := ⟨_, rfl⟩
 rw [hy] at hcg ⊢
 have hyl : y.length = z.length - 8 := by rw [← hy]; exact List.length_drop
 have hzy : Byts y := by rw [← hy]; exact hd.byts.drop 8
 have hsl := hcg.len
 have hn0 := hcg.pos
 have hou := bkOff_up y n
 refine rg hE hS [nw 100, pu, pu] (fun p1 => kp [(4, pt (p1 0).g 0), (6, .slice none 0 0), (7, .nilIface)]) (fun p1 => kP [(100, some (.blk (p1 0).g 83 #[.bool false, .int .u8 11, .int .u8 205, .int .u16 (L : Nat)]))]) fun p1 a u hE hS => ?_
 refine wp_seq ?_
 refine rg hE hS [pu, ld 100, pu, pu, pu, ld 100, pu, pu] (fun _ => kp [(19, .bool false)]) kP0 fun _ a u hE hS => iff hE <| wp_skip ?_
 refine wp_seq ?_
 refine rgp hE hS [pu, pu, pe (.bool false)] (fun _ => kp [(24, .bool false)]) kP0 (fun _ => ⟨kr (cbV (dfV (show ¬ (((z.length : Nat) : Int) < 12) by omega))), trivial⟩) fun _ a u hE hS => iff hE <| wp_skip ?_
 refine rgp hE hS [pu, pu, pe (.int .i64 ((z.length - 4 : Nat) : Int)), pu] (fun _ => kp [(8, .int .i64 ((z.length - 4 : Nat) : Int))]) kP0 (fun _ => ⟨kr (ciV (show IntKind.i64.wrap (((z.length : Nat) : Int) - 4) = ((z.length - 4 : Nat) : Int) from (wiV _ (by omega)).trans (by omega))), trivial⟩) fun _ a u hE hS => ?_
 refine rg hE hS [pu] (fun _ => kn [(9, .int .i64 ((8 + 0 : Nat) : Int))] [0, 2, 6, 7, 8]) (fun _ => kN [] [1, 110, 100]) fun _ a u hE hS => ?_
 refine wp_seq ?_
 refine wp_block ?_
 refine loop_k hE hS n (fun k x => kd [0, 9] [(0, .slice x.p.a x.n x.p.c), (9, .int .i64 ((8 + bkOff y k : Nat) : Int))]) (fun k x => kN [(1, some (.row w.heap.size 22 1 (.slice x.p.a x.n x.p.c) x.n x.xs))] [110, 100]) (fun k (x : Lx Unit) => x.n = k ∧ x.xs = ((bksN y k).map Blo.media).flatMap u32c) ⟨pay0, 0, [], ()⟩ (⟨rfl, rfl⟩) ?_
 intro k x a u hkk hI hE hS K hK
 obtain ⟨hk1, hk2⟩ := hI
 obtain ⟨xp, xn, xs, _⟩ := x
 simp only at hk1 hk2
 by_cases hlt : k < n
 ·skip
  have hck := hcg.ok k hlt
  have hyk : y.drop (bkOff y k) = z.drop (8 + bkOff y k) := by rw [← hy, List.drop_drop]
  rw [hyk] at hck
  have hcl := hck.len
  have hdl : (z.drop (8 + bkOff y k)).length = z.length - (8 + bkOff y k) := List.length_drop
  have hnx : bkOff y (k + 1) = bkOff y k + bkLen (z.drop (8 + bkOff y k)) := by rw [← hyk]; rfl
  have hbd : Byts (z.drop (8 + bkOff y k)) := hd.byts.drop _
  obtain ⟨Y, hY⟩ : ∃ Y, z.drop (8 + bkOff y k) = Y := ⟨_, rfl⟩
  rw [hY] at hck hcl hdl hnx hyk hbd
  have hYl : bkLen Y = 8 + 2 * ev (bkN Y) := rfl
  have hYe : ev (bkN Y) = bkN Y + bkN Y % 2 := rfl
  have hr16 := rd16_lt (hbd.drop 6) 0
  have hbn : rd16 (Y.drop 6) 0 = (bkN Y : Int) := by unfold bkN; omega
  refine wp_seq ?_
  refine rgp hE hS [pu, pu, pe (.bool true)] (fun _ => kp [(32, .bool true)]) kP0 (fun _ => ⟨kr (cbV (dtV (show ((8 + bkOff y k : Nat) : Int) < ((z.length - 4 : Nat) : Int) by omega))), trivial⟩) fun _ a u hE hS => ift hE <| wp_skip <| wp_block ?_
  refine rgp hE hS [pu, pu, rsl 110 112, pu] (fun p7 => kp [(10, sv (p7 2).g (p7 2).c (z.drop (8 + bkOff y k)).length (c - (8 + bkOff y k)))]) (fun p7 => kP [(112, some (.ry D ((some ⟨(p7 2).g, (p7 2).c, none⟩)) (z.drop (8 + bkOff y k))))]) (fun _ => ⟨kr (show (8 + bkOff y k) ≤ z.length ∧ z.length ≤ z.length ∧ z.length ≤ c by omega), trivial⟩) fun p7 a u hE hS => ?_
  rw [hY] at hE hS
  refine wp_seq ?_
  refine rgp hE hS [pu, pu, pe (.bool false)] (fun _ => kp [(38, .bool false)]) kP0 (fun _ => ⟨kr (cbV (dfV (show ¬ (((Y.length : Nat) : Int) < 8) by omega))), trivial⟩) fun _ a u hE hS => iff hE <| wp_skip ?_
  refine rgp hE hS [pu, pu, rsl 112 113, cl cB32 [113] [], nw 92, ap 1 [92], pu] (fun p9 => kp [(0, .slice (p9 5).a (xn + 1) (p9 5).c)]) (fun p9 => kP [(1, some (.row w.heap.size 22 1 (.slice (p9 5).a (xn + 1) (p9 5).c) (xn + 1) (xs ++ u32c ((rd32 (Y.take 4) 0)))))]) (fun _ => ⟨kr (show 0 ≤ 4 ∧ 4 ≤ Y.length ∧ Y.length ≤ (c - (8 + bkOff y k)) by omega), kr (show 4 ≤ (Y.take 4).length ∧ (Y.take 4).length ≤ ((c - (8 + bkOff y k)) - 0) ∧ 0 < (Y.take 4).length by simp only [List.length_take]; omega), kr (show w.heap.size ≤ w.heap.size ∧ (xn + 1) * 4 ≤ 140737488355328 ∧ ∀ u ∈ u32c ((rd32 (Y.take 4) 0)), u.oneCell' = true from ⟨Nat.le_refl _, by omega, by intro u hu; simp [u32c] at hu; rw [hu]; rfl⟩), trivial⟩) fun p9 a u hE hS => ?_
  refine rgp hE hS [pu, rsl 112 113, cl cB16 [113] [], pe (.int .i64 (bkN Y : Nat)), pu] (fun _ => kp [(11, .int .i64 (bkN Y : Nat))]) kP0 (fun _ => ⟨kr (show 6 ≤ Y.length ∧ Y.length ≤ Y.length ∧ Y.length ≤ (c - (8 + bkOff y k)) by omega), kr (show 2 ≤ (Y.drop 6).length ∧ (Y.drop 6).length ≤ ((c - (8 + bkOff y k)) - 6) ∧ 0 < (Y.drop 6).length by simp only [List.length_drop]; omega), kr (ciV (show IntKind.i64.wrap (rd16 (Y.drop 6) 0) = ((bkN Y : Nat) : Int) by rw [hbn]; exact i64n _ (by omega))), trivial⟩) fun _ a u hE hS => ?_
  refine wp_seq ?_
  refine rgp hE hS [pu, pu, pu, pe (.int .i64 ((bkN Y * 2 : Nat) : Int)), pe (.int .i64 ((8 + bkN Y * 2 : Nat) : Int)), pe (.bool false)] (fun _ => kp [(56, .bool false)]) kP0 (fun _ => ⟨kr (ciV (show IntKind.i64.wrap (((bkN Y : Nat) : Int) * (2 : Int)) = ((bkN Y * 2 : Nat) : Int) from by rw [wiV _ (by omega)]; omega)), kr (ciV (show IntKind.i64.wrap ((8 : Int) + ((bkN Y * 2 : Nat) : Int)) = ((8 + bkN Y * 2 : Nat) : Int) from by rw [wiV _ (by omega)]; omega)), kr (cbV (dfV (show ¬ (((Y.length : Nat) : Int) < ((8 + bkN Y * 2 : Nat) : Int)) by omega))), trivial⟩) fun _ a u hE hS => iff hE <| wp_skip ?_
  refine wp_seq ?_
  by_cases ho : bkN Y % 2 = 1
  ·skip
   refine rgp hE hS [pu, pe (.int .i64 ((bkN Y % 2 : Nat) : Int)), pe (.bool true)] (fun _ => kp [(61, .bool true)]) kP0 (fun _ => ⟨kr (ciV (show ((bkN Y : Nat) : Int).tmod 2 = ((bkN Y % 2 : Nat) : Int) by rw [Int.tmod_eq_emod_of_nonneg (by omega)]; omega)), kr (cbV (show (((bkN Y % 2 : Nat) : Int) != 0) = true by rw [ho]; rfl)), trivial⟩) fun _ a u hE hS => ift hE ?_
   refine rgE hE hS [pu, pe (.int .i64 ((bkN Y + 1 : Nat) : Int)), pu] (fun _ => kp [(11, .int .i64 (bkN Y + 1 : Nat))]) kP0 (fun _ => ⟨kr (ciV (show IntKind.i64.wrap (((bkN Y : Nat) : Int) + (1 : Int)) = ((bkN Y + 1 : Nat) : Int) from by rw [wiV _ (by omega)]; omega)), trivial⟩) fun _ a u hE hS => ?_
   refine rgE hE hS [pu, pu, pe (.int .i64 ((2 * (bkN Y + 1) : Nat) : Int)), pe (.int .i64 ((8 + 2 * (bkN Y + 1) : Nat) : Int)), pe (.int .i64 ((8 + bkOff y (k + 1) : Nat) : Int)), pu] (fun _ => kp [(9, .int .i64 (8 + bkOff y (k + 1) : Nat))]) kP0 (fun _ => ⟨kr (ciV (show IntKind.i64.wrap ((2 : Int) * ((bkN Y + 1 : Nat) : Int)) = ((2 * (bkN Y + 1) : Nat) : Int) from by rw [wiV _ (by omega)]; omega)), kr (ciV (show IntKind.i64.wrap ((8 : Int) + ((2 * (bkN Y + 1) : Nat) : Int)) = ((8 + 2 * (bkN Y + 1) : Nat) : Int) from by rw [wiV _ (by omega)]; omega)), kr (ciV (show IntKind.i64.wrap (((8 + bkOff y k : Nat) : Int) + ((8 + 2 * (bkN Y + 1) : Nat) : Int)) = ((8 + bkOff y (k + 1) : Nat) : Int) from by rw [wiV _ (by omega)]; omega)), trivial⟩) fun _ a u hE hS => ?_
   have hst : (bksN y (k + 1)).map Blo.media = (bksN y k).map Blo.media ++ [(rd32 (Y.take 4) 0)] := by rw [bksN_succ, List.map_append, hyk]; exact congrArg (fun x => _ ++ [x]) (rd32_cut Y 0 4 (by omega)).symm
   exact hK ⟨(p9 5), xn + 1, xs ++ u32c ((rd32 (Y.take 4) 0)), ()⟩ a u _ _ hlt ⟨congrArg (· + 1) hk1, by show xs ++ _ = _; rw [hk2, hst, List.flatMap_append]; simp⟩ hE hS (by kernel_rfl)
  have ho : bkN Y % 2 = 0 := by omega
  refine rgp hE hS [pu, pe (.int .i64 ((bkN Y % 2 : Nat) : Int)), pe (.bool false)] (fun _ => kp [(61, .bool false)]) kP0 (fun _ => ⟨kr (ciV (show ((bkN Y : Nat) : Int).tmod 2 = ((bkN Y % 2 : Nat) : Int) by rw [Int.tmod_eq_emod_of_nonneg (by omega)]; omega)), kr (cbV (show (((bkN Y % 2 : Nat) : Int) != 0) = false by rw [ho]; rfl)), trivial⟩) fun _ a u hE hS => iff hE <| wp_skip ?_
  refine rgE hE hS [pu, pu, pe (.int .i64 ((2 * bkN Y : Nat) : Int)), pe (.int .i64 ((8 + 2 * bkN Y : Nat) : Int)), pe (.int .i64 ((8 + bkOff y (k + 1) : Nat) : Int)), pu] (fun _ => kp [(9, .int .i64 (8 + bkOff y (k + 1) : Nat))]) kP0 (fun _ => ⟨kr (ciV (show IntKind.i64.wrap ((2 : Int) * ((bkN Y : Nat) : Int)) = ((2 * bkN Y : Nat) : Int) from by rw [wiV _ (by omega)]; omega)), kr (ciV (show IntKind.i64.wrap ((8 : Int) + ((2 * bkN Y : Nat) : Int)) = ((8 + 2 * bkN Y : Nat) : Int) from by rw [wiV _ (by omega)]; omega)), kr (ciV (show IntKind.i64.wrap (((8 + bkOff y k : Nat) : Int) + ((8 + 2 * bkN Y : Nat) : Int)) = ((8 + bkOff y (k + 1) : Nat) : Int) from by rw [wiV _ (by omega)]; omega)), trivial⟩) fun _ a u hE hS => ?_
  have hst : (bksN y (k + 1)).map Blo.media = (bksN y k).map Blo.media ++ [(rd32 (Y.take 4) 0)] := by rw [bksN_succ, List.map_append, hyk]; exact congrArg (fun x => _ ++ [x]) (rd32_cut Y 0 4 (by omega)).symm
  exact hK ⟨(p9 5), xn + 1, xs ++ u32c ((rd32 (Y.take 4) 0)), ()⟩ a u _ _ hlt ⟨congrArg (· + 1) hk1, by show xs ++ _ = _; rw [hk2, hst, List.flatMap_append]; simp⟩ hE hS (by kernel_rfl)
 ·have hNk : n = k := by omega
  rw [hNk] at hsl
  refine wp_seq ?_
  refine rgp hE hS [pu, pu, pe (.bool false)] (fun _ => kp [(32, .bool false)]) kP0 (fun _ => ⟨kr (cbV (dfV (show ¬ (((8 + bkOff y k : Nat) : Int) < ((z.length - 4 : Nat) : Int)) by omega))), trivial⟩) fun _ a u hE hS => iff hE ?_
  refine wp_exit ?_
  refine rg hE hS [pu, pu, pu] (fun _ => kp [(6, .slice xp.a xn xp.c)]) kP0 fun _ a u hE hS => ?_
  refine wp_ret ?_
  have hrow := InRows.of_own (pcR (base := w.heap.size) (e := 22) (size := 1) (v := .slice xp.a xn xp.c) (n := xn) (xs := xs) hS 1)
  rw [hk2, ← hNk] at hrow
  exact ret2 hE Tryz.results86 (.slice xp.a xn xp.c) .nilIface ⟨_, _, _, rfl, hrow, hS.below⟩

theorem par_3 (b o c : Nat) (z : List Int) (D : Nat → Prop) (w : World) {n L : Nat} (hd : Hd z false n 202 L) (hr : RowD w D (some ⟨b, o, none⟩) z) (hD : ∀ x, D x → x < w.heap.size) (hc : z.length ≤ c) (hl : z.length ≤ 1048576) (hsd : SdOk (z.drop 4) n) :
  Calls Tryz.prog 81 #[.slice none 0 0, .agg #[.bool false, .int .u8 (n : Nat), .int .u8 202, .int .u16 (L : Nat)], .slice (some ⟨b, o, none⟩) z.length c] w (DstP w ((chsN (z.drop 4) n).map Chunk.src)) := by
 refine go_in Tryz.func81 rfl Tryz.ntmps81 [.slice none 0 0, .agg #[.bool false, .int .u8 (n : Nat), .int .u8 202, .int .u16 (L : Nat)], sv b o z.length c] fun a hE => ?_
 have hS := stp_in w
 have hS := stp_ry1 hS 110 hr (fun x hx => ⟨hD x hx, id⟩) hd.byts
 have hS := stp_row0 hS 1 w.heap.size 22 1
 have h4 := hd.len
 have hL : L ≤ 65535 := by have h1 := hd.ln; have h2 := rd16_lt hd.byts 2; omega
 have hn31 := hd.cnt31
 obtain ⟨y, hy⟩ : ∃ y, z.drop 4 = y := ⟨_, rfl⟩
 rw [hy] at hsd ⊢
 have hyl : y.length = z.length - 4 := by rw [← hy]; exact List.length_drop
 have hzy : Byts y := by rw [← hy]; exact hd.byts.drop 4
 have hsl := hsd.len
 refine rg hE hS [nw 100, pu, pu] (fun p1 => kp [(4, pt (p1 0).g 0), (6, .slice none 0 0), (7, .nilIface)]) (fun p1 => kP [(100, some (.blk (p1 0).g 83 #[.bool false, .int .u8 (n : Nat), .int .u8 202, .int .u16 (L : Nat)]))]) fun p1 a u hE hS => ?_
 refine wp_seq ?_
 refine rg hE hS [pu, ld 100, pu] (fun _ => kp [(18, .bool false)]) kP0 fun _ a u hE hS => iff hE <| wp_skip ?_
 refine rg hE hS [pu] (fun _ => kp [(8, .int .i64 ((0 : Nat) : Int))]) kP0 fun _ a u hE hS => ?_
 refine wp_seq ?_
 refine rg hE hS [pu] (fun _ => kn [(9, .int .i64 ((4 + 0 : Nat) : Int))] [0, 2, 4, 6, 7, 8]) (fun _ => kN [] [1, 110, 100]) fun _ a u hE hS => wp_block ?_
 refine loop_k hE hS n (fun k x => kd [0, 8, 9] [(0, .slice x.p.a x.n x.p.c), (8, .int .i64 (k : Nat)), (9, .int .i64 ((4 + chOff y k : Nat) : Int))]) (fun k x => kN [(1, some (.row w.heap.size 22 1 (.slice x.p.a x.n x.p.c) x.n x.xs))] [110, 100]) (fun k (x : Lx Unit) => x.n = k ∧ x.xs = ((chsN y k).map Chunk.src).flatMap u32c) ⟨pay0, 0, [], ()⟩ (⟨rfl, rfl⟩) ?_
 intro k x a u hkk hI hE hS K hK
 obtain ⟨hk1, hk2⟩ := hI
 obtain ⟨xp, xn, xs, _⟩ := x
 simp only at hk1 hk2
 by_cases hlt : k < n
 ·skip
  have hck := hsd.ok k hlt
  have hyk : y.drop (chOff y k) = z.drop (4 + chOff y k) := by rw [← hy, List.drop_drop]
  rw [hyk] at hck
  have hcl := hck.len
  have hcp := hck.pad
  have hclt := hck.lt
  have hcla := hck.last
  have hdl : (z.drop (4 + chOff y k)).length = z.length - (4 + chOff y k) := List.length_drop
  have hnx : chOff y (k + 1) = chOff y k + up4 (itOff (z.drop (4 + chOff y k)) (itM (z.drop (4 + chOff y k))) + 1) := by rw [← hyk]; rfl
  have hcle : cLen (z.drop (4 + chOff y k)) = up4 (itOff (z.drop (4 + chOff y k)) (itM (z.drop (4 + chOff y k))) + 1) := rfl
  have hus := up4_spec (itOff (z.drop (4 + chOff y k)) (itM (z.drop (4 + chOff y k))) + 1)
  have hbd : Byts (z.drop (4 + chOff y k)) := hd.byts.drop _
  obtain ⟨Y, hY⟩ : ∃ Y, z.drop (4 + chOff y k) = Y := ⟨_, rfl⟩
  rw [hY] at hck hcl hcp hclt hcla hdl hnx hcle hus hyk hbd
  have hml := itM_le Y
  have hmo := itOff_up Y (itM Y)
  refine wp_seq ?_
  refine rgp hE hS [pu, pu, pu, pe (.bool true)] (fun _ => kp [(24, .bool true)]) kP0 (fun _ => ⟨kr (cbV (dtV (show ((4 + chOff y k : Nat) : Int) < ((z.length : Nat) : Int) by omega))), trivial⟩) fun _ a u hE hS => ift hE <| wp_skip ?_
  refine wp_seq ?_
  refine wp_block ?_
  refine rgp hE hS [pu, pu, rsl 110 112, pu] (fun p6 => kp [(10, sv (p6 2).g (p6 2).c (z.drop (4 + chOff y k)).length (c - (4 + chOff y k)))]) (fun p6 => kP [(112, some (.ry D ((some ⟨(p6 2).g, (p6 2).c, none⟩)) (z.drop (4 + chOff y k))))]) (fun _ => ⟨kr (show (4 + chOff y k) ≤ z.length ∧ z.length ≤ z.length ∧ z.length ≤ c by omega), trivial⟩) fun p6 a u hE hS => ?_
  rw [hY] at hE hS
  refine wp_seq ?_
  refine rgp hE hS [pu, pu, pe (.bool false)] (fun _ => kp [(32, .bool false)]) kP0 (fun _ => ⟨kr (cbV (dfV (show ¬ (((Y.length : Nat) : Int) < 5) by omega))), trivial⟩) fun _ a u hE hS => iff hE <| wp_skip ?_
  refine rgp hE hS [pu, pu, cl cB32 [112] [], nw 92, ap 1 [92], pu] (fun p8 => kp [(0, .slice (p8 4).a (xn + 1) (p8 4).c)]) (fun p8 => kP [(1, some (.row w.heap.size 22 1 (.slice (p8 4).a (xn + 1) (p8 4).c) (xn + 1) (xs ++ u32c (rd32 Y 0))))]) (fun _ => ⟨kr (show 4 ≤ Y.length ∧ Y.length ≤ (c - (4 + chOff y k)) ∧ 0 < Y.length by omega), kr (show w.heap.size ≤ w.heap.size ∧ (xn + 1) * 4 ≤ 140737488355328 ∧ ∀ u ∈ u32c (rd32 Y 0), u.oneCell' = true from ⟨Nat.le_refl _, by omega, by intro u hu; simp [u32c] at hu; rw [hu]; rfl⟩), trivial⟩) fun p8 a u hE hS => ?_
  refine rg hE hS [pu] (fun _ => kp [(11, .int .i64 (-1))]) kP0 fun _ a u hE hS => ?_
  refine wp_seq ?_
  refine rg hE hS [pu] (fun _ => kn [(12, .int .i64 (4 : Nat))] [2, 4, 6, 7, 0, 8, 9, 10, 11]) (fun _ => kN [] [1, 112, 110, 100]) fun _ a u hE hS => wp_block ?_
  refine loop_k hE hS (itM Y) (fun j v => kd [12] [(12, .int .i64 (itOff Y j : Nat))]) (fun j v => kN [] [110, 100, 112, 1]) (fun j (v : Unit) => True) () (trivial) ?_
  intro j v a u hkj hIj hE hS Kj hKj
  obtain hj1 := hIj
  by_cases hltj : j < itM Y
  ·skip
   obtain ⟨hm1, hm2, hm3⟩ := itM_good hltj
   have hg1 := hbd.gi (itOff Y j + 1)
   obtain ⟨r, hr0⟩ : ∃ r : Nat, gi Y (itOff Y j + 1) = (r : Int) := ⟨(gi Y (itOff Y j + 1)).toNat, by omega⟩
   have hnx2 : itOff Y (j + 1) = itOff Y j + 2 + r := by show itOff Y j + 2 + (gi Y (itOff Y j + 1)).toNat = _; rw [hr0]; simp
   have hdl2 : (Y.drop (itOff Y j)).length = Y.length - itOff Y j := List.length_drop
   have hup := itOff_up Y j
   refine wp_seq ?_
   refine rgp hE hS [pu, pu, pu, pe (.bool true)] (fun _ => kp [(43, .bool true)]) kP0 (fun _ => ⟨kr (cbV (dtV (show ((itOff Y j : Nat) : Int) < ((Y.length : Nat) : Int) by omega))), trivial⟩) fun _ a u hE hS => ift hE <| wp_skip <| wp_block ?_
   refine rgp hE hS [pu, pu, rsl 112 113, pu] (fun p12 => kp [(13, sv (p12 2).g (p12 2).c (Y.drop (itOff Y j)).length ((c - (4 + chOff y k)) - (itOff Y j)))]) (fun p12 => kP [(113, some (.ry D ((some ⟨(p12 2).g, (p12 2).c, none⟩)) (Y.drop (itOff Y j))))]) (fun _ => ⟨kr (show (itOff Y j) ≤ Y.length ∧ Y.length ≤ Y.length ∧ Y.length ≤ (c - (4 + chOff y k)) by omega), trivial⟩) fun p12 a u hE hS => ?_
   refine wp_seq ?_
   refine rgp hE hS [pu, ix, rb 113 0, pu] (fun _ => kp [(14, .int .u8 (gi (Y.drop (itOff Y j)) 0))]) kP0 (fun _ => ⟨kr (show 0 < (Y.drop (itOff Y j)).length by rw [List.length_drop]; omega), kr (show 0 < (Y.drop (itOff Y j)).length by rw [List.length_drop]; omega), trivial⟩) fun _ a u hE hS => ?_
   refine rgp hE hS [pu, pe (.bool false)] (fun _ => kp [(51, .bool false)]) kP0 (fun _ => ⟨kr (cbV (nbV (show (gi (Y.drop (itOff Y j)) 0 : Int) ≠ 0 by rw [gi_drop]; exact hm2))), trivial⟩) fun _ a u hE hS => iff hE <| wp_skip ?_
   refine wp_seq ?_
   refine rgp hE hS [pu, pu, pe (.bool false)] (fun _ => kp [(60, .bool false)]) kP0 (fun _ => ⟨kr (cbV (dfV (show ¬ ((((Y.drop (itOff Y j)).length : Nat) : Int) < 2) by omega))), trivial⟩) fun _ a u hE hS => iff hE <| wp_skip ?_
   refine rgp hE hS [pu, ix, rb 113 1, pe (.int .i64 (r : Nat)), pu] (fun _ => kp [(15, .int .i64 (r : Nat))]) kP0 (fun _ => ⟨kr (show 1 < (Y.drop (itOff Y j)).length by omega), kr (show 1 < (Y.drop (itOff Y j)).length by omega), kr (ciV (show IntKind.i64.wrap (gi (Y.drop (itOff Y j)) 1) = ((r : Nat) : Int) by rw [gi_drop, hr0]; exact i64n r (by omega))), trivial⟩) fun _ a u hE hS => ?_
   refine wp_seq ?_
   refine rgp hE hS [pu, pe (.int .i64 ((2 + r : Nat) : Int)), pu, pu, pe (.bool false)] (fun _ => kp [(71, .bool false)]) kP0 (fun _ => ⟨kr (ciV (show IntKind.i64.wrap ((2 : Int) + ((r : Nat) : Int)) = ((2 + r : Nat) : Int) from by rw [wiV _ (by omega)]; omega)), kr (cbV (dfV (show ¬ (((2 + r : Nat) : Int) > (((Y.drop (itOff Y j)).length : Nat) : Int)) by omega))), trivial⟩) fun _ a u hE hS => iff hE <| wp_skip ?_
   refine rgE hE hS [pu, pu, pe (.int .i64 ((2 + r : Nat) : Int)), pe (.int .i64 ((itOff Y (j + 1) : Nat) : Int)), pu] (fun _ => kp [(12, .int .i64 (itOff Y (j + 1) : Nat))]) kP0 (fun _ => ⟨kr (ciV (show IntKind.i64.wrap ((2 : Int) + ((r : Nat) : Int)) = ((2 + r : Nat) : Int) from by rw [wiV _ (by omega)]; omega)), kr (ciV (show IntKind.i64.wrap (((itOff Y j : Nat) : Int) + ((2 + r : Nat) : Int)) = ((itOff Y (j + 1) : Nat) : Int) from by rw [wiV _ (by omega)]; omega)), trivial⟩) fun _ a u hE hS => ?_
   exact hKj () a u _ _ hltj trivial hE hS (by kernel_rfl)
  ·have hNj : itM Y = j := by omega
   rw [hNj] at hclt hcla hcle hnx hus
   have hdl2 : (Y.drop (itOff Y j)).length = Y.length - itOff Y j := List.length_drop
   refine wp_seq ?_
   refine rgp hE hS [pu, pu, pu, pe (.bool true)] (fun _ => kp [(43, .bool true)]) kP0 (fun _ => ⟨kr (cbV (dtV (show ((itOff Y j : Nat) : Int) < ((Y.length : Nat) : Int) by omega))), trivial⟩) fun _ a u hE hS => ift hE <| wp_skip <| wp_block ?_
   refine rgp hE hS [pu, pu, rsl 112 113, pu] (fun p20 => kp [(13, sv (p20 2).g (p20 2).c (Y.drop (itOff Y j)).length ((c - (4 + chOff y k)) - (itOff Y j)))]) (fun p20 => kP [(113, some (.ry D ((some ⟨(p20 2).g, (p20 2).c, none⟩)) (Y.drop (itOff Y j))))]) (fun _ => ⟨kr (show (itOff Y j) ≤ Y.length ∧ Y.length ≤ Y.length ∧ Y.length ≤ (c - (4 + chOff y k)) by omega), trivial⟩) fun p20 a u hE hS => ?_
   refine wp_seq ?_
   refine rgp hE hS [pu, ix, rb 113 0, pu] (fun _ => kp [(14, .int .u8 (gi (Y.drop (itOff Y j)) 0))]) kP0 (fun _ => ⟨kr (show 0 < (Y.drop (itOff Y j)).length by rw [List.length_drop]; omega), kr (show 0 < (Y.drop (itOff Y j)).length by rw [List.length_drop]; omega), trivial⟩) fun _ a u hE hS => ?_
   refine rgp hE hS [pu, pe (.bool true)] (fun _ => kp [(51, .bool true)]) kP0 (fun _ => ⟨kr (cbV (ebV (show (gi (Y.drop (itOff Y j)) 0 : Int) = 0 by rw [gi_drop]; exact hcla))), trivial⟩) fun _ a u hE hS => ift hE ?_
   refine rgp hE hS [pu, pe (.int .i64 ((itOff Y j + 1 : Nat) : Int)), pu] (fun _ => kp [(11, .int .i64 (itOff Y j + 1 : Nat))]) kP0 (fun _ => ⟨kr (ciV (show IntKind.i64.wrap (((itOff Y j : Nat) : Int) + (1 : Int)) = ((itOff Y j + 1 : Nat) : Int) from by rw [wiV _ (by omega)]; omega)), trivial⟩) fun _ a u hE hS => ?_
   refine rgp hE hS [pu, pu, cu 100 [] [] (fun _ => .int .i64 ((up4 (itOff Y j + 1) - (itOff Y j + 1) : Nat) : Int)) (fun _ => []), pe (.int .i64 ((up4 (itOff Y j + 1) : Nat) : Int)), pu] (fun _ => kp [(11, .int .i64 (up4 (itOff Y j + 1) : Nat))]) kP0 (fun _ => ⟨kr (cu_cpt (olds := fun _ => False) (w0 := w) (pad_any (itOff Y j + 1))), kr (ciV (show IntKind.i64.wrap (((itOff Y j + 1 : Nat) : Int) + ((up4 (itOff Y j + 1) - (itOff Y j + 1) : Nat) : Int)) = ((up4 (itOff Y j + 1) : Nat) : Int) from by rw [wiV _ (by omega)]; omega)), trivial⟩) fun _ a u hE hS => ?_
   refine wp_exit ?_
   refine wp_seq ?_
   refine rgp hE hS [pu, pe (.bool false), pu, pu, pu, pu, pe (.bool false), pu] (fun _ => kp [(85, .bool false)]) kP0 (fun _ => ⟨kr (cbV (dfV (show ¬ (((up4 (itOff Y j + 1) : Nat) : Int) < 0) by omega))), kr (cbV (dfV (show ¬ (((up4 (itOff Y j + 1) : Nat) : Int) > ((Y.length : Nat) : Int)) by omega))), trivial⟩) fun _ a u hE hS => iff hE <| wp_skip ?_
   refine rgE hE hS [pu, pu, pe (.int .i64 ((4 + chOff y (k + 1) : Nat) : Int)), pu] (fun _ => kp [(9, .int .i64 (4 + chOff y (k + 1) : Nat))]) kP0 (fun _ => ⟨kr (ciV (show IntKind.i64.wrap (((4 + chOff y k : Nat) : Int) + ((up4 (itOff Y j + 1) : Nat) : Int)) = ((4 + chOff y (k + 1) : Nat) : Int) from by rw [wiV _ (by omega)]; omega)), trivial⟩) fun _ a u hE hS => ?_
   refine rgE hE hS [pu, pe (.int .i64 ((k + 1 : Nat) : Int)), pu] (fun _ => kp [(8, .int .i64 (k + 1 : Nat))]) kP0 (fun _ => ⟨kr (ciV (show IntKind.i64.wrap (((k : Nat) : Int) + (1 : Int)) = ((k + 1 : Nat) : Int) from by rw [wiV _ (by omega)]; omega)), trivial⟩) fun _ a u hE hS => ?_
   have hst : (chsN y (k + 1)).map Chunk.src = (chsN y k).map Chunk.src ++ [(rd32 Y 0)] := by rw [chsN_succ, List.map_append, hyk]; rfl
   exact hK ⟨(p8 4), xn + 1, xs ++ u32c (rd32 Y 0), ()⟩ a u _ _ hlt ⟨congrArg (· + 1) hk1, by show xs ++ _ = _; rw [hk2, hst, List.flatMap_append]; simp⟩ hE hS (by kernel_rfl)
 ·have hNk : n = k := by omega
  rw [hNk] at hsl
  refine wp_seq ?_
  refine rgp hE hS [pu, pu, pu, pe (.bool false)] (fun _ => kp [(24, .bool false)]) kP0 (fun _ => ⟨kr (cbV (dfV (show ¬ (((4 + chOff y k : Nat) : Int) < ((z.length : Nat) : Int)) by omega))), trivial⟩) fun _ a u hE hS => iff hE ?_
  refine wp_exit ?_
  refine wp_seq ?_
  refine rgp hE hS [pu, pu, ld 100, pe (.int .i64 (n : Nat)), pe (.bool false)] (fun _ => kp [(95, .bool false)]) kP0 (fun _ => ⟨kr (ciV (i64n n (by omega))), kr (cbV (show (((k : Nat) : Int) != ((n : Nat) : Int)) = false by rw [← hNk]; simp)), trivial⟩) fun _ a u hE hS => iff hE <| wp_skip ?_
  refine rg hE hS [pu, pu, pu] (fun _ => kp [(6, .slice xp.a xn xp.c)]) kP0 fun _ a u hE hS => ?_
  refine wp_ret ?_
  have hrow := InRows.of_own (pcR (base := w.heap.size) (e := 22) (size := 1) (v := .slice xp.a xn xp.c) (n := xn) (xs := xs) hS 1)
  rw [hk2, ← hNk] at hrow
  exact ret2 hE Tryz.results81 (.slice xp.a xn xp.c) .nilIface ⟨_, _, _, rfl, hrow, hS.below⟩

end Go.Proofs.YtmmfpgoodfgkbaaGreatDoor
