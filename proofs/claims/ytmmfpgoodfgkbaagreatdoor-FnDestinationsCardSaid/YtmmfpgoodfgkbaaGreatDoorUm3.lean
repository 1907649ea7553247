/-
  THE WALKS of the package's reading of reports. Condition: the bytes lie in memory, apart from the packet's block; the header says the kind.
-/
import Derived.Test.YtmmfpgoodfgkbaaGreatDoorUm2
namespace Go.Proofs.YtmmfpgoodfgkbaaGreatDoor
open Go Go.RowKit
set_option maxHeartbeats 4000000
set_option maxRecDepth 100000
set_option linter.unusedVariables false
set_option linter.unusedSimpArgs false

theorem cu8 (n m : Nat) (h : m = n) (h1 : n ≤ 31) : Value.int .u8 (((m : Nat) : Int) % 256) = .int .u8 ((n : Nat) : Int) := by rw [h, Int.emod_eq_of_lt (by omega) (by omega)]
theorem ne_self (n : Nat) : (((n : Nat) : Int) != ((n : Nat) : Int)) = false := by simp
theorem SlD.nil {w : World} {D : Nat → Prop} {l : List Int} (h : l.length = 0) : SlD w D (.slice none 0 0) l := ⟨none, 0, by rw [h], fun hn => by omega⟩
theorem um_1 (g b o c : Nat) (z : List Int) (D : Nat → Prop) (w : World) {n L : Nat} (hd : Hd z false n 200 L) (hb : Blk w g 162 #[.int .u32 0, .int .u64 0, .int .u32 0, .int .u32 0, .int .u32 0, .slice none 0 0, .slice none 0 0]) (hr : RowD w D (some ⟨b, o, none⟩) z) (hD : ∀ x, D x → x < w.heap.size ∧ x ≠ g) (hc : z.length ≤ c) (hzl : z.length = 4 * (L + 1)) (hl0 : 28 + 24 * n ≤ z.length) :
  Calls Tryz.prog 132 #[.pointer (some ⟨g, 0, none⟩), .slice (some ⟨b, o, none⟩) z.length c] w fun e w' => e = .returned .nilIface ∧ w.grownBy w' (some g) ∧ ∃ A c2 v, Blk w' g 162 #[.int .u32 (rd32 (z.drop 4) 0), .int .u64 (rd64 ((z.drop 4).drop 4) 0), .int .u32 (rd32 ((z.drop 4).drop 12) 0), .int .u32 (rd32 ((z.drop 4).drop 16) 0), .int .u32 (rd32 ((z.drop 4).drop 20) 0), .slice A n c2, v] ∧ InRows w' w.heap.size w'.heap.size 7 A n ((parts4 repB 24 n ((z.drop 4).drop 24)).flatMap Rep.cells) ∧ SlD w' D v (((z.drop 4).drop 24).drop (24 * n)) := by
 refine go_in Tryz.func132 rfl Tryz.ntmps132 [pt g 0, sv b o z.length c] fun a hE => ?_
 have hS := stp_blk1 101 hb
 have hS := stp_ry1 hS 110 hr (fun x hx => ⟨(hD x hx).1, (hD x hx).2⟩) hd.byts
 have h4 := hd.len
 have hL : L ≤ 65535 := by have h1 := hd.ln; have h2 := rd16_lt hd.byts 2; omega
 have hn31 := hd.cnt31
 refine rg hE hS [pu] (fun _ => kp [(4, .nilIface)]) kP0 fun _ a u hE hS => ?_
 refine wp_seq ?_
 refine rgp hE hS [pu, pu, pe (.bool false)] (fun _ => kp [(16, .bool false)]) kP0 (fun _ => ⟨kr (cbV (dfV (show ¬ (((z.length : Nat) : Int) < 28) by omega))), trivial⟩) fun _ a u hE hS => iff hE <| wp_skip ?_
 refine rg hE hS [nw 103] (fun p3 => kp [(5, pt (p3 0).g 0)]) (fun p3 => kP [(103, some (.blk (p3 0).g 83 #[.bool false, .int .u8 0, .int .u8 0, .int .u16 0]))]) fun p3 a u hE hS => ?_
 refine wp_seq ?_
 refine rgp hE hS [pu, cu 71 [110] [103] (fun _ => .nilIface) (fun _ => [some (.blk (p3 0).g 83 #[.bool false, .int .u8 (n : Nat), .int .u8 200, .int .u16 (L : Nat)])]), pu] (fun _ => kp [(6, .nilIface)]) (fun _ => kP [(103, some (.blk (p3 0).g 83 #[.bool false, .int .u8 (n : Nat), .int .u8 200, .int .u16 (L : Nat)]))]) (fun _ => ⟨kr (cu_hum (w0 := w) (olds := (· = g)) hd (D := D) 110 103 b o z.length c (p3 0).g rfl hc), trivial⟩) fun _ a u hE hS => ?_
 refine rg hE hS [pu, pu] (fun _ => kp [(21, .bool false)]) kP0 fun _ a u hE hS => iff hE <| wp_skip ?_
 refine wp_seq ?_
 refine rg hE hS [pu, ld 103, pu] (fun _ => kp [(25, .bool false)]) kP0 fun _ a u hE hS => iff hE <| wp_skip ?_
 refine rgp hE hS [pu, rsl 110 111, pu] (fun p7 => kp [(7, sv (p7 1).g (p7 1).c (z.drop 4).length (c - 4))]) (fun p7 => kP [(111, some (.ry D ((some ⟨(p7 1).g, (p7 1).c, none⟩)) (z.drop 4)))]) (fun _ => ⟨kr (show 4 ≤ z.length ∧ z.length ≤ z.length ∧ z.length ≤ c by omega), trivial⟩) fun p7 a u hE hS => ?_
 have hly : (z.drop 4).length = z.length - 4 := List.length_drop
 refine rgp hE hS [pu, pu, rsl 111 112, cl cB32 [112] [], pu, pu, st 101] kp0 (fun _ => kP [(101, some (.blk g 162 #[.int .u32 (rd32 ((z.drop 4).drop 0) 0), .int .u64 0, .int .u32 0, .int .u32 0, .int .u32 0, .slice none 0 0, .slice none 0 0]))]) (fun _ => ⟨kr (show 0 ≤ (z.drop 4).length ∧ (z.drop 4).length ≤ (z.drop 4).length ∧ (z.drop 4).length ≤ (c - 4) by omega), kr (show 4 ≤ ((z.drop 4).drop 0).length ∧ ((z.drop 4).drop 0).length ≤ ((c - 4) - 0) ∧ 0 < ((z.drop 4).drop 0).length by simp only [List.length_drop] at *; omega), trivial⟩) fun _ a u hE hS => ?_
 refine rgp hE hS [pu, pu, rsl 111 112, cl cB64 [112] [], pu, pu, st 101] kp0 (fun _ => kP [(101, some (.blk g 162 #[.int .u32 (rd32 ((z.drop 4).drop 0) 0), .int .u64 (rd64 ((z.drop 4).drop 4) 0), .int .u32 0, .int .u32 0, .int .u32 0, .slice none 0 0, .slice none 0 0]))]) (fun _ => ⟨kr (show 4 ≤ (z.drop 4).length ∧ (z.drop 4).length ≤ (z.drop 4).length ∧ (z.drop 4).length ≤ (c - 4) by omega), kr (show 8 ≤ ((z.drop 4).drop 4).length ∧ ((z.drop 4).drop 4).length ≤ ((c - 4) - 4) ∧ 0 < ((z.drop 4).drop 4).length by simp only [List.length_drop] at *; omega), trivial⟩) fun _ a u hE hS => ?_
 refine rgp hE hS [pu, pu, rsl 111 112, cl cB32 [112] [], pu, pu, st 101] kp0 (fun _ => kP [(101, some (.blk g 162 #[.int .u32 (rd32 ((z.drop 4).drop 0) 0), .int .u64 (rd64 ((z.drop 4).drop 4) 0), .int .u32 (rd32 ((z.drop 4).drop 12) 0), .int .u32 0, .int .u32 0, .slice none 0 0, .slice none 0 0]))]) (fun _ => ⟨kr (show 12 ≤ (z.drop 4).length ∧ (z.drop 4).length ≤ (z.drop 4).length ∧ (z.drop 4).length ≤ (c - 4) by omega), kr (show 4 ≤ ((z.drop 4).drop 12).length ∧ ((z.drop 4).drop 12).length ≤ ((c - 4) - 12) ∧ 0 < ((z.drop 4).drop 12).length by simp only [List.length_drop] at *; omega), trivial⟩) fun _ a u hE hS => ?_
 refine rgp hE hS [pu, pu, rsl 111 112, cl cB32 [112] [], pu, pu, st 101] kp0 (fun _ => kP [(101, some (.blk g 162 #[.int .u32 (rd32 ((z.drop 4).drop 0) 0), .int .u64 (rd64 ((z.drop 4).drop 4) 0), .int .u32 (rd32 ((z.drop 4).drop 12) 0), .int .u32 (rd32 ((z.drop 4).drop 16) 0), .int .u32 0, .slice none 0 0, .slice none 0 0]))]) (fun _ => ⟨kr (show 16 ≤ (z.drop 4).length ∧ (z.drop 4).length ≤ (z.drop 4).length ∧ (z.drop 4).length ≤ (c - 4) by omega), kr (show 4 ≤ ((z.drop 4).drop 16).length ∧ ((z.drop 4).drop 16).length ≤ ((c - 4) - 16) ∧ 0 < ((z.drop 4).drop 16).length by simp only [List.length_drop] at *; omega), trivial⟩) fun _ a u hE hS => ?_
 refine rgp hE hS [pu, pu, rsl 111 112, cl cB32 [112] [], pu, pu, st 101] kp0 (fun _ => kP [(101, some (.blk g 162 #[.int .u32 (rd32 ((z.drop 4).drop 0) 0), .int .u64 (rd64 ((z.drop 4).drop 4) 0), .int .u32 (rd32 ((z.drop 4).drop 12) 0), .int .u32 (rd32 ((z.drop 4).drop 16) 0), .int .u32 (rd32 ((z.drop 4).drop 20) 0), .slice none 0 0, .slice none 0 0]))]) (fun _ => ⟨kr (show 20 ≤ (z.drop 4).length ∧ (z.drop 4).length ≤ (z.drop 4).length ∧ (z.drop 4).length ≤ (c - 4) by omega), kr (show 4 ≤ ((z.drop 4).drop 20).length ∧ ((z.drop 4).drop 20).length ≤ ((c - 4) - 20) ∧ 0 < ((z.drop 4).drop 20).length by simp only [List.length_drop] at *; omega), trivial⟩) fun _ a u hE hS => ?_
 refine rg hE hS [pu] (fun _ => kp [(8, .int .i64 24)]) kP0 fun _ a u hE hS => ?_
 refine wp_seq ?_
 refine rg hE hS [pu] (fun _ => kn [(9, .int .i64 0)] [0, 4, 5, 7, 8]) (fun _ => kN [] [111, 103, 110, 101]) fun _ a u hE hS => ?_
 have hS := stp_row0 hS 1 w.heap.size 221 7
 refine wp_block ?_
 refine loop_k hE hS n (fun k x => kd [8, 9] [(8, .int .i64 ((24 + 24 * k : Nat) : Int)), (9, .int .i64 (k : Nat))]) (fun k x => kN [(101, some (.blk g 162 #[.int .u32 (rd32 ((z.drop 4).drop 0) 0), .int .u64 (rd64 ((z.drop 4).drop 4) 0), .int .u32 (rd32 ((z.drop 4).drop 12) 0), .int .u32 (rd32 ((z.drop 4).drop 16) 0), .int .u32 (rd32 ((z.drop 4).drop 20) 0), .slice x.p.a x.n x.p.c, .slice none 0 0])), (1, some (.row w.heap.size 221 7 (.slice x.p.a x.n x.p.c) x.n x.xs))] [103, 110, 111]) (fun k (x : Lx Unit) => x.n = k ∧ x.xs = (parts4 repB 24 k ((z.drop 4).drop 24)).flatMap Rep.cells) ⟨pay0, 0, [], ()⟩ (⟨rfl, by simp [parts4]⟩) ?_
 intro k x a u hkk hI hE hS K hK
 obtain ⟨hk1, hk2⟩ := hI
 obtain ⟨xp, xn, xs, _⟩ := x
 simp only at hk1 hk2
 by_cases hlt : k < n
 ·skip
  have hk8 : (24 + 24 * k) + 24 ≤ (z.drop 4).length := by omega
  refine wp_seq ?_
  refine rgp hE hS [pu, pu, ld 103, pe (.int .i64 (n : Nat)), pe (.bool true)] (fun _ => kp [(63, .bool true)]) kP0 (fun _ => ⟨kr (ciV (wiV ((n : Nat) : Int) (by omega))), kr (cbV (dtV (show ((k : Nat) : Int) < ((n : Nat) : Int) by omega))), trivial⟩) fun _ a u hE hS => ift hE <| wp_skip ?_
  refine wp_seq ?_
  refine wp_block ?_
  refine rgp hE hS [pu, pe (.int .i64 ((24 + 24 * (k + 1) : Nat) : Int)), pu] (fun _ => kp [(10, .int .i64 (24 + 24 * (k + 1) : Nat))]) kP0 (fun _ => ⟨kr (ciV (show IntKind.i64.wrap (((24 + 24 * k : Nat) : Int) + (24 : Int)) = ((24 + 24 * (k + 1) : Nat) : Int) from by rw [wiV _ (by omega)]; omega)), trivial⟩) fun _ a u hE hS => ?_
  refine wp_seq ?_
  refine rgp hE hS [pu, pu, pu, pe (.bool false)] (fun _ => kp [(71, .bool false)]) kP0 (fun _ => ⟨kr (cbV (dfV (show ¬ (((24 + 24 * (k + 1) : Nat) : Int) > (((z.drop 4).length : Nat) : Int)) by omega))), trivial⟩) fun _ a u hE hS => iff hE <| wp_skip ?_
  refine rgp hE hS [pu, pu, pu, pe (.int .i64 ((24 + 24 * (k + 1) : Nat) : Int)), rsl 111 113, pu] (fun p18 => kp [(11, sv (p18 4).g (p18 4).c (((z.drop 4).take ((24 + 24 * (k + 1)))).drop (24 + 24 * k)).length ((c - 4) - (24 + 24 * k)))]) (fun p18 => kP [(113, some (.ry D ((some ⟨(p18 4).g, (p18 4).c, none⟩)) (((z.drop 4).take ((24 + 24 * (k + 1)))).drop (24 + 24 * k))))]) (fun _ => ⟨kr (ciV (show IntKind.i64.wrap (((24 + 24 * k : Nat) : Int) + (24 : Int)) = ((24 + 24 * (k + 1) : Nat) : Int) from by rw [wiV _ (by omega)]; omega)), kr (show (24 + 24 * k) ≤ (24 + 24 * (k + 1)) ∧ (24 + 24 * (k + 1)) ≤ (z.drop 4).length ∧ (z.drop 4).length ≤ (c - 4) by omega), trivial⟩) fun p18 a u hE hS => ?_
  refine rg hE hS [pu, pu] (fun _ => kp [(8, .int .i64 (24 + 24 * (k + 1) : Nat))]) kP0 fun _ a u hE hS => ?_
  refine rg hE hS [nw 104] (fun p20 => kp [(12, pt (p20 0).g 0)]) (fun p20 => kP [(104, some (.blk (p20 0).g 221 #[.int .u32 0, .int .u8 0, .int .u32 0, .int .u32 0, .int .u32 0, .int .u32 0, .int .u32 0]))]) fun p20 a u hE hS => ?_
  refine wp_seq ?_
  refine rgp hE hS [pu, cu 109 [113] [104] (fun _ => .nilIface) (fun _ => [some (.blk (p20 0).g 221 (repB (((z.drop 4).take (24 + 24 * (k + 1))).drop (24 + 24 * k))).cells.toArray)]), pu] (fun _ => kp [(13, .nilIface)]) (fun _ => kP [(104, some (.blk (p20 0).g 221 ((repB (((z.drop 4).take (24 + 24 * (k + 1))).drop (24 + 24 * k))).cells.toArray)))]) (fun _ => ⟨kr (cu_urep (w0 := w) (olds := (· = g)) (D := D) 113 104 (p18 4).g (p18 4).c ((((z.drop 4).take ((24 + 24 * (k + 1)))).drop (24 + 24 * k)).length) (((c - 4) - (24 + 24 * k))) (p20 0).g rfl (by simp only [List.length_drop, List.length_take]; omega) (by simp only [List.length_drop, List.length_take]; omega)), trivial⟩) fun _ a u hE hS => ?_
  refine rg hE hS [pu, pu] (fun _ => kn [(82, .bool false)] [0, 4, 5, 7, 9, 8, 12, 13]) (fun _ => kN [] [104, 101, 1, 111, 103, 110]) fun _ a u hE hS => iff hE <| wp_skip ?_
  refine dgE hE hS [pu, pu, pu, pu, ld 101, ld 104, nw 92, ap 1 [92], pu, pu, st 101] kp0 (fun p23 => kP [(101, some (.blk g 162 #[.int .u32 (rd32 ((z.drop 4).drop 0) 0), .int .u64 (rd64 ((z.drop 4).drop 4) 0), .int .u32 (rd32 ((z.drop 4).drop 12) 0), .int .u32 (rd32 ((z.drop 4).drop 16) 0), .int .u32 (rd32 ((z.drop 4).drop 20) 0), .slice (p23 7).a (xn + 1) (p23 7).c, .slice none 0 0])), (1, some (.row w.heap.size 221 7 (.slice (p23 7).a (xn + 1) (p23 7).c) (xn + 1) (xs ++ (repB (((z.drop 4).take (24 + 24 * (k + 1))).drop (24 + 24 * k))).cells)))]) (fun _ => ⟨kr (show w.heap.size ≤ w.heap.size ∧ (xn + 1) * 28 ≤ 140737488355328 ∧ ∀ u ∈ (repB (((z.drop 4).take (24 + 24 * (k + 1))).drop (24 + 24 * k))).cells, u.oneCell' = true from ⟨Nat.le_refl _, by omega, by intro u hu; simp [Rep.cells] at hu; rcases hu with rfl | rfl | rfl | rfl | rfl | rfl | rfl <;> rfl⟩), trivial⟩) fun p23 a u hE hS => ?_
  refine rgE hE hS [pu, pe (.int .i64 ((k + 1 : Nat) : Int)), pu] (fun _ => kp [(9, .int .i64 (k + 1 : Nat))]) kP0 (fun _ => ⟨kr (ciV (show IntKind.i64.wrap (((k : Nat) : Int) + (1 : Int)) = ((k + 1 : Nat) : Int) from by rw [wiV _ (by omega)]; omega)), trivial⟩) fun _ a u hE hS => ?_
  have hrb : repB (((z.drop 4).take (24 + 24 * (k + 1))).drop (24 + 24 * k)) = repB (((z.drop 4).drop 24).drop (24 * k)) := by rw [List.drop_drop]; exact repB_part (z.drop 4) (24 + 24 * k)
  exact hK ⟨(p23 7), xn + 1, xs ++ (repB (((z.drop 4).take (24 + 24 * (k + 1))).drop (24 + 24 * k))).cells, ()⟩ a u _ _ hlt ⟨congrArg (· + 1) hk1, by show xs ++ _ = _; rw [hk2, parts4_succ, List.flatMap_append, hrb]; simp⟩ hE hS (by kernel_rfl)
 ·obtain rfl : n = k := by omega
  by_cases he : 24 + 24 * n < (z.drop 4).length
  ·skip
   refine wp_seq ?_
   refine rgp hE hS [pu, pu, ld 103, pe (.int .i64 (n : Nat)), pe (.bool false)] (fun _ => kp [(63, .bool false)]) kP0 (fun _ => ⟨kr (ciV (wiV ((n : Nat) : Int) (by omega))), kr (cbV (dfV (show ¬ (((n : Nat) : Int) < ((n : Nat) : Int)) by omega))), trivial⟩) fun _ a u hE hS => iff hE ?_
   refine wp_exit ?_
   refine wp_seq ?_
   refine rgp hE hS [pu, pu, pu, pe (.bool true)] (fun _ => kp [(97, .bool true)]) kP0 (fun _ => ⟨kr (cbV (dtV (show ((24 + 24 * n : Nat) : Int) < (((z.drop 4).length : Nat) : Int) by omega))), trivial⟩) fun _ a u hE hS => ift hE ?_
   refine rgE hE hS [pu, pu, pu, rsl 111 114, pu, pu, st 101] kp0 (fun p27 => kP [(114, some (.ry D ((some ⟨(p27 3).g, (p27 3).c, none⟩)) ((z.drop 4).drop (24 + 24 * n)))), (101, some (.blk g 162 #[.int .u32 (rd32 ((z.drop 4).drop 0) 0), .int .u64 (rd64 ((z.drop 4).drop 4) 0), .int .u32 (rd32 ((z.drop 4).drop 12) 0), .int .u32 (rd32 ((z.drop 4).drop 16) 0), .int .u32 (rd32 ((z.drop 4).drop 20) 0), .slice xp.a xn xp.c, sv (p27 3).g (p27 3).c ((z.drop 4).drop (24 + 24 * n)).length ((c - 4) - (24 + 24 * n))]))]) (fun _ => ⟨kr (show (24 + 24 * n) ≤ (z.drop 4).length ∧ (z.drop 4).length ≤ (z.drop 4).length ∧ (z.drop 4).length ≤ (c - 4) by omega), trivial⟩) fun p27 a u hE hS => ?_
   refine wp_seq ?_
   refine dgp hE hS [pu, pu, pu, ld 101, pu, pe (.int .u8 (n : Nat)), pu, ld 103, pe (.bool false)] (fun _ => kp [(112, .bool false)]) kP0 (fun _ => ⟨kr (cu8 n xn hk1 hn31), kr (cbV (ne_self n)), trivial⟩) fun _ a u hE hS => iff hE <| wp_skip ?_
   refine rg hE hS [pu] kp0 kP0 fun _ a u hE hS => ?_
   refine wp_ret ?_
   have hrow := pcR (base := w.heap.size) (e := 221) (size := 7) (v := .slice xp.a xn xp.c) (n := xn) (xs := xs) hS 1
   have hbl := pcB (g := g) (T := 162) (cs := #[.int .u32 (rd32 ((z.drop 4).drop 0) 0), .int .u64 (rd64 ((z.drop 4).drop 4) 0), .int .u32 (rd32 ((z.drop 4).drop 12) 0), .int .u32 (rd32 ((z.drop 4).drop 16) 0), .int .u32 (rd32 ((z.drop 4).drop 20) 0), .slice xp.a xn xp.c, .slice (some ⟨(p27 3).g, (p27 3).c, none⟩) ((z.drop 4).drop (24 + 24 * n)).length ((c - 4) - (24 + 24 * n))]) hS 101
   subst hk1
   have hg := hS.grownBy (some g) (fun _ e => by rw [e])
   have hE2 : ((z.drop 4).drop 24).drop (24 * xn) = (z.drop 4).drop (24 + 24 * xn) := by simp only [List.drop_drop]; congr 1; omega
   rw [show (z.drop 4).drop 0 = z.drop 4 from rfl] at hbl
   have hrd : RdB (· = g) w D (some ⟨(p27 3).g, (p27 3).c, none⟩) ((z.drop 4).drop (24 + 24 * xn)) ∧ Byts ((z.drop 4).drop (24 + 24 * xn)) := hS.pure_ 114 (by kernel_rfl)
   have hrow3 := hrd.1.1.kept hD hg
   rw [← hE2] at hrow3 hbl
   have hE3 : (z.drop 4).drop 24 = (z.drop 4).drop 24 := rfl
   exact ret1 hE Tryz.results132 .nilIface ⟨rfl, hg, xp.a, xp.c, _, hbl, by rw [← hk2]; exact InRows.of_own hrow, ⟨_, _, rfl, hrow3⟩⟩
  ·skip
   refine wp_seq ?_
   refine rgp hE hS [pu, pu, ld 103, pe (.int .i64 (n : Nat)), pe (.bool false)] (fun _ => kp [(63, .bool false)]) kP0 (fun _ => ⟨kr (ciV (wiV ((n : Nat) : Int) (by omega))), kr (cbV (dfV (show ¬ (((n : Nat) : Int) < ((n : Nat) : Int)) by omega))), trivial⟩) fun _ a u hE hS => iff hE ?_
   refine wp_exit ?_
   refine wp_seq ?_
   refine rgp hE hS [pu, pu, pu, pe (.bool false)] (fun _ => kp [(97, .bool false)]) kP0 (fun _ => ⟨kr (cbV (dfV (show ¬ (((24 + 24 * n : Nat) : Int) < (((z.drop 4).length : Nat) : Int)) by omega))), trivial⟩) fun _ a u hE hS => iff hE <| wp_skip ?_
   refine wp_seq ?_
   refine dgp hE hS [pu, pu, pu, ld 101, pu, pe (.int .u8 (n : Nat)), pu, ld 103, pe (.bool false)] (fun _ => kp [(112, .bool false)]) kP0 (fun _ => ⟨kr (cu8 n xn hk1 hn31), kr (cbV (ne_self n)), trivial⟩) fun _ a u hE hS => iff hE <| wp_skip ?_
   refine rg hE hS [pu] kp0 kP0 fun _ a u hE hS => ?_
   refine wp_ret ?_
   have hrow := pcR (base := w.heap.size) (e := 221) (size := 7) (v := .slice xp.a xn xp.c) (n := xn) (xs := xs) hS 1
   have hbl := pcB (g := g) (T := 162) (cs := #[.int .u32 (rd32 ((z.drop 4).drop 0) 0), .int .u64 (rd64 ((z.drop 4).drop 4) 0), .int .u32 (rd32 ((z.drop 4).drop 12) 0), .int .u32 (rd32 ((z.drop 4).drop 16) 0), .int .u32 (rd32 ((z.drop 4).drop 20) 0), .slice xp.a xn xp.c, .slice none 0 0]) hS 101
   subst hk1
   have hg := hS.grownBy (some g) (fun _ e => by rw [e])
   have hE2 : ((z.drop 4).drop 24).drop (24 * xn) = (z.drop 4).drop (24 + 24 * xn) := by simp only [List.drop_drop]; congr 1; omega
   rw [show (z.drop 4).drop 0 = z.drop 4 from rfl] at hbl
   have hE3 : (z.drop 4).drop 24 = (z.drop 4).drop 24 := rfl
   exact ret1 hE Tryz.results132 .nilIface ⟨rfl, hg, xp.a, xp.c, _, hbl, by rw [← hk2]; exact InRows.of_own hrow, SlD.nil (by rw [hE2, List.length_drop]; omega)⟩

theorem um_2 (v0 : Value) (g b o c : Nat) (z : List Int) (D : Nat → Prop) (w : World) {n L : Nat} (hd : Hd z false n 201 L) (hb : Blk w g 164 #[.int .u32 0, .slice none 0 0, v0]) (hr : RowD w D (some ⟨b, o, none⟩) z) (hD : ∀ x, D x → x < w.heap.size ∧ x ≠ g) (hc : z.length ≤ c) (hzl : z.length = 4 * (L + 1)) (hl0 : 8 + 24 * n ≤ z.length) :
  Calls Tryz.prog 138 #[.pointer (some ⟨g, 0, none⟩), .slice (some ⟨b, o, none⟩) z.length c] w fun e w' => e = .returned .nilIface ∧ w.grownBy w' (some g) ∧ ∃ A c2 v, Blk w' g 164 #[.int .u32 (rd32 (z.drop 4) 0), .slice A n c2, v] ∧ InRows w' w.heap.size w'.heap.size 7 A n ((parts4 repB 24 n ((z.drop 4).drop 4)).flatMap Rep.cells) ∧ SlD w' D v (((z.drop 4).drop 4).drop (24 * n)) := by
 refine go_in Tryz.func138 rfl Tryz.ntmps138 [pt g 0, sv b o z.length c] fun a hE => ?_
 have hS := stp_blk1 101 hb
 have hS := stp_ry1 hS 110 hr (fun x hx => ⟨(hD x hx).1, (hD x hx).2⟩) hd.byts
 have h4 := hd.len
 have hL : L ≤ 65535 := by have h1 := hd.ln; have h2 := rd16_lt hd.byts 2; omega
 have hn31 := hd.cnt31
 refine rg hE hS [pu] (fun _ => kp [(4, .nilIface)]) kP0 fun _ a u hE hS => ?_
 refine wp_seq ?_
 refine rgp hE hS [pu, pu, pe (.bool false)] (fun _ => kp [(12, .bool false)]) kP0 (fun _ => ⟨kr (cbV (dfV (show ¬ (((z.length : Nat) : Int) < 8) by omega))), trivial⟩) fun _ a u hE hS => iff hE <| wp_skip ?_
 refine rg hE hS [nw 103] (fun p3 => kp [(5, pt (p3 0).g 0)]) (fun p3 => kP [(103, some (.blk (p3 0).g 83 #[.bool false, .int .u8 0, .int .u8 0, .int .u16 0]))]) fun p3 a u hE hS => ?_
 refine wp_seq ?_
 refine rgp hE hS [pu, cu 71 [110] [103] (fun _ => .nilIface) (fun _ => [some (.blk (p3 0).g 83 #[.bool false, .int .u8 (n : Nat), .int .u8 201, .int .u16 (L : Nat)])]), pu] (fun _ => kp [(6, .nilIface)]) (fun _ => kP [(103, some (.blk (p3 0).g 83 #[.bool false, .int .u8 (n : Nat), .int .u8 201, .int .u16 (L : Nat)]))]) (fun _ => ⟨kr (cu_hum (w0 := w) (olds := (· = g)) hd (D := D) 110 103 b o z.length c (p3 0).g rfl hc), trivial⟩) fun _ a u hE hS => ?_
 refine rg hE hS [pu, pu] (fun _ => kp [(17, .bool false)]) kP0 fun _ a u hE hS => iff hE <| wp_skip ?_
 refine wp_seq ?_
 refine rg hE hS [pu, ld 103, pu] (fun _ => kp [(21, .bool false)]) kP0 fun _ a u hE hS => iff hE <| wp_skip ?_
 refine rgp hE hS [pu, pu, rsl 110 112, cl cB32 [112] [], pu, pu, st 101] kp0 (fun _ => kP [(101, some (.blk g 164 #[.int .u32 (rd32 (z.drop 4) 0), .slice none 0 0, v0]))]) (fun _ => ⟨kr (show 4 ≤ z.length ∧ z.length ≤ z.length ∧ z.length ≤ c by omega), kr (show 4 ≤ (z.drop 4).length ∧ (z.drop 4).length ≤ (c - 4) ∧ 0 < (z.drop 4).length by simp only [List.length_drop]; omega), trivial⟩) fun _ a u hE hS => ?_
 refine wp_seq ?_
 refine rg hE hS [pu] (fun _ => kn [(7, .int .i64 8)] [0, 1, 4, 5]) (fun _ => kN [] [103, 110, 101]) fun _ a u hE hS => ?_
 have hS := stp_row0 hS 1 w.heap.size 221 7
 refine wp_block ?_
 refine loop_k hE hS n (fun k x => kd [7] [(7, .int .i64 ((8 + 24 * k : Nat) : Int))]) (fun k x => kN [(101, some (.blk g 164 #[.int .u32 (rd32 (z.drop 4) 0), .slice x.p.a x.n x.p.c, v0])), (1, some (.row w.heap.size 221 7 (.slice x.p.a x.n x.p.c) x.n x.xs))] [103, 110]) (fun k (x : Lx Unit) => x.n = k ∧ x.xs = (parts4 repB 24 k (z.drop 8)).flatMap Rep.cells) ⟨pay0, 0, [], ()⟩ (⟨rfl, by simp [parts4]⟩) ?_
 intro k x a u hkk hI hE hS K hK
 obtain ⟨hk1, hk2⟩ := hI
 obtain ⟨xp, xn, xs, _⟩ := x
 simp only at hk1 hk2
 by_cases hlt : k < n
 ·skip
  have hk8 : (8 + 24 * k) + 24 ≤ z.length := by omega
  refine wp_seq ?_
  refine dgp hE hS [pu, pu, pu, pe (.bool true), pu, pu, pu, pu, ld 101, pu, pu, ld 103, pe (.int .i64 (n : Nat)), pe (.bool true), pu] (fun _ => kp [(43, .bool true)]) kP0 (fun _ => ⟨kr (cbV (dtV (show ((8 + 24 * k : Nat) : Int) < ((z.length : Nat) : Int) by omega))), kr (ciV (wiV ((n : Nat) : Int) (by omega))), kr (cbV (dtV (show ((xn : Nat) : Int) < ((n : Nat) : Int) by omega))), trivial⟩) fun _ a u hE hS => ift hE <| wp_skip ?_
  refine wp_seq ?_
  refine wp_block ?_
  refine rg hE hS [nw 104] (fun p10 => kp [(8, pt (p10 0).g 0)]) (fun p10 => kP [(104, some (.blk (p10 0).g 221 #[.int .u32 0, .int .u8 0, .int .u32 0, .int .u32 0, .int .u32 0, .int .u32 0, .int .u32 0]))]) fun p10 a u hE hS => ?_
  refine wp_seq ?_
  refine rgp hE hS [pu, pu, rsl 110 113, cu 109 [113] [104] (fun _ => .nilIface) (fun _ => [some (.blk (p10 0).g 221 (repB (z.drop (8 + 24 * k))).cells.toArray)]), pu] (fun _ => kp [(9, .nilIface)]) (fun _ => kP [(104, some (.blk (p10 0).g 221 ((repB (z.drop (8 + 24 * k))).cells.toArray)))]) (fun p11 => ⟨kr (show (8 + 24 * k) ≤ z.length ∧ z.length ≤ z.length ∧ z.length ≤ c by omega), kr (cu_urep (w0 := w) (olds := (· = g)) (D := D) 113 104 (p11 2).g (p11 2).c ((z.drop (8 + 24 * k)).length) ((c - (8 + 24 * k))) (p10 0).g rfl (by simp only [List.length_drop, List.length_take]; omega) (by simp only [List.length_drop, List.length_take]; omega)), trivial⟩) fun _ a u hE hS => ?_
  refine rg hE hS [pu, pu] (fun _ => kp [(51, .bool false)]) kP0 fun _ a u hE hS => iff hE <| wp_skip ?_
  refine dgE hE hS [pu, pu, pu, pu, ld 101, ld 104, nw 92, ap 1 [92], pu, pu, st 101] kp0 (fun p13 => kP [(101, some (.blk g 164 #[.int .u32 (rd32 (z.drop 4) 0), .slice (p13 7).a (xn + 1) (p13 7).c, v0])), (1, some (.row w.heap.size 221 7 (.slice (p13 7).a (xn + 1) (p13 7).c) (xn + 1) (xs ++ (repB (z.drop (8 + 24 * k))).cells)))]) (fun _ => ⟨kr (show w.heap.size ≤ w.heap.size ∧ (xn + 1) * 28 ≤ 140737488355328 ∧ ∀ u ∈ (repB (z.drop (8 + 24 * k))).cells, u.oneCell' = true from ⟨Nat.le_refl _, by omega, by intro u hu; simp [Rep.cells] at hu; rcases hu with rfl | rfl | rfl | rfl | rfl | rfl | rfl <;> rfl⟩), trivial⟩) fun p13 a u hE hS => ?_
  refine rgE hE hS [pu, pe (.int .i64 ((8 + 24 * (k + 1) : Nat) : Int)), pu] (fun _ => kp [(7, .int .i64 (8 + 24 * (k + 1) : Nat))]) kP0 (fun _ => ⟨kr (ciV (show IntKind.i64.wrap (((8 + 24 * k : Nat) : Int) + (24 : Int)) = ((8 + 24 * (k + 1) : Nat) : Int) from by rw [wiV _ (by omega)]; omega)), trivial⟩) fun _ a u hE hS => ?_
  have hrb : repB (z.drop (8 + 24 * k)) = repB ((z.drop 8).drop (24 * k)) := by rw [List.drop_drop]
  exact hK ⟨(p13 7), xn + 1, xs ++ (repB (z.drop (8 + 24 * k))).cells, ()⟩ a u _ _ hlt ⟨congrArg (· + 1) hk1, by show xs ++ _ = _; rw [hk2, parts4_succ, List.flatMap_append, hrb]; simp⟩ hE hS (by kernel_rfl)
 ·obtain rfl : n = k := by omega
  by_cases he : 8 + 24 * n < z.length
  ·skip
   refine wp_seq ?_
   refine dgp hE hS [pu, pu, pu, pe (.bool true), pu, pu, pu, pu, ld 101, pu, pu, ld 103, pe (.int .i64 (n : Nat)), pe (.bool false), pu] (fun _ => kp [(43, .bool false)]) kP0 (fun _ => ⟨kr (cbV (dtV (show ((8 + 24 * n : Nat) : Int) < ((z.length : Nat) : Int) by omega))), kr (ciV (wiV ((n : Nat) : Int) (by omega))), kr (cbV (dfV (show ¬ (((xn : Nat) : Int) < ((n : Nat) : Int)) by omega))), trivial⟩) fun _ a u hE hS => iff hE ?_
   refine wp_exit ?_
   refine rgp hE hS [pu, pu, pu, pu, pu, ld 101, pu, pe (.int .i64 ((xn * 24 : Nat) : Int)), pe (.int .i64 ((8 + xn * 24 : Nat) : Int)), rsl 110 114, pu, pu, st 101] kp0 (fun p16 => kP [(114, some (.ry D ((some ⟨(p16 9).g, (p16 9).c, none⟩)) (z.drop (8 + xn * 24)))), (101, some (.blk g 164 #[.int .u32 (rd32 (z.drop 4) 0), .slice xp.a xn xp.c, sv (p16 9).g (p16 9).c (z.drop (8 + xn * 24)).length (c - (8 + xn * 24))]))]) (fun _ => ⟨kr (ciV (show IntKind.i64.wrap (((xn : Nat) : Int) * (24 : Int)) = ((xn * 24 : Nat) : Int) from by rw [wiV _ (by omega)]; omega)), kr (ciV (show IntKind.i64.wrap ((8 : Int) + ((xn * 24 : Nat) : Int)) = ((8 + xn * 24 : Nat) : Int) from by rw [wiV _ (by omega)]; omega)), kr (show (8 + xn * 24) ≤ z.length ∧ z.length ≤ z.length ∧ z.length ≤ c by omega), trivial⟩) fun p16 a u hE hS => ?_
   refine wp_seq ?_
   refine dgp hE hS [pu, pu, pu, ld 101, pu, pe (.int .u8 (n : Nat)), pu, ld 103, pe (.bool false)] (fun _ => kp [(83, .bool false)]) kP0 (fun _ => ⟨kr (cu8 n xn hk1 hn31), kr (cbV (ne_self n)), trivial⟩) fun _ a u hE hS => iff hE <| wp_skip ?_
   refine rg hE hS [pu] kp0 kP0 fun _ a u hE hS => ?_
   refine wp_ret ?_
   have hrow := pcR (base := w.heap.size) (e := 221) (size := 7) (v := .slice xp.a xn xp.c) (n := xn) (xs := xs) hS 1
   have hbl := pcB (g := g) (T := 164) (cs := #[.int .u32 (rd32 (z.drop 4) 0), .slice xp.a xn xp.c, .slice (some ⟨(p16 9).g, (p16 9).c, none⟩) (z.drop (8 + xn * 24)).length (c - (8 + xn * 24))]) hS 101
   subst hk1
   have hg := hS.grownBy (some g) (fun _ e => by rw [e])
   have hE2 : ((z.drop 4).drop 4).drop (24 * xn) = z.drop (8 + 24 * xn) := by simp only [List.drop_drop] <;> congr 1 <;> omega
   have hrd : RdB (· = g) w D (some ⟨(p16 9).g, (p16 9).c, none⟩) (z.drop (8 + xn * 24)) ∧ Byts (z.drop (8 + xn * 24)) := hS.pure_ 114 (by kernel_rfl)
   have hrow3 := hrd.1.1.kept hD hg
   rw [show 8 + xn * 24 = 8 + 24 * xn by omega] at hrow3 hbl
   rw [← hE2] at hrow3 hbl
   have hE3 : z.drop 8 = (z.drop 4).drop 4 := by rw [List.drop_drop]
   rw [hE3] at hk2
   exact ret1 hE Tryz.results138 .nilIface ⟨rfl, hg, xp.a, xp.c, _, hbl, by rw [← hk2]; exact InRows.of_own hrow, ⟨_, _, rfl, hrow3⟩⟩
  ·skip
   refine wp_seq ?_
   refine dgp hE hS [pu, pu, pu, pe (.bool false), pu, sk, sk, sk, sk, sk, sk, sk, sk, sk, pu] (fun _ => kp [(43, .bool false)]) kP0 (fun _ => ⟨kr (cbV (dfV (show ¬ (((8 + 24 * n : Nat) : Int) < ((z.length : Nat) : Int)) by omega))), trivial⟩) fun _ a u hE hS => iff hE ?_
   refine wp_exit ?_
   refine rgp hE hS [pu, pu, pu, pu, pu, ld 101, pu, pe (.int .i64 ((xn * 24 : Nat) : Int)), pe (.int .i64 ((8 + xn * 24 : Nat) : Int)), rsl 110 114, pu, pu, st 101] kp0 (fun p20 => kP [(114, some (.ry D ((some ⟨(p20 9).g, (p20 9).c, none⟩)) (z.drop (8 + xn * 24)))), (101, some (.blk g 164 #[.int .u32 (rd32 (z.drop 4) 0), .slice xp.a xn xp.c, sv (p20 9).g (p20 9).c (z.drop (8 + xn * 24)).length (c - (8 + xn * 24))]))]) (fun _ => ⟨kr (ciV (show IntKind.i64.wrap (((xn : Nat) : Int) * (24 : Int)) = ((xn * 24 : Nat) : Int) from by rw [wiV _ (by omega)]; omega)), kr (ciV (show IntKind.i64.wrap ((8 : Int) + ((xn * 24 : Nat) : Int)) = ((8 + xn * 24 : Nat) : Int) from by rw [wiV _ (by omega)]; omega)), kr (show (8 + xn * 24) ≤ z.length ∧ z.length ≤ z.length ∧ z.length ≤ c by omega), trivial⟩) fun p20 a u hE hS => ?_
   refine wp_seq ?_
   refine dgp hE hS [pu, pu, pu, ld 101, pu, pe (.int .u8 (n : Nat)), pu, ld 103, pe (.bool false)] (fun _ => kp [(83, .bool false)]) kP0 (fun _ => ⟨kr (cu8 n xn hk1 hn31), kr (cbV (ne_self n)), trivial⟩) fun _ a u hE hS => iff hE <| wp_skip ?_
   refine rg hE hS [pu] kp0 kP0 fun _ a u hE hS => ?_
   refine wp_ret ?_
   have hrow := pcR (base := w.heap.size) (e := 221) (size := 7) (v := .slice xp.a xn xp.c) (n := xn) (xs := xs) hS 1
   have hbl := pcB (g := g) (T := 164) (cs := #[.int .u32 (rd32 (z.drop 4) 0), .slice xp.a xn xp.c, .slice (some ⟨(p20 9).g, (p20 9).c, none⟩) (z.drop (8 + xn * 24)).length (c - (8 + xn * 24))]) hS 101
   subst hk1
   have hg := hS.grownBy (some g) (fun _ e => by rw [e])
   have hE2 : ((z.drop 4).drop 4).drop (24 * xn) = z.drop (8 + 24 * xn) := by simp only [List.drop_drop] <;> congr 1 <;> omega
   have hrd : RdB (· = g) w D (some ⟨(p20 9).g, (p20 9).c, none⟩) (z.drop (8 + xn * 24)) ∧ Byts (z.drop (8 + xn * 24)) := hS.pure_ 114 (by kernel_rfl)
   have hrow3 := hrd.1.1.kept hD hg
   rw [show 8 + xn * 24 = 8 + 24 * xn by omega] at hrow3 hbl
   rw [← hE2] at hrow3 hbl
   have hE3 : z.drop 8 = (z.drop 4).drop 4 := by rw [List.drop_drop]
   rw [hE3] at hk2
   exact ret1 hE Tryz.results138 .nilIface ⟨rfl, hg, xp.a, xp.c, _, hbl, by rw [← hk2]; exact InRows.of_own hrow, ⟨_, _, rfl, hrow3⟩⟩

end Go.Proofs.YtmmfpgoodfgkbaaGreatDoor
