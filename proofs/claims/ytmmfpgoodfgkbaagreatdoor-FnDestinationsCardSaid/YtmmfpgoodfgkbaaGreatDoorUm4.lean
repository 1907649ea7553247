/-
  THE WALKS of the package's reading of goodbyes and descriptions. Condition: the bytes lie in memory, apart from the packet's block; the header says the kind; the reference reads them.
-/
import Derived.Test.YtmmfpgoodfgkbaaGreatDoorUmK
namespace Go.Proofs.YtmmfpgoodfgkbaaGreatDoor
open Go Go.RowKit
set_option maxHeartbeats 4000000
set_option maxRecDepth 100000
set_option linter.unusedVariables false
set_option linter.unusedSimpArgs false

theorem rem4k (n : Nat) : ((n : Nat) : Int).tmod 4 = ((n % 4 : Nat) : Int) := by
 rw [Int.tmod_eq_emod_of_nonneg (by omega)]
 omega
theorem pad_any (n : Nat) (w : World) : Calls Tryz.prog 100 #[.int .i64 (n : Nat)] w fun e w' => e = .returned (.int .i64 ((up4 n - n : Nat) : Int)) ∧ Below w.heap.size w w' := by
 refine go_in Tryz.func100 rfl Tryz.ntmps100 [.int .i64 (n : Nat)] fun a hE => ?_
 have hS := stp_in w
 refine rg hE hS [pu] (fun _ => kp [(2, .int .i64 0)]) kP0 fun _ a u hE hS => ?_
 refine wp_seq ?_
 by_cases h0 : n % 4 = 0
 ·skip
  refine rgp hE hS [pu, pe (.int .i64 ((n % 4 : Nat) : Int)), pe (.bool true)] (fun _ => kp [(5, .bool true)]) kP0 (fun _ => ⟨kr (ciV (rem4k n)), kr (cbV (ebV (show (((n % 4 : Nat) : Int) : Int) = 0 by omega))), trivial⟩) fun _ a u hE hS => ift hE ?_
  refine rg hE hS [pu] kp0 kP0 fun _ a u hE hS => ?_
  refine wp_ret (thR ?_)
  exact ret1 hE Tryz.results100 (.int .i64 0) ⟨by rw [show up4 n - n = 0 by unfold up4; omega]; rfl, hS.below⟩
 refine rgp hE hS [pu, pe (.int .i64 ((n % 4 : Nat) : Int)), pe (.bool false)] (fun _ => kp [(5, .bool false)]) kP0 (fun _ => ⟨kr (ciV (rem4k n)), kr (cbV (nbV (show (((n % 4 : Nat) : Int) : Int) ≠ 0 by omega))), trivial⟩) fun _ a u hE hS => iff hE <| wp_skip ?_
 refine rgp hE hS [pu, pe (.int .i64 ((n % 4 : Nat) : Int)), pe (.int .i64 ((up4 n - n : Nat) : Int)), pu] (fun _ => kp [(2, .int .i64 ((up4 n - n : Nat) : Int))]) kP0 (fun _ => ⟨kr (ciV (rem4k n)), kr (ciV (show IntKind.i64.wrap (4 - ((n % 4 : Nat) : Int)) = ((up4 n - n : Nat) : Int) from (wiV _ (by omega)).trans (by unfold up4; omega))), trivial⟩) fun _ a u hE hS => ?_
 refine wp_ret ?_
 exact ret1 hE Tryz.results100 (.int .i64 ((up4 n - n : Nat) : Int)) ⟨rfl, hS.below⟩

theorem elemU32 : Elem Tryz.prog 27 22 (.int .u32 0) 1 4 := ⟨Tryz.underlying27, by kernel_rfl, rfl, by omega, by omega⟩
theorem made_one (v : Value) (n : Nat) : madeCells #[v] n = (List.replicate n v).toArray := by
 have h1 : ∀ i, (#[v])[i % (#[v] : Array Value).size]! = v := fun i => by
  rw [show i % (#[v] : Array Value).size = 0 from Nat.mod_one i]; rfl
 unfold madeCells
 rw [show (fun i => (#[v])[i % (#[v] : Array Value).size]!) = fun _ => v from funext h1]
 apply Array.ext'
 simp [List.map_const']
def byeC (z : List Int) (n k : Nat) : Array Value := ((parts4 srcB 4 k (z.drop 4)).flatMap u32c ++ List.replicate (n - k) (Value.int .u32 0)).toArray
theorem u32c_len (l : List Int) : (l.flatMap u32c).length = l.length := by
 induction l with
 | nil => rfl
 | cons x l ih => rw [List.flatMap_cons, List.length_append, ih, List.length_cons]; simp [u32c]; omega
theorem byeC_zero (z : List Int) (n : Nat) : madeCells (Value.int .u32 0).cells (n * 1) = byeC z n 0 := by
 rw [Nat.mul_one]
 show madeCells #[.int .u32 0] n = _
 rw [made_one]
 simp [byeC, parts4]
theorem byeC_len (z : List Int) {n k : Nat} (h : k ≤ n) : (byeC z n k).size = n := by
 unfold byeC
 rw [List.size_toArray, List.length_append, u32c_len, parts4_len, List.length_replicate]
 omega
theorem byeC_size (z : List Int) (n : Nat) : (byeC z n n).size = n := byeC_len z (Nat.le_refl _)
theorem byeC_all (z : List Int) (n : Nat) : (byeC z n n).toList = (parts4 srcB 4 n (z.drop 4)).flatMap u32c := by simp [byeC]
theorem byeC_next (z : List Int) {n k : Nat} (hk : k < n) : 0 + k * 1 + 1 ≤ (byeC z n k).size ∧ (byeC z n k).setIfInBounds (0 + k * 1) (.int .u32 (rd32 (z.drop (4 + k * 4)) 0)) = byeC z n (k + 1) := by
 have hl : ((parts4 srcB 4 k (z.drop 4)).flatMap u32c).length = k := by rw [u32c_len, parts4_len]
 refine ⟨by rw [byeC_len z (by omega)]; omega, ?_⟩
 rw [Nat.zero_add, Nat.mul_one]
 unfold byeC
 rw [set_next hl hk, parts4_succ, List.flatMap_append]
 congr 2
 unfold srcB
 rw [List.drop_drop, show 4 + 4 * k = 4 + k * 4 by omega]
 rfl
theorem ge_new {g : Nat} {w0 w : World} {L : PL} (k : Nat) {g4 : Nat} {T T2 : TypeId} {cs cs2 : Array Value} (hS : Stp (· = g) w0 w (lookM (den (· = g) w0 L))) (hne : k ≠ 101) (h : lookP L k = some (.blk g4 T cs)) (h2 : lookP L 101 = some (.blk g T2 cs2)) : w0.heap.size ≤ g4 :=
 (hS.lt k _ (by rw [lookM_den, h]; rfl) g4 rfl).2.resolve_right fun e => hS.apart k 101 _ _ (by rw [lookM_den, h]; rfl) (by rw [lookM_den, h2]; rfl) hne g4 rfl e
theorem um_4 (g b o c : Nat) (z : List Int) (D : Nat → Prop) (w : World) {n L : Nat} (hd : Hd z false n 203 L) (hb : Blk w g 167 #[.slice none 0 0, .string ByteArray.empty]) (hr : RowD w D (some ⟨b, o, none⟩) z) (hD : ∀ x, D x → x < w.heap.size ∧ x ≠ g) (hc : z.length ≤ c) (hzl : z.length = 4 * (L + 1)) (h4n : 4 * n ≤ (z.drop 4).length) (t : ByteArray) (hT : ByeT ((z.drop 4).drop (4 * n)) t) :
  Calls Tryz.prog 146 #[.pointer (some ⟨g, 0, none⟩), .slice (some ⟨b, o, none⟩) z.length c] w fun e w' => e = .returned .nilIface ∧ w.grownBy w' (some g) ∧ ∃ A c2, Blk w' g 167 #[.slice A n c2, .string t] ∧ InRows w' w.heap.size w'.heap.size 1 A n ((parts4 srcB 4 n (z.drop 4)).flatMap u32c) := by
 have hld : (z.drop 4).length = z.length - 4 := List.length_drop
 refine go_in Tryz.func146 rfl Tryz.ntmps146 [pt g 0, sv b o z.length c] fun a hE => ?_
 have hS := stp_blk1 101 hb
 have hS := stp_ry1 hS 110 hr (fun x hx => ⟨(hD x hx).1, (hD x hx).2⟩) hd.byts
 have h4 := hd.len
 have hL : L ≤ 65535 := by have h1 := hd.ln; have h2 := rd16_lt hd.byts 2; omega
 have hn31 := hd.cnt31
 refine rg hE hS [pu] (fun _ => kp [(4, .nilIface)]) kP0 fun _ a u hE hS => ?_
 refine rg hE hS [nw 103] (fun p2 => kp [(5, pt (p2 0).g 0)]) (fun p2 => kP [(103, some (.blk (p2 0).g 83 #[.bool false, .int .u8 0, .int .u8 0, .int .u16 0]))]) fun p2 a u hE hS => ?_
 refine wp_seq ?_
 refine rgp hE hS [pu, cu 71 [110] [103] (fun _ => .nilIface) (fun _ => [some (.blk (p2 0).g 83 #[.bool false, .int .u8 (n : Nat), .int .u8 203, .int .u16 (L : Nat)])]), pu] (fun _ => kp [(6, .nilIface)]) (fun _ => kP [(103, some (.blk (p2 0).g 83 #[.bool false, .int .u8 (n : Nat), .int .u8 203, .int .u16 (L : Nat)]))]) (fun _ => ⟨kr (cu_hum (w0 := w) (olds := (· = g)) hd (D := D) 110 103 b o z.length c (p2 0).g rfl hc), trivial⟩) fun _ a u hE hS => ?_
 refine rg hE hS [pu, pu] (fun _ => kp [(15, .bool false)]) kP0 fun _ a u hE hS => iff hE <| wp_skip ?_
 refine wp_seq ?_
 refine rg hE hS [pu, ld 103, pu] (fun _ => kp [(19, .bool false)]) kP0 fun _ a u hE hS => iff hE <| wp_skip ?_
 refine wp_seq ?_
 refine rgp hE hS [pu, pu, cu 100 [] [] (fun _ => .int .i64 ((up4 z.length - z.length : Nat) : Int)) (fun _ => []), pe (.bool false)] (fun _ => kp [(24, .bool false)]) kP0 (fun _ => ⟨kr (cu_cpt (olds := (· = g)) (w0 := w) (pad_any z.length)), kr (cbV (show (((up4 z.length - z.length : Nat) : Int) != 0) = false by rw [show up4 z.length - z.length = 0 by unfold up4; omega]; rfl)), trivial⟩) fun _ a u hE hS => iff hE <| wp_skip ?_
 refine rgp hE hS [pu, pu, ld 103, mks .u8 104 elemU32 n (byeC z n 0), pu, pu, st 101] kp0 (fun p7 => kP [(101, some (.blk g 167 #[sv (p7 3).g 0 n n, .string ByteArray.empty])), (104, some (.blk (p7 3).g 22 (byeC z n 0)))]) (fun _ => ⟨kr (show n * 4 ≤ 140737488355328 ∧ n ≤ 140737488355328 ∧ madeCells (Value.int .u32 0).cells (n * 1) = byeC z n 0 from ⟨by omega, by omega, byeC_zero z n⟩), trivial⟩) fun p7 a u hE hS => ?_
 refine rgp hE hS [pu, ld 103, pe (.int .u8 ((n * 4 : Nat) : Int)), pe (.int .u8 ((4 + n * 4 : Nat) : Int)), pe (.int .i64 ((4 + n * 4 : Nat) : Int)), pu] (fun _ => kp [(7, .int .i64 ((4 + n * 4 : Nat) : Int))]) kP0 (fun _ => ⟨kr (congrArg (Value.int .u8) (show IntKind.u8.wrap (((n : Nat) : Int) * 4) = ((n * 4 : Nat) : Int) by rw [IntKind.wrap_u8]; omega)), kr (congrArg (Value.int .u8) (show IntKind.u8.wrap (4 + ((n * 4 : Nat) : Int)) = ((4 + n * 4 : Nat) : Int) by rw [IntKind.wrap_u8]; omega)), kr (ciV (wiV ((4 + n * 4 : Nat) : Int) (by omega))), trivial⟩) fun _ a u hE hS => ?_
 refine wp_seq ?_
 refine rgp hE hS [pu, pu, pu, pe (.bool false)] (fun _ => kp [(40, .bool false)]) kP0 (fun _ => ⟨kr (cbV (dfV (show ¬ (((4 + n * 4 : Nat) : Int) > ((z.length : Nat) : Int)) by omega))), trivial⟩) fun _ a u hE hS => iff hE <| wp_skip ?_
 refine wp_seq ?_
 refine rg hE hS [pu] (fun _ => kn [(8, .int .i64 ((0 : Nat) : Int))] [0, 1, 4, 5, 7]) (fun _ => kN [] [101, 104, 103, 110]) fun _ a u hE hS => wp_block ?_
 refine loop_k hE hS n (fun k x => kd [8] [(8, .int .i64 (k : Nat))]) (fun k x => kN [(104, some (.blk (p7 3).g 22 (byeC z n k)))] [101, 103, 110]) (fun k (x : Unit) => True) () (trivial) ?_
 intro k x a u hkk hI hE hS K hK
 obtain hk1 := hI
 by_cases hlt : k < n
 ·skip
  refine wp_seq ?_
  refine rgp hE hS [pu, pu, ld 103, pe (.int .i64 ((n : Nat) : Int)), pe (.bool true)] (fun _ => kp [(46, .bool true)]) kP0 (fun _ => ⟨kr (ciV (wiV ((n : Nat) : Int) (by omega))), kr (cbV (dtV (show ((k : Nat) : Int) < ((n : Nat) : Int) by omega))), trivial⟩) fun _ a u hE hS => ift hE <| wp_skip ?_
  refine wp_seq ?_
  refine wp_block ?_
  refine rgp hE hS [pu, pe (.int .i64 ((k * 4 : Nat) : Int)), pe (.int .i64 ((4 + k * 4 : Nat) : Int)), pu] (fun _ => kp [(9, .int .i64 (4 + k * 4 : Nat))]) kP0 (fun _ => ⟨kr (ciV (show IntKind.i64.wrap (((k : Nat) : Int) * (4 : Int)) = ((k * 4 : Nat) : Int) from by rw [wiV _ (by omega)]; omega)), kr (ciV (show IntKind.i64.wrap ((4 : Int) + ((k * 4 : Nat) : Int)) = ((4 + k * 4 : Nat) : Int) from by rw [wiV _ (by omega)]; omega)), trivial⟩) fun _ a u hE hS => ?_
  refine dgE hE hS [pu, pu, pu, ld 101, pu, pu, pu, rsl 110 112, cl cB32 [112] [], ix, sx 104 (byeC z n (k + 1))] kp0 (fun _ => kP [(104, some (.blk (p7 3).g 22 ((byeC z n (k + 1)))))]) (fun _ => ⟨kr (show (4 + k * 4) ≤ z.length ∧ z.length ≤ z.length ∧ z.length ≤ c by omega), kr (show 4 ≤ (z.drop (4 + k * 4)).length ∧ (z.drop (4 + k * 4)).length ≤ (c - (4 + k * 4)) ∧ 0 < (z.drop (4 + k * 4)).length by simp only [List.length_drop]; omega), kr (show k < n from hlt), kr (show 0 + k * 1 + 1 ≤ (byeC z n k).size ∧ (byeC z n k).setIfInBounds (0 + k * 1) (.int .u32 (rd32 (z.drop (4 + k * 4)) 0)) = byeC z n (k + 1) from byeC_next z hlt), trivial⟩) fun _ a u hE hS => ?_
  refine rgE hE hS [pu, pe (.int .i64 ((k + 1 : Nat) : Int)), pu] (fun _ => kp [(8, .int .i64 (k + 1 : Nat))]) kP0 (fun _ => ⟨kr (ciV (show IntKind.i64.wrap (((k : Nat) : Int) + (1 : Int)) = ((k + 1 : Nat) : Int) from by rw [wiV _ (by omega)]; omega)), trivial⟩) fun _ a u hE hS => ?_
  exact hK () a u _ _ hlt trivial hE hS (by kernel_rfl)
 ·have hNk : n = k := by omega
  refine wp_seq ?_
  refine rgp hE hS [pu, pu, ld 103, pe (.int .i64 ((n : Nat) : Int)), pe (.bool false)] (fun _ => kp [(46, .bool false)]) kP0 (fun _ => ⟨kr (ciV (wiV ((n : Nat) : Int) (by omega))), kr (cbV (dfV (show ¬ (((k : Nat) : Int) < ((n : Nat) : Int)) by omega))), trivial⟩) fun _ a u hE hS => iff hE ?_
  refine wp_exit ?_
  refine wp_seq ?_
  rcases hT with ⟨hz0, rfl⟩ | ⟨r, hr0, hr1, rfl⟩
  ·have hlz : ((z.drop 4).drop (4 * n)).length = z.length - (4 + n * 4) := by rw [List.drop_drop, List.length_drop]; omega
   refine rgp hE hS [pu, pu, pu, pe (.bool false)] (fun _ => kp [(65, .bool false)]) kP0 (fun _ => ⟨kr (cbV (dfV (show ¬ (((4 + n * 4 : Nat) : Int) < ((z.length : Nat) : Int)) by omega))), trivial⟩) fun _ a u hE hS => iff hE <| wp_skip ?_
   refine rg hE hS [pu] kp0 kP0 fun _ a u hE hS => ?_
   refine wp_ret ?_
   have hrow := blk_rows (B := w.heap.size) (size := 1) (n := n) (pcB (g := (p7 3).g) (T := 22) (cs := byeC z n k) hS 104) (ge_new (g := g) (T := 22) (cs := byeC z n k) (T2 := 167) (cs2 := #[.slice (some ⟨(p7 3).g, 0, none⟩) n n, .string ByteArray.empty]) 104 hS (by decide) (by kernel_rfl) (by kernel_rfl)) (by rw [← hNk, byeC_size, Nat.mul_one])
   rw [← hNk, byeC_all] at hrow
   have hblk := pcB (g := g) (T := 167) (cs := #[.slice (some ⟨(p7 3).g, 0, none⟩) n n, .string ByteArray.empty]) hS 101
   exact ret1 hE Tryz.results146 .nilIface ⟨rfl, hS.grownBy (some g) (fun _ e => by rw [e]), some ⟨(p7 3).g, 0, none⟩, n, hblk, hrow⟩
  have hlz : ((z.drop 4).drop (4 * n)).length = z.length - (4 + n * 4) := by rw [List.drop_drop, List.length_drop]; omega
  have hgz : gi z (4 + n * 4) = (r : Int) := by rw [← hr0, List.drop_drop, gi_drop]; congr 1; omega
  have hg256 := hd.byts.gi (4 + n * 4)
  refine rgp hE hS [pu, pu, pu, pe (.bool true)] (fun _ => kp [(65, .bool true)]) kP0 (fun _ => ⟨kr (cbV (dtV (show ((4 + n * 4 : Nat) : Int) < ((z.length : Nat) : Int) by omega))), trivial⟩) fun _ a u hE hS => ift hE ?_
  refine rgp hE hS [pu, pu, ix, rb 110 (4 + n * 4), pe (.int .i64 (r : Nat)), pu] (fun _ => kp [(10, .int .i64 (r : Nat))]) kP0 (fun _ => ⟨kr (show (4 + n * 4) < z.length by omega), kr (show (4 + n * 4) < (z).length by omega), kr (ciV (show IntKind.i64.wrap (gi z (4 + n * 4)) = ((r : Nat) : Int) from (wiV _ (by omega)).trans (by omega))), trivial⟩) fun _ a u hE hS => ?_
  refine rgp hE hS [pu, pe (.int .i64 ((4 + n * 4 + 1 : Nat) : Int)), pu, pe (.int .i64 ((4 + n * 4 + 1 + r : Nat) : Int)), pu] (fun _ => kp [(11, .int .i64 (4 + n * 4 + 1 + r : Nat))]) kP0 (fun _ => ⟨kr (ciV (show IntKind.i64.wrap (((4 + n * 4 : Nat) : Int) + (1 : Int)) = ((4 + n * 4 + 1 : Nat) : Int) from by rw [wiV _ (by omega)]; omega)), kr (ciV (show IntKind.i64.wrap (((4 + n * 4 + 1 : Nat) : Int) + ((r : Nat) : Int)) = ((4 + n * 4 + 1 + r : Nat) : Int) from by rw [wiV _ (by omega)]; omega)), trivial⟩) fun _ a u hE hS => ?_
  refine wp_seq ?_
  refine rgp hE hS [pu, pu, pu, pe (.bool false)] (fun _ => kp [(78, .bool false)]) kP0 (fun _ => ⟨kr (cbV (dfV (show ¬ (((4 + n * 4 + 1 + r : Nat) : Int) > ((z.length : Nat) : Int)) by omega))), trivial⟩) fun _ a u hE hS => iff hE <| wp_skip ?_
  refine rgE hE hS [pu, pu, pu, pe (.int .i64 ((4 + n * 4 + 1 : Nat) : Int)), pu, rsl 110 112, rt 112, pu, pu, st 101] kp0 (fun _ => kP [(101, some (.blk g 167 #[sv (p7 3).g 0 n n, .string (strB ((z.take (4 + n * 4 + 1 + r)).drop (4 + n * 4 + 1)))]))]) (fun _ => ⟨kr (ciV (show IntKind.i64.wrap (((4 + n * 4 : Nat) : Int) + (1 : Int)) = ((4 + n * 4 + 1 : Nat) : Int) from by rw [wiV _ (by omega)]; omega)), kr (show (4 + n * 4 + 1) ≤ (4 + n * 4 + 1 + r) ∧ (4 + n * 4 + 1 + r) ≤ z.length ∧ z.length ≤ c by omega), trivial⟩) fun _ a u hE hS => ?_
  refine rg hE hS [pu] kp0 kP0 fun _ a u hE hS => ?_
  refine wp_ret ?_
  have hrow := blk_rows (B := w.heap.size) (size := 1) (n := n) (pcB (g := (p7 3).g) (T := 22) (cs := byeC z n k) hS 104) (ge_new (g := g) (T := 22) (cs := byeC z n k) (T2 := 167) (cs2 := #[.slice (some ⟨(p7 3).g, 0, none⟩) n n, .string (strB ((z.take (4 + n * 4 + 1 + r)).drop (4 + n * 4 + 1)))]) 104 hS (by decide) (by kernel_rfl) (by kernel_rfl)) (by rw [← hNk, byeC_size, Nat.mul_one])
  rw [← hNk, byeC_all] at hrow
  have hblk := pcB (g := g) (T := 167) (cs := #[.slice (some ⟨(p7 3).g, 0, none⟩) n n, .string (strB ((z.take (4 + n * 4 + 1 + r)).drop (4 + n * 4 + 1)))]) hS 101
  have htx : strB ((z.take (4 + n * 4 + 1 + r)).drop (4 + n * 4 + 1)) = strB ((((z.drop 4).drop (4 * n)).take (1 + r)).drop 1) := by rw [List.drop_drop, cut_cut, show 4 + 4 * n = 4 + n * 4 by omega, Nat.add_assoc (4 + n * 4) 1 r]
  rw [htx] at hblk
  exact ret1 hE Tryz.results146 .nilIface ⟨rfl, hS.grownBy (some g) (fun _ e => by rw [e]), some ⟨(p7 3).g, 0, none⟩, n, hblk, hrow⟩

end Go.Proofs.YtmmfpgoodfgkbaaGreatDoor
