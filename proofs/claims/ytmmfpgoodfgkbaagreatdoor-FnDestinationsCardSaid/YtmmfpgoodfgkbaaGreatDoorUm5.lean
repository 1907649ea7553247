/-
  THE WALKS of the package's reading of descriptions. Condition: the bytes lie in memory, apart from the packet's block; the header says the kind; the reference reads them.
-/
import Derived.Test.YtmmfpgoodfgkbaaGreatDoorUm4
namespace Go.Proofs.YtmmfpgoodfgkbaaGreatDoor
open Go Go.RowKit
set_option maxHeartbeats 4000000
set_option maxRecDepth 100000
set_option linter.unusedVariables false
set_option linter.unusedSimpArgs false

def itSum (l : List Item) : Nat := (l.map fun x => 2 + (sb x.text).length).sum
theorem itSum_snoc (l : List Item) (x : Item) : itSum (l ++ [x]) = itSum l + (2 + (sb x.text).length) := by simp [itSum]
theorem itSum_take_le (l : List Item) (k : Nat) : itSum (l.take k) ≤ itSum l := by
 have : itSum l = itSum (l.take k) + itSum (l.drop k) := by
  unfold itSum
  rw [← List.sum_append, ← List.map_append, List.take_append_drop]
 omega
theorem itAt_len {y : List Int} {k : Nat} (h : itOff y (k + 1) ≤ y.length) : (sb (itAt y k).text).length = (gi y (itOff y k + 1)).toNat := by
 unfold itAt
 simp only
 rw [sb_len, strB_size, List.length_drop, List.length_take]
 have : itOff y (k + 1) = itOff y k + 2 + (gi y (itOff y k + 1)).toNat := rfl
 omega
theorem itSum_off {y : List Int} : ∀ {m : Nat}, (∀ k, k < m → itOff y (k + 1) ≤ y.length) → 4 + itSum (itsN y m) = itOff y m
 | 0, _ => rfl
 | m + 1, h => by
  have ih := itSum_off (y := y) (m := m) fun k hk => h k (by omega)
  rw [itsN_succ, itSum_snoc, itAt_len (h m (by omega))]
  show _ = itOff y m + 2 + (gi y (itOff y m + 1)).toNat
  omega
theorem itAt_cells {y : List Int} {j r : Nat} (hr0 : gi y (itOff y j + 1) = (r : Int)) : (itAt y j).cells.toArray = #[.int .u8 (gi (y.drop (itOff y j)) 0), .string (strB (((y.drop (itOff y j)).take (2 + r)).drop 2))] := by
 have hnx : itOff y (j + 1) = itOff y j + (2 + r) := by
  show itOff y j + 2 + (gi y (itOff y j + 1)).toNat = _
  rw [hr0]
  omega
 rw [cut_cut, gi_drop, ← hnx, Nat.add_zero]
 rfl
theorem itemUm_any (g b o c : Nat) (y : List Int) (D : Nat → Prop) (w : World) (hz : Byts y) (hb : Blk w g 227 #[.int .u8 0, .string ByteArray.empty]) (hr : RowD w D (some ⟨b, o, none⟩) y) (hD : ∀ x, D x → x < w.heap.size ∧ x ≠ g) (hc : y.length ≤ c) (r : Nat) (h2 : 2 + r ≤ y.length) (hr1 : gi y 1 = (r : Int)) :
  Calls Tryz.prog 143 #[.pointer (some ⟨g, 0, none⟩), .slice (some ⟨b, o, none⟩) y.length c] w fun e w' => e = .returned .nilIface ∧ w.grownBy w' (some g) ∧ Blk w' g 227 #[.int .u8 (gi y 0), .string (strB ((y.take (2 + r)).drop 2))] := by
 refine go_in Tryz.func143 rfl Tryz.ntmps143 [pt g 0, sv b o y.length c] fun a hE => ?_
 have hS := stp_blk1 101 hb
 have hS := stp_ry1 hS 110 hr (fun x hx => ⟨(hD x hx).1, (hD x hx).2⟩) hz
 have hg1 := hz.gi 1
 refine rg hE hS [pu] (fun _ => kp [(4, .nilIface)]) kP0 fun _ a u hE hS => ?_
 refine wp_seq ?_
 refine rgp hE hS [pu, pu, pe (.bool false)] (fun _ => kp [(9, .bool false)]) kP0 (fun _ => ⟨kr (cbV (dfV (show ¬ (((y.length : Nat) : Int) < 2) by omega))), trivial⟩) fun _ a u hE hS => iff hE <| wp_skip ?_
 refine rgp hE hS [pu, pu, ix, rb 110 0, pu, pu, st 101] kp0 (fun _ => kP [(101, some (.blk g 227 #[.int .u8 (gi y 0), .string ByteArray.empty]))]) (fun _ => ⟨kr (show 0 < y.length by omega), kr (show 0 < (y).length by omega), trivial⟩) fun _ a u hE hS => ?_
 refine rgp hE hS [pu, ix, rb 110 1, pe (.int .i64 (r : Nat)), pu] (fun _ => kp [(5, .int .i64 (r : Nat))]) kP0 (fun _ => ⟨kr (show 1 < y.length by omega), kr (show 1 < (y).length by omega), kr (ciV (show IntKind.i64.wrap (gi y 1) = ((r : Nat) : Int) from (wiV _ (by omega)).trans (by omega))), trivial⟩) fun _ a u hE hS => ?_
 refine wp_seq ?_
 refine rgp hE hS [pu, pe (.int .i64 ((2 + r : Nat) : Int)), pu, pu, pe (.bool false)] (fun _ => kp [(25, .bool false)]) kP0 (fun _ => ⟨kr (ciV (show IntKind.i64.wrap ((2 : Int) + ((r : Nat) : Int)) = ((2 + r : Nat) : Int) from by rw [wiV _ (by omega)]; omega)), kr (cbV (dfV (show ¬ (((2 + r : Nat) : Int) > ((y.length : Nat) : Int)) by omega))), trivial⟩) fun _ a u hE hS => iff hE <| wp_skip ?_
 refine rgp hE hS [pu, pu, pe (.int .i64 ((2 + r : Nat) : Int)), rsl 110 111, pu] (fun p6 => kp [(6, sv (p6 3).g (p6 3).c ((y.take (2 + r)).drop 2).length (c - 2))]) (fun p6 => kP [(111, some (.ry D ((some ⟨(p6 3).g, (p6 3).c, none⟩)) ((y.take (2 + r)).drop 2)))]) (fun _ => ⟨kr (ciV (show IntKind.i64.wrap ((2 : Int) + ((r : Nat) : Int)) = ((2 + r : Nat) : Int) from by rw [wiV _ (by omega)]; omega)), kr (show 2 ≤ (2 + r) ∧ (2 + r) ≤ y.length ∧ y.length ≤ c by omega), trivial⟩) fun p6 a u hE hS => ?_
 refine rg hE hS [pu, pu, rt 111, pu, pu, st 101] kp0 (fun _ => kP [(101, some (.blk g 227 #[.int .u8 (gi y 0), .string (strB ((y.take (2 + r)).drop 2))]))]) fun _ a u hE hS => ?_
 refine rg hE hS [pu] kp0 kP0 fun _ a u hE hS => ?_
 refine wp_ret ?_
 exact ret1 hE Tryz.results143 .nilIface ⟨rfl, hS.grownBy (some g) (fun _ e => by rw [e]), pcB hS 101⟩

theorem itemLen_any (ty : Int) (s : ByteArray) (w : World) (hs : (sb s).length ≤ 1048576) : Calls Tryz.prog 113 #[.agg #[.int .u8 ty, .string s]] w fun e w' => e = .returned (.int .i64 ((2 + (sb s).length : Nat) : Int)) ∧ Below w.heap.size w w' := by
 refine go_in Tryz.func113 rfl Tryz.ntmps113 [.agg #[.int .u8 ty, .string s]] fun a hE => ?_
 have hS := stp_in w
 refine rg hE hS [nw 1, pu] (fun p1 => kp [(1, pt (p1 0).g 0), (2, .int .i64 0)]) (fun p1 => kP [(1, some (.blk (p1 0).g 227 #[.int .u8 ty, .string s]))]) fun p1 a u hE hS => ?_
 refine rgp hE hS [pu, ld 1, tbs 2, pu, pe (.int .i64 ((2 + (sb s).length : Nat) : Int)), pu] (fun _ => kp [(2, .int .i64 (2 + (sb s).length : Nat))]) kP0 (fun _ => ⟨kr (ciV (show IntKind.i64.wrap ((2 : Int) + (((sb s).length : Nat) : Int)) = ((2 + (sb s).length : Nat) : Int) from by rw [wiV _ (by omega)]; omega)), trivial⟩) fun _ a u hE hS => ?_
 refine wp_ret ?_
 exact ret1 hE Tryz.results113 (.int .i64 ((2 + (sb s).length : Nat) : Int)) ⟨rfl, hS.below⟩

theorem chLen_any (src : Int) (A : Option Addr) (c : Nat) (l : List Item) (w : World) (hr : Reads w w.heap.size 2 A l.length (l.flatMap Item.cells)) (hl : l.length ≤ 1048576) (hs : itSum l ≤ 1048576) : Calls Tryz.prog 101 #[.agg #[.int .u32 src, .slice A (l.length : Nat) c]] w fun e w' => e = .returned (.int .i64 ((up4 (4 + itSum l + 1) : Nat) : Int)) ∧ Below w.heap.size w w' := by
 refine go_in Tryz.func101 rfl Tryz.ntmps101 [.agg #[.int .u32 src, .slice A (l.length : Nat) c]] fun a hE => ?_
 have hS := stp_in w
 refine rg hE hS [nw 1, pu] (fun p1 => kp [(1, pt (p1 0).g 0), (2, .int .i64 0)]) (fun p1 => kP [(1, some (.blk (p1 0).g 224 #[.int .u32 src, .slice A (l.length : Nat) c]))]) fun p1 a u hE hS => ?_
 refine rg hE hS [pu] (fun _ => kp [(3, .int .i64 ((4 + itSum (l.take 0) : Nat) : Int))]) kP0 fun _ a u hE hS => ?_
 refine wp_seq ?_
 refine rg hE hS [pu, ld 1, pu, pu] (fun _ => kn [(7, .slice A (l.length : Nat) c), (8, .int .i64 (l.length : Nat)), (9, .int .i64 0)] [2, 3]) (fun _ => kN [] []) fun _ a u hE hS => ?_
 refine range_up hE hS 9 l.length (fun k x => kd [9, 10, 17] [(3, .int .i64 ((4 + itSum (l.take k) : Nat) : Int))]) (fun _ x => kP []) (fun k (x : Unit) => True) () (by omega) (trivial) (fun k x a u hk hI hE hS K hK RK hRK => ?_) fun _ a u hI hE hS => ?_
 ·obtain hk1 := hI
  have htk := itSum_take_le l k
  have htk1 := itSum_take_le l (k + 1)
  have hsn : itSum (l.take (k + 1)) = itSum (l.take k) + (2 + (sb l[k].text).length) := by rw [List.take_succ_eq_append_getElem hk, itSum_snoc]
  have hS := stp_el hS 90 (el_at hr (fun _ _ => rfl) rfl (fun g hg => ⟨hg, id⟩) k hk (by omega))
  generalize hrk : l[k] = r at hS hsn
  refine rgp hE hS [ie 90, le 90 0, nw 91, st 91] (fun p4 => kp [(5, pt (p4 2).g 0)]) (fun p4 => kP [(91, some (.blk (p4 2).g 227 (Item.cells r).toArray))]) (fun _ => ⟨kr (show k < l.length from hk), trivial⟩) fun p4 a u hE hS => ?_
  refine rgE hE hS [pu, ld 91, cu 113 [] [] (fun _ => .int .i64 ((2 + (sb r.text).length : Nat) : Int)) (fun _ => []), pe (.int .i64 ((4 + itSum (l.take (k + 1)) : Nat) : Int)), pu] (fun _ => kp [(3, .int .i64 (4 + itSum (l.take (k + 1)) : Nat))]) kP0 (fun _ => ⟨kr (cu_cpt (olds := fun _ => False) (w0 := w) fun w4 => itemLen_any r.ty r.text w4 (by omega)), kr (ciV (show IntKind.i64.wrap (((4 + itSum (l.take k) : Nat) : Int) + ((2 + (sb r.text).length : Nat) : Int)) = ((4 + itSum (l.take (k + 1)) : Nat) : Int) from by rw [wiV _ (by omega)]; omega)), trivial⟩) fun _ a u hE hS => ?_
  exact hK () a u _ _ trivial hE hS (by kernel_rfl)
 rw [List.take_length] at hE
 refine rgp hE hS [pu, pe (.int .i64 ((4 + itSum l + 1 : Nat) : Int)), pu] (fun _ => kp [(3, .int .i64 (4 + itSum l + 1 : Nat))]) kP0 (fun _ => ⟨kr (ciV (show IntKind.i64.wrap (((4 + itSum l : Nat) : Int) + (1 : Int)) = ((4 + itSum l + 1 : Nat) : Int) from by rw [wiV _ (by omega)]; omega)), trivial⟩) fun _ a u hE hS => ?_
 have hup := up4_spec (4 + itSum l + 1)
 refine rgp hE hS [pu, pu, cu 100 [] [] (fun _ => .int .i64 ((up4 (4 + itSum l + 1) - (4 + itSum l + 1) : Nat) : Int)) (fun _ => []), pe (.int .i64 ((up4 (4 + itSum l + 1) : Nat) : Int)), pu] (fun _ => kp [(3, .int .i64 (up4 (4 + itSum l + 1) : Nat))]) kP0 (fun _ => ⟨kr (cu_cpt (olds := fun _ => False) (w0 := w) (pad_any (4 + itSum l + 1))), kr (ciV (show IntKind.i64.wrap (((4 + itSum l + 1 : Nat) : Int) + ((up4 (4 + itSum l + 1) - (4 + itSum l + 1) : Nat) : Int)) = ((up4 (4 + itSum l + 1) : Nat) : Int) from by rw [wiV _ (by omega)]; omega)), trivial⟩) fun _ a u hE hS => ?_
 refine rg hE hS [pu, pu] (fun _ => kp [(2, .int .i64 (up4 (4 + itSum l + 1) : Nat))]) kP0 fun _ a u hE hS => ?_
 refine wp_ret ?_
 exact ret1 hE Tryz.results101 (.int .i64 ((up4 (4 + itSum l + 1) : Nat) : Int)) ⟨rfl, hS.below⟩
theorem cu_clen {olds : Nat → Prop} {w0 : World} {base : Nat} {A : Option Addr} {c : Nat} (j : Nat) (src : Int) (l : List Item) (hl : l.length ≤ 1048576) (hs : itSum l ≤ 1048576) (L' : PL) (w : World) (hps : [some (.row base 227 2 (.slice A (l.length : Nat) c) l.length (l.flatMap Item.cells))] = ([j] ++ []).map (lookP L')) (hS : Stp olds w0 w (restr ([j] ++ []) (lookM (den olds w0 L')))) :
  Calls Tryz.prog 101 #[.agg #[.int .u32 src, .slice A (l.length : Nat) c]] w fun e w' => ∃ x : Pay, e = .returned (.int .i64 ((up4 (4 + itSum l + 1) : Nat) : Int)) ∧ Stp (blksOf (lookM (den olds w0 L')) []) w w' (lookM (den olds w0 (zipW [] []))) := by
 have hps' : [some (Pc.row base 227 2 (.slice A (l.length : Nat) c) l.length (l.flatMap Item.cells))] = [j].map (lookP L') := by simpa using hps
 have hrow := hS.row j (one_pc (olds := olds) (w0 := w0) hps').2
 exact (chLen_any src A c l w (InRows.of_own hrow).reads hl hs).mono fun e w' ⟨he, hB⟩ => ⟨pay0, he, stp_of_below hB⟩

theorem chUm_any (g b o c : Nat) (y : List Int) (D : Nat → Prop) (w : World) (hz : Byts y) (hb : Blk w g 224 #[.int .u32 0, .slice none 0 0]) (hr : RowD w D (some ⟨b, o, none⟩) y) (hD : ∀ x, D x → x < w.heap.size ∧ x ≠ g) (hc : y.length ≤ c) (hk : ChOk y) (hl : y.length ≤ 1048576) :
  Calls Tryz.prog 142 #[.pointer (some ⟨g, 0, none⟩), .slice (some ⟨b, o, none⟩) y.length c] w fun e w' => e = .returned .nilIface ∧ w.grownBy w' (some g) ∧ ∃ A2 c2, Blk w' g 224 #[.int .u32 (rd32 y 0), .slice A2 ((itsN y (itM y)).length : Nat) c2] ∧ w'.ownsRow w.heap.size 227 2 (.slice A2 ((itsN y (itM y)).length : Nat) c2) (itsN y (itM y)).length ((itsN y (itM y)).flatMap Item.cells) := by
 refine go_in Tryz.func142 rfl Tryz.ntmps142 [pt g 0, sv b o y.length c] fun a hE => ?_
 have hS := stp_blk1 101 hb
 have hS := stp_ry1 hS 110 hr (fun x hx => ⟨(hD x hx).1, (hD x hx).2⟩) hz
 have hlen := hk.len
 have hlt0 := hk.lt
 have hlast := hk.last
 have hml := itM_le y
 refine rg hE hS [pu] (fun _ => kp [(4, .nilIface)]) kP0 fun _ a u hE hS => ?_
 refine wp_seq ?_
 refine rgp hE hS [pu, pu, pe (.bool false)] (fun _ => kp [(11, .bool false)]) kP0 (fun _ => ⟨kr (cbV (dfV (show ¬ (((y.length : Nat) : Int) < 5) by omega))), trivial⟩) fun _ a u hE hS => iff hE <| wp_skip ?_
 refine rgp hE hS [pu, pu, cl cB32 [110] [], pu, pu, st 101] kp0 (fun _ => kP [(101, some (.blk g 224 #[.int .u32 (rd32 y 0), .slice none 0 0]))]) (fun _ => ⟨kr (show 4 ≤ y.length ∧ y.length ≤ c ∧ 0 < y.length by omega), trivial⟩) fun _ a u hE hS => ?_
 refine wp_seq ?_
 refine rg hE hS [pu] (fun _ => kn [(5, .int .i64 (4 : Nat))] [0, 1, 4]) (fun _ => kN [] [110, 101]) fun _ a u hE hS => ?_
 have hS := stp_row0 hS 1 w.heap.size 227 2
 refine wp_block ?_
 refine loop_k hE hS (itM y) (fun j v => kd [5] [(5, .int .i64 (itOff y j : Nat))]) (fun j v => kN [(101, some (.blk g 224 #[.int .u32 (rd32 y 0), .slice v.p.a v.n v.p.c])), (1, some (.row w.heap.size 227 2 (.slice v.p.a v.n v.p.c) v.n v.xs))] [110]) (fun j (v : Lx Unit) => v.n = j ∧ v.xs = (itsN y j).flatMap Item.cells) ⟨pay0, 0, [], ()⟩ (⟨rfl, rfl⟩) ?_
 intro j v a u hkj hIj hE hS Kj hKj
 obtain ⟨hj1, hj2⟩ := hIj
 obtain ⟨vp, vn, vs, _⟩ := v
 simp only at hj1 hj2
 by_cases hlt : j < itM y
 ·skip
  obtain ⟨hm1, hm2, hm3⟩ := itM_good hlt
  have hg1 := hz.gi (itOff y j + 1)
  obtain ⟨r, hr0⟩ : ∃ r : Nat, gi y (itOff y j + 1) = (r : Int) := ⟨(gi y (itOff y j + 1)).toNat, by omega⟩
  have hnx : itOff y (j + 1) = itOff y j + 2 + r := by show itOff y j + 2 + (gi y (itOff y j + 1)).toNat = _; rw [hr0]; simp
  have hdl : (y.drop (itOff y j)).length = y.length - itOff y j := List.length_drop
  have hil : (sb (itAt y j).text).length = r := by rw [itAt_len hm3, hr0]; simp
  have hup := itOff_up y j
  refine wp_seq ?_
  refine rgp hE hS [pu, pu, pu, pe (.bool true)] (fun _ => kp [(21, .bool true)]) kP0 (fun _ => ⟨kr (cbV (dtV (show ((itOff y j : Nat) : Int) < ((y.length : Nat) : Int) by omega))), trivial⟩) fun _ a u hE hS => ift hE <| wp_skip <| wp_block ?_
  refine wp_seq ?_
  refine rgp hE hS [pu, pu, ix, rb 110 (itOff y j), pu] (fun _ => kp [(6, .int .u8 (gi y (itOff y j)))]) kP0 (fun _ => ⟨kr (show itOff y j < y.length by omega), kr (show itOff y j < (y).length by omega), trivial⟩) fun _ a u hE hS => ?_
  refine rgp hE hS [pu, pe (.bool false)] (fun _ => kp [(27, .bool false)]) kP0 (fun _ => ⟨kr (cbV (nbV (show (gi y (itOff y j) : Int) ≠ 0 by exact hm2))), trivial⟩) fun _ a u hE hS => iff hE <| wp_skip ?_
  refine rg hE hS [nw 93] (fun p8 => kp [(7, pt (p8 0).g 0)]) (fun p8 => kP [(93, some (.blk (p8 0).g 227 #[.int .u8 0, .string ByteArray.empty]))]) fun p8 a u hE hS => ?_
  refine wp_seq ?_
  refine rgp hE hS [pu, pu, rsl 110 112, cu 143 [112] [93] (fun _ => .nilIface) (fun _ => [some (.blk (p8 0).g 227 (itAt y j).cells.toArray)]), pu] (fun _ => kp [(8, .nilIface)]) (fun _ => kP [(93, some (.blk (p8 0).g 227 ((itAt y j).cells.toArray)))]) (fun p9 => ⟨kr (show (itOff y j) ≤ y.length ∧ y.length ≤ y.length ∧ y.length ≤ c by omega), kr (cu_ub (olds := (· = g)) (w0 := w) (D := D) (T := 227) (cs := #[.int .u8 0, .string ByteArray.empty]) (A := some ⟨(p9 2).g, (p9 2).c, none⟩) (l := y.drop (itOff y j)) (g := (p8 0).g) (f := 143) (cs' := (itAt y j).cells.toArray) 112 93 _ ((c - (itOff y j))) rfl fun w4 hb4 hr4 hD4 hz4 => (itemUm_any (p8 0).g (p9 2).g (p9 2).c ((c - (itOff y j))) _ D w4 hz4 hb4 hr4 hD4 (by omega) r (by omega) (by rw [gi_drop]; exact hr0)).mono fun e w5 ⟨h1, h2, h3⟩ => ⟨h1, h2, by rw [itAt_cells hr0]; exact h3⟩), trivial⟩) fun _ a u hE hS => ?_
  refine rg hE hS [pu, pu] (fun _ => kp [(33, .bool false)]) kP0 fun _ a u hE hS => iff hE <| wp_skip ?_
  refine dgp hE hS [pu, pu, pu, pu, ld 101, ld 93, nw 92, ap 1 [92], pu, pu, st 101] kp0 (fun p11 => kP [(101, some (.blk g 224 #[.int .u32 (rd32 y 0), .slice (p11 7).a (vn + 1) (p11 7).c])), (1, some (.row w.heap.size 227 2 (.slice (p11 7).a (vn + 1) (p11 7).c) (vn + 1) (vs ++ (itAt y j).cells)))]) (fun _ => ⟨kr (show w.heap.size ≤ w.heap.size ∧ (vn + 1) * 24 ≤ 140737488355328 ∧ ∀ u ∈ (itAt y j).cells, u.oneCell' = true from ⟨Nat.le_refl _, by omega, by intro u hu; simp [Item.cells] at hu; rcases hu with rfl | rfl <;> rfl⟩), trivial⟩) fun p11 a u hE hS => ?_
  refine rgE hE hS [pu, ld 93, cu 113 [] [] (fun _ => .int .i64 ((2 + (sb (itAt y j).text).length : Nat) : Int)) (fun _ => []), pe (.int .i64 ((itOff y (j + 1) : Nat) : Int)), pu] (fun _ => kp [(5, .int .i64 (itOff y (j + 1) : Nat))]) kP0 (fun _ => ⟨kr (cu_cpt (olds := (· = g)) (w0 := w) fun w4 => itemLen_any (itAt y j).ty (itAt y j).text w4 (by omega)), kr (ciV (show IntKind.i64.wrap (((itOff y j : Nat) : Int) + ((2 + (sb (itAt y j).text).length : Nat) : Int)) = ((itOff y (j + 1) : Nat) : Int) from by rw [wiV _ (by omega)]; omega)), trivial⟩) fun _ a u hE hS => ?_
  exact hKj ⟨(p11 7), vn + 1, vs ++ (itAt y j).cells, ()⟩ a u _ _ hlt ⟨congrArg (· + 1) hj1, by show vs ++ _ = _; rw [hj2, itsN_succ, List.flatMap_append]; simp⟩ hE hS (by kernel_rfl)
 ·have hNj : itM y = j := by omega
  rw [hNj] at hlt0 hlast
  refine wp_seq ?_
  refine rgp hE hS [pu, pu, pu, pe (.bool true)] (fun _ => kp [(21, .bool true)]) kP0 (fun _ => ⟨kr (cbV (dtV (show ((itOff y j : Nat) : Int) < ((y.length : Nat) : Int) by omega))), trivial⟩) fun _ a u hE hS => ift hE <| wp_skip <| wp_block ?_
  refine wp_seq ?_
  refine rgp hE hS [pu, pu, ix, rb 110 (itOff y j), pu] (fun _ => kp [(6, .int .u8 (gi y (itOff y j)))]) kP0 (fun _ => ⟨kr (show itOff y j < y.length by omega), kr (show itOff y j < (y).length by omega), trivial⟩) fun _ a u hE hS => ?_
  refine rgp hE hS [pu, pe (.bool true)] (fun _ => kp [(27, .bool true)]) kP0 (fun _ => ⟨kr (cbV (ebV (show (gi y (itOff y j) : Int) = 0 by exact hlast))), trivial⟩) fun _ a u hE hS => ift hE ?_
  refine rg hE hS [pu] kp0 kP0 fun _ a u hE hS => ?_
  refine wp_ret (thR (bkR (thR (bkR (thR ?_)))))
  have hvn : vn = (itsN y (itM y)).length := by rw [itsN_len, hNj]; exact hj1
  have hvs : vs = (itsN y (itM y)).flatMap Item.cells := by rw [hj2, hNj]
  have hrow := pcR (base := w.heap.size) (e := 227) (size := 2) (v := .slice vp.a vn vp.c) (n := vn) (xs := vs) hS 1
  have hblk := pcB (g := g) (T := 224) (cs := #[.int .u32 (rd32 y 0), .slice vp.a vn vp.c]) hS 101
  rw [hvn, hvs] at hrow
  rw [hvn] at hblk
  exact ret1 hE Tryz.results142 .nilIface ⟨rfl, hS.grownBy (some g) (fun _ e => by rw [e]), vp.a, vp.c, hblk, hrow⟩

abbrev ckItemsU (B : Nat) (l : List Chunk) : Pc := .ck (ckRs B 227 2 (fun x : Chunk => x.items.val) (fun x => x.items.l.flatMap Item.cells) (fun x => x.items.l.length) l)
theorem stp_itemsU {olds : Nat → Prop} {w0 w : World} {L : PL} {B : Nat} {l : List Chunk} (h : Stp olds w0 w (lookM (den olds w0 L))) (k k2 : Nat) (x : Chunk) (hne : k ≠ k2) (hk : lookP L k = some (ckItemsU B l) := by kernel_rfl) (hk2 : lookP L k2 = some (.row B 227 2 x.items.val x.items.l.length (x.items.l.flatMap Item.cells)) := by kernel_rfl) : Stp olds w0 w (lookM (den olds w0 ((k, some (ckItemsU B (l ++ [x]))) :: (k2, none) :: L))) :=
 Stp.merge h k k2 x (by rw [lookM_den, hk]; rfl) (by rw [lookM_den, hk2]; rfl) hne
theorem own_itemsU {olds : Nat → Prop} {w0 w : World} {L : PL} {B : Nat} {l : List Chunk} (h : Stp olds w0 w (lookM (den olds w0 L))) (k : Nat) (x : Chunk) (hx : x ∈ l) (hk : lookP L k = some (ckItemsU B l) := by kernel_rfl) : w.ownsRow B 227 2 x.items.val x.items.l.length (x.items.l.flatMap Item.cells) := (show (Pc.den olds w0 (ckItemsU B l)).ok w from h.ok k _ (by rw [lookM_den, hk]; rfl)) x hx
theorem stp_itemsU0 {olds : Nat → Prop} {w0 w : World} {L : PL} (h : Stp olds w0 w (lookM (den olds w0 L))) (k B : Nat) : Stp olds w0 w (lookM (den olds w0 ((k, some (ckItemsU B [])) :: L))) := ckRs_nil h k B 227 2 _ _ _
theorem um_3 (g b o c : Nat) (z : List Int) (D : Nat → Prop) (w : World) {n L : Nat} (hd : Hd z false n 202 L) (hb : Blk w g 202 #[.slice none 0 0]) (hr : RowD w D (some ⟨b, o, none⟩) z) (hD : ∀ x, D x → x < w.heap.size ∧ x ≠ g) (hc : z.length ≤ c) (hzl : z.length = 4 * (L + 1)) (hsd : SdOk (z.drop 4) n) :
  Calls Tryz.prog 141 #[.pointer (some ⟨g, 0, none⟩), .slice (some ⟨b, o, none⟩) z.length c] w fun e w' => e = .returned .nilIface ∧ w.grownBy w' (some g) ∧ ∃ (A : Option Addr) (c2 : Nat) (l : List Chunk), Blk w' g 202 #[.slice A (l.length : Nat) c2] ∧ InRows w' w.heap.size w'.heap.size 2 A l.length (l.flatMap Chunk.cells) ∧ (∀ x ∈ l, InRows w' w.heap.size w'.heap.size 2 x.items.A x.items.l.length (x.items.l.flatMap Item.cells)) ∧ l.map Chunk.cln = chsN (z.drop 4) n := by
 refine go_in Tryz.func141 rfl Tryz.ntmps141 [pt g 0, sv b o z.length c] fun a hE => ?_
 have hS := stp_blk1 101 hb
 have hS := stp_ry1 hS 110 hr (fun x hx => ⟨(hD x hx).1, (hD x hx).2⟩) hd.byts
 have h4 := hd.len
 have hL : L ≤ 65535 := by have h1 := hd.ln; have h2 := rd16_lt hd.byts 2; omega
 have hn31 := hd.cnt31
 obtain ⟨y, hy⟩ : ∃ y, z.drop 4 = y := ⟨_, rfl⟩
 rw [hy] at hsd
 have hyl : y.length = z.length - 4 := by rw [← hy]; exact List.length_drop
 have hzy : Byts y := by rw [← hy]; exact hd.byts.drop 4
 have hsl := hsd.len
 refine rg hE hS [pu] (fun _ => kp [(4, .nilIface)]) kP0 fun _ a u hE hS => ?_
 refine rg hE hS [nw 103] (fun p2 => kp [(5, pt (p2 0).g 0)]) (fun p2 => kP [(103, some (.blk (p2 0).g 83 #[.bool false, .int .u8 0, .int .u8 0, .int .u16 0]))]) fun p2 a u hE hS => ?_
 refine wp_seq ?_
 refine rgp hE hS [pu, cu 71 [110] [103] (fun _ => .nilIface) (fun _ => [some (.blk (p2 0).g 83 #[.bool false, .int .u8 (n : Nat), .int .u8 202, .int .u16 (L : Nat)])]), pu] (fun _ => kp [(6, .nilIface)]) (fun _ => kP [(103, some (.blk (p2 0).g 83 #[.bool false, .int .u8 (n : Nat), .int .u8 202, .int .u16 (L : Nat)]))]) (fun _ => ⟨kr (cu_hum (w0 := w) (olds := (· = g)) hd (D := D) 110 103 b o z.length c (p2 0).g rfl hc), trivial⟩) fun _ a u hE hS => ?_
 refine rg hE hS [pu, pu] (fun _ => kp [(13, .bool false)]) kP0 fun _ a u hE hS => iff hE <| wp_skip ?_
 refine wp_seq ?_
 refine rg hE hS [pu, ld 103, pu] (fun _ => kp [(17, .bool false)]) kP0 fun _ a u hE hS => iff hE <| wp_skip ?_
 refine wp_seq ?_
 refine rg hE hS [pu] (fun _ => kn [(7, .int .i64 ((4 + 0 : Nat) : Int))] [0, 1, 4, 5]) (fun _ => kN [] [103, 110, 101]) fun _ a u hE hS => ?_
 have hS := stp_row0 hS 1 w.heap.size 224 2
 have hS := stp_itemsU0 hS 2 w.heap.size
 refine wp_block ?_
 refine loop_k hE hS n (fun k x => kd [7] [(7, .int .i64 ((4 + chOff y k : Nat) : Int))]) (fun k x => kN [(101, some (.blk g 202 #[.slice x.p.a x.n x.p.c])), (1, some (.row w.heap.size 224 2 (.slice x.p.a x.n x.p.c) x.n x.xs)), (2, some (ckItemsU w.heap.size x.y))] [110, 103]) (fun k (x : Lx (List Chunk)) => x.n = k ∧ x.xs = x.y.flatMap Chunk.cells ∧ x.y.map Chunk.cln = chsN y k ∧ x.y.length = k) ⟨pay0, 0, [], []⟩ (⟨rfl, rfl, rfl, rfl⟩) ?_
 intro k x a u hkk hI hE hS K hK
 obtain ⟨hk1, hk2, hk3, hk4⟩ := hI
 obtain ⟨xp, xn, xs, l1⟩ := x
 simp only at hk1 hk2 hk3 hk4
 by_cases hlt : k < n
 ·skip
  have hck := hsd.ok k hlt
  have hyk : y.drop (chOff y k) = z.drop (4 + chOff y k) := by rw [← hy, List.drop_drop]
  rw [hyk] at hck
  have hcl := hck.len
  have hcp := hck.pad
  have hdl : (z.drop (4 + chOff y k)).length = z.length - (4 + chOff y k) := List.length_drop
  have hso := itSum_off (y := z.drop (4 + chOff y k)) (m := itM (z.drop (4 + chOff y k))) fun k2 hk2 => (itM_good hk2).2.2
  have hnx : chOff y (k + 1) = chOff y k + up4 (itOff (z.drop (4 + chOff y k)) (itM (z.drop (4 + chOff y k))) + 1) := by rw [← hyk]; rfl
  have hcle : cLen (z.drop (4 + chOff y k)) = up4 (itOff (z.drop (4 + chOff y k)) (itM (z.drop (4 + chOff y k))) + 1) := rfl
  have hus := up4_spec (itOff (z.drop (4 + chOff y k)) (itM (z.drop (4 + chOff y k))) + 1)
  obtain ⟨Y, hY⟩ : ∃ Y, z.drop (4 + chOff y k) = Y := ⟨_, rfl⟩
  rw [hY] at hck hcl hcp hdl hso hnx hcle hus hyk
  rw [← hso] at hnx hcle hus
  have hml := itM_le Y
  refine wp_seq ?_
  refine rgp hE hS [pu, pu, pu, pe (.bool true)] (fun _ => kp [(22, .bool true)]) kP0 (fun _ => ⟨kr (cbV (dtV (show ((4 + chOff y k : Nat) : Int) < ((z.length : Nat) : Int) by omega))), trivial⟩) fun _ a u hE hS => ift hE <| wp_skip <| wp_block ?_
  refine rg hE hS [nw 93] (fun p8 => kp [(8, pt (p8 0).g 0)]) (fun p8 => kP [(93, some (.blk (p8 0).g 224 #[.int .u32 0, .slice none 0 0]))]) fun p8 a u hE hS => ?_
  refine wp_seq ?_
  refine rgp hE hS [pu, pu, rsl 110 112, cu 142 [112] [93, 94] (fun _ => .nilIface) (fun x => [some (.blk (p8 0).g 224 #[.int .u32 (rd32 (z.drop (4 + chOff y k)) 0), .slice x.a ((itsN (z.drop (4 + chOff y k)) (itM (z.drop (4 + chOff y k)))).length : Nat) x.c]), some (.row w.heap.size 227 2 (.slice x.a ((itsN (z.drop (4 + chOff y k)) (itM (z.drop (4 + chOff y k)))).length : Nat) x.c) (itsN (z.drop (4 + chOff y k)) (itM (z.drop (4 + chOff y k)))).length ((itsN (z.drop (4 + chOff y k)) (itM (z.drop (4 + chOff y k)))).flatMap Item.cells))]), pu] (fun _ => kp [(9, .nilIface)]) (fun p9 => kP [(93, some (.blk (p8 0).g 224 #[.int .u32 (rd32 (z.drop (4 + chOff y k)) 0), .slice (p9 3).a ((itsN (z.drop (4 + chOff y k)) (itM (z.drop (4 + chOff y k)))).length : Nat) (p9 3).c])), (94, some (.row w.heap.size 227 2 (.slice (p9 3).a ((itsN (z.drop (4 + chOff y k)) (itM (z.drop (4 + chOff y k)))).length : Nat) (p9 3).c) ((itsN (z.drop (4 + chOff y k)) (itM (z.drop (4 + chOff y k)))).length) ((itsN (z.drop (4 + chOff y k)) (itM (z.drop (4 + chOff y k)))).flatMap Item.cells)))]) (fun p9 => ⟨kr (show (4 + chOff y k) ≤ z.length ∧ z.length ≤ z.length ∧ z.length ≤ c by omega), kr (cu_ubr (olds := (· = g)) (w0 := w) (D := D) (T := 224) (cs := #[.int .u32 0, .slice none 0 0]) (A := some ⟨(p9 2).g, (p9 2).c, none⟩) (l := (z.drop (4 + chOff y k))) (g := (p8 0).g) (f := 142) (cs' := fun A c => #[.int .u32 (rd32 (z.drop (4 + chOff y k)) 0), .slice A ((itsN (z.drop (4 + chOff y k)) (itM (z.drop (4 + chOff y k)))).length : Nat) c]) 227 2 _ _ 112 93 94 _ ((c - (4 + chOff y k))) (u := none) (by decide) rfl fun w4 hb4 hr4 hD4 hz4 => chUm_any (p8 0).g (p9 2).g (p9 2).c ((c - (4 + chOff y k))) _ D w4 hz4 hb4 hr4 hD4 (by rw [hY]; omega) (by rw [hY]; exact hck) (by rw [hY]; omega)), trivial⟩) fun p9 a u hE hS => ?_
  rw [hY] at hS
  refine rg hE hS [pu, pu] (fun _ => kp [(28, .bool false)]) kP0 fun _ a u hE hS => iff hE <| wp_skip ?_
  refine dgp hE hS [pu, pu, pu, pu, ld 101, ld 93, nw 92, ap 1 [92], pu, pu, st 101] kp0 (fun p11 => kP [(101, some (.blk g 202 #[.slice (p11 7).a (xn + 1) (p11 7).c])), (1, some (.row w.heap.size 224 2 (.slice (p11 7).a (xn + 1) (p11 7).c) (xn + 1) (xs ++ ([.int .u32 (rd32 Y 0), .slice (p9 3).a ((itsN Y (itM Y)).length : Nat) (p9 3).c] : List Value))))]) (fun _ => ⟨kr (show w.heap.size ≤ w.heap.size ∧ (xn + 1) * 32 ≤ 140737488355328 ∧ ∀ u ∈ ([.int .u32 (rd32 Y 0), .slice (p9 3).a ((itsN Y (itM Y)).length : Nat) (p9 3).c] : List Value), u.oneCell' = true from ⟨Nat.le_refl _, by omega, by intro u hu; simp at hu; rcases hu with rfl | rfl <;> rfl⟩), trivial⟩) fun p11 a u hE hS => ?_
  refine rgE hE hS [pu, ld 93, cu 101 [94] [] (fun _ => .int .i64 ((up4 (4 + itSum (itsN Y (itM Y)) + 1) : Nat) : Int)) (fun _ => []), pe (.int .i64 ((4 + chOff y (k + 1) : Nat) : Int)), pu] (fun _ => kp [(7, .int .i64 (4 + chOff y (k + 1) : Nat))]) kP0 (fun _ => ⟨kr (cu_clen (olds := (· = g)) (w0 := w) (base := w.heap.size) (A := (p9 3).a) (c := (p9 3).c) 94 (rd32 Y 0) (itsN Y (itM Y)) (by rw [itsN_len]; omega) (by omega)), kr (ciV (show IntKind.i64.wrap (((4 + chOff y k : Nat) : Int) + ((up4 (4 + itSum (itsN Y (itM Y)) + 1) : Nat) : Int)) = ((4 + chOff y (k + 1) : Nat) : Int) from by rw [wiV _ (by omega)]; omega)), trivial⟩) fun _ a u hE hS => ?_
  have hS := stp_itemsU (B := w.heap.size) (l := l1) hS 2 94 (⟨rd32 Y 0, ⟨(p9 3).a, (p9 3).c, itsN Y (itM Y)⟩⟩ : Chunk) (by decide)
  exact hK ⟨(p11 7), xn + 1, xs ++ ([.int .u32 (rd32 Y 0), .slice (p9 3).a ((itsN Y (itM Y)).length : Nat) (p9 3).c] : List Value), l1 ++ [(⟨rd32 Y 0, ⟨(p9 3).a, (p9 3).c, itsN Y (itM Y)⟩⟩ : Chunk)]⟩ a u _ _ hlt ⟨congrArg (· + 1) hk1, by show xs ++ _ = (l1 ++ _).flatMap _; rw [hk2, List.flatMap_append]; rfl, by show (l1 ++ [_]).map _ = _; rw [List.map_append, hk3, chsN_succ, hyk]; rfl, by show (l1 ++ [_]).length = _; simp [hk4]⟩ hE hS (by kernel_rfl)
 ·have hNk : n = k := by omega
  rw [hNk] at hsl
  refine wp_seq ?_
  refine rgp hE hS [pu, pu, pu, pe (.bool false)] (fun _ => kp [(22, .bool false)]) kP0 (fun _ => ⟨kr (cbV (dfV (show ¬ (((4 + chOff y k : Nat) : Int) < ((z.length : Nat) : Int)) by omega))), trivial⟩) fun _ a u hE hS => iff hE ?_
  refine wp_exit ?_
  refine wp_seq ?_
  refine dgp hE hS [pu, pu, pu, ld 101, pu, pu, ld 103, pe (.int .i64 ((n : Nat) : Int)), pe (.bool false)] (fun _ => kp [(52, .bool false)]) kP0 (fun _ => ⟨kr (ciV (wiV ((n : Nat) : Int) (by omega))), kr (cbV (show (((xn : Nat) : Int) != ((n : Nat) : Int)) = false by rw [show xn = n by omega]; simp)), trivial⟩) fun _ a u hE hS => iff hE <| wp_skip ?_
  refine rg hE hS [pu] kp0 kP0 fun _ a u hE hS => ?_
  refine wp_ret ?_
  have hrow := InRows.of_own (pcR (base := w.heap.size) (e := 224) (size := 2) (v := .slice xp.a xn xp.c) (n := xn) (xs := xs) hS 1)
  have hown := fun x hx => own_itemsU (B := w.heap.size) (l := l1) hS 2 x hx
  have hblk := pcB (g := g) (T := 202) (cs := #[.slice xp.a xn xp.c]) hS 101
  have hxl : xn = l1.length := by omega
  rw [hxl, hk2] at hrow
  rw [hxl] at hblk
  exact ret1 hE Tryz.results141 .nilIface ⟨rfl, hS.grownBy (some g) (fun _ e => by rw [e]), xp.a, xp.c, l1, hblk, hrow, (fun x hx => InRows.of_own (hown x hx)), by rw [hy, hNk]; exact hk3⟩

end Go.Proofs.YtmmfpgoodfgkbaaGreatDoor
