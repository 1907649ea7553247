/-
  THE WALKS of the package's reading of applications, raw packets, report blocks and reports. Condition: the bytes lie in memory, apart from the packet's block; the header says the kind.
-/
import Derived.Test.YtmmfpgoodfgkbaaGreatDoorUm
namespace Go.Proofs.YtmmfpgoodfgkbaaGreatDoor
open Go Go.RowKit
set_option maxHeartbeats 4000000
set_option maxRecDepth 100000
set_option linter.unusedVariables false
set_option linter.unusedSimpArgs false

def SlD (w : World) (D : Nat → Prop) (v : Value) (l : List Int) : Prop := ∃ A c, v = .slice A l.length c ∧ RowD w D A l
theorem RowD.kept {w w' : World} {D : Nat → Prop} {A : Option Addr} {l : List Int} {g : Nat} (h : RowD w D A l) (hD : ∀ x, D x → x < w.heap.size ∧ x ≠ g) (hg : w.grownBy w' (some g)) : RowD w' D A l := fun hn => by
 obtain ⟨ad, e, h1, h2⟩ := h hn
 exact ⟨ad, e, h1, fun i u hu => (World.cell?_of_block (by rw [block_of_add]; exact hg.block _ (hD _ h1).1 (fun e => (hD _ h1).2 (by injection e)))).trans (h2 i u hu)⟩
theorem rd32_part (z : List Int) (i n : Nat) (hn : 4 ≤ n) : rd32 ((z.take (i + n)).drop i) 0 = rd32 (z.drop i) 0 := by
 unfold rd32
 rw [gi_part _ _ _ _ (by omega), gi_part _ _ _ _ (by omega), gi_part _ _ _ _ (by omega), gi_part _ _ _ _ (by omega)]
theorem part_part (z : List Int) (i j n : Nat) : (z.take (i + n)).drop (i + j) = ((z.drop i).take n).drop j := by
 rw [List.drop_take, List.drop_take, List.drop_drop]
 congr 1
 omega
theorem um_5 (v0 : Value) (g b o c : Nat) (z : List Int) (D : Nat → Prop) (w : World) {n L : Nat} (hd : Hd z false n 204 L) (hb : Blk w g 170 #[.int .u8 0, .int .u32 0, .string ByteArray.empty, v0]) (hr : RowD w D (some ⟨b, o, none⟩) z) (hD : ∀ x, D x → x < w.heap.size ∧ x ≠ g) (hc : z.length ≤ c) (hzl : z.length = 4 * (L + 1)) (h12 : 12 ≤ z.length) :
  Calls Tryz.prog 178 #[.pointer (some ⟨g, 0, none⟩), .slice (some ⟨b, o, none⟩) z.length c] w fun e w' => e = .returned .nilIface ∧ w.grownBy w' (some g) ∧ ∃ v, Blk w' g 170 #[.int .u8 (n : Nat), .int .u32 (rd32 (z.drop 4) 0), .string (strB (((z.drop 4).take 8).drop 4)), v] ∧ SlD w' D v ((z.drop 4).drop 8) := by
 refine go_in Tryz.func178 rfl Tryz.ntmps178 [pt g 0, sv b o z.length c] fun a hE => ?_
 have hS := stp_blk1 101 hb
 have hS := stp_ry1 hS 110 hr (fun x hx => ⟨(hD x hx).1, (hD x hx).2⟩) hd.byts
 have h4 := hd.len
 have hL : L ≤ 65535 := by have h1 := hd.ln; have h2 := rd16_lt hd.byts 2; omega
 refine rg hE hS [pu] (fun _ => kp [(4, .nilIface)]) kP0 fun _ a u hE hS => ?_
 refine rg hE hS [pu, nw 103, st 103] (fun p2 => kp [(5, pt (p2 1).g 0)]) (fun p2 => kP [(103, some (.blk (p2 1).g 83 #[.bool false, .int .u8 0, .int .u8 0, .int .u16 0]))]) fun p2 a u hE hS => ?_
 refine rgp hE hS [pu, cu 71 [110] [103] (fun _ => .nilIface) (fun _ => [some (.blk (p2 1).g 83 #[.bool false, .int .u8 (n : Nat), .int .u8 204, .int .u16 (L : Nat)])]), pu] (fun _ => kp [(6, .nilIface)]) (fun _ => kP [(103, some (.blk (p2 1).g 83 #[.bool false, .int .u8 (n : Nat), .int .u8 204, .int .u16 (L : Nat)]))]) (fun _ => ⟨kr (cu_hum (w0 := w) (olds := (· = g)) hd (D := D) 110 103 b o z.length c (p2 1).g rfl hc), trivial⟩) fun _ a u hE hS => ?_
 refine wp_seq ?_
 refine rg hE hS [pu, pu] (fun _ => kp [(12, .bool false)]) kP0 fun _ a u hE hS => iff hE <| wp_skip ?_
 refine wp_seq ?_
 refine rgp hE hS [pu, pu, pe (.bool false)] (fun _ => kp [(16, .bool false)]) kP0 (fun _ => ⟨kr (cbV (dfV (show ¬ (((z.length : Nat) : Int) < 12) by omega))), trivial⟩) fun _ a u hE hS => iff hE <| wp_skip ?_
 refine wp_seq ?_
 refine rgp hE hS [pu, ld 103, pe (.int .i64 (L : Nat)), pe (.int .i64 ((L + 1 : Nat) : Int)), pe (.int .i64 (((L + 1) * 4 : Nat) : Int)), pu, pu, pe (.bool false)] (fun _ => kp [(25, .bool false)]) kP0 (fun _ => ⟨kr (ciV (wiV ((L : Nat) : Int) (by omega))), kr (ciV (show IntKind.i64.wrap (((L : Nat) : Int) + (1 : Int)) = ((L + 1 : Nat) : Int) from by rw [wiV _ (by omega)]; omega)), kr (ciV (show IntKind.i64.wrap (((L + 1 : Nat) : Int) * (4 : Int)) = (((L + 1) * 4 : Nat) : Int) from by rw [wiV _ (by omega)]; omega)), kr (cbV (show ((((L + 1) * 4 : Nat) : Int) != ((z.length : Nat) : Int)) = false by rw [hzl, Nat.mul_comm]; simp)), trivial⟩) fun _ a u hE hS => iff hE <| wp_skip ?_
 refine rg hE hS [pu, pu, ld 103, pu, pu, st 101] kp0 (fun _ => kP [(101, some (.blk g 170 #[.int .u8 (n : Nat), .int .u32 0, .string ByteArray.empty, v0]))]) fun _ a u hE hS => ?_
 refine rgp hE hS [pu, pu, rsl 110 111, cl cB32 [111] [], pu, pu, st 101] kp0 (fun p8 => kP [(111, some (.ry D ((some ⟨(p8 2).g, (p8 2).c, none⟩)) ((z.take 8).drop 4))), (101, some (.blk g 170 #[.int .u8 (n : Nat), .int .u32 (rd32 ((z.take 8).drop 4) 0), .string ByteArray.empty, v0]))]) (fun _ => ⟨kr (show 4 ≤ 8 ∧ 8 ≤ z.length ∧ z.length ≤ c by omega), kr (show 4 ≤ ((z.take 8).drop 4).length ∧ ((z.take 8).drop 4).length ≤ (c - 4) ∧ 0 < ((z.take 8).drop 4).length by simp only [List.length_drop, List.length_take]; omega), trivial⟩) fun p8 a u hE hS => ?_
 refine rgp hE hS [pu, pu, rsl 110 112, rt 112, pu, pu, st 101] kp0 (fun _ => kP [(101, some (.blk g 170 #[.int .u8 (n : Nat), .int .u32 (rd32 ((z.take 8).drop 4) 0), .string (strB ((z.take 12).drop 8)), v0]))]) (fun _ => ⟨kr (show 8 ≤ 12 ∧ 12 ≤ z.length ∧ z.length ≤ c by omega), trivial⟩) fun _ a u hE hS => ?_
 refine rg hE hS [pu] (fun _ => kp [(7, .int .i64 0)]) kP0 fun _ a u hE hS => ?_
 refine wp_seq ?_
 refine rg hE hS [pu, ld 103] (fun _ => kp [(45, .bool false)]) kP0 fun _ a u hE hS => iff hE <| wp_skip ?_
 refine rgp hE hS [pu, pu, pu, pu, pu, pe (.int .i64 (z.length : Nat)), rsl 110 113, pu, pu, st 101] kp0 (fun p12 => kP [(113, some (.ry D ((some ⟨(p12 6).g, (p12 6).c, none⟩)) ((z.take z.length).drop 12))), (101, some (.blk g 170 #[.int .u8 (n : Nat), .int .u32 (rd32 ((z.take 8).drop 4) 0), .string (strB ((z.take 12).drop 8)), sv (p12 6).g (p12 6).c ((z.take z.length).drop 12).length (c - 12)]))]) (fun _ => ⟨kr (ciV (show IntKind.i64.wrap (((z.length : Nat) : Int) - 0) = ((z.length : Nat) : Int) from (wiV _ (by omega)).trans (by omega))), kr (show 12 ≤ z.length ∧ z.length ≤ z.length ∧ z.length ≤ c by omega), trivial⟩) fun p12 a u hE hS => ?_
 refine rg hE hS [pu] kp0 kP0 fun _ a u hE hS => ?_
 refine wp_ret ?_
 have hbl := pcB (g := g) (T := 170) (cs := #[.int .u8 (n : Nat), .int .u32 (rd32 ((z.take 8).drop 4) 0), .string (strB ((z.take 12).drop 8)), .slice (some ⟨(p12 6).g, (p12 6).c, none⟩) ((z.take z.length).drop 12).length (c - 12)]) hS 101
 have hrd : RdB (· = g) w D (some ⟨(p12 6).g, (p12 6).c, none⟩) ((z.take z.length).drop 12) ∧ Byts ((z.take z.length).drop 12) := hS.pure_ 113 (by kernel_rfl)
 have hg := hS.grownBy (some g) (fun _ e => by rw [e])
 have hrow := hrd.1.1.kept hD hg
 rw [List.take_length] at hbl hrow
 rw [show rd32 ((z.take 8).drop 4) 0 = rd32 (z.drop 4) 0 from rd32_part z 4 4 (by omega), show (z.take 12).drop 8 = ((z.drop 4).take 8).drop 4 from part_part z 4 4 8, show z.drop 12 = (z.drop 4).drop 8 by rw [List.drop_drop]] at hbl
 rw [show z.drop 12 = (z.drop 4).drop 8 by rw [List.drop_drop]] at hrow
 exact ret1 hE Tryz.results178 .nilIface ⟨rfl, hg, _, hbl, _, _, rfl, hrow⟩

theorem c32 (x : Int) (h0 : 0 ≤ x) (h1 : x < 4294967296) : Value.int .u32 (x % 4294967296) = .int .u32 x := by rw [Int.emod_eq_of_lt h0 h1]
theorem tl_or {a b c : Int} (ha : 0 ≤ a ∧ a < 256) (hb : 0 ≤ b ∧ b < 256) (hc : 0 ≤ c ∧ c < 256) : bits .or .u32 (b * 256 + c) (a * 65536) = a * 65536 + b * 256 + c := by
 rw [bits_comm .u32, or32 16 (by omega) (by omega) (by omega) (by omega) (by omega) (by omega)]
 omega
theorem tl_or2 {b c : Int} (hb : 0 ≤ b ∧ b < 256) (hc : 0 ≤ c ∧ c < 256) : bits .or .u32 c (b * 256) = b * 256 + c := by
 rw [bits_comm .u32, or32 8 (by omega) (by omega) (by omega) (by omega) (by omega) (by omega)]
theorem repB_part (z : List Int) (i : Nat) : repB ((z.take (i + 24)).drop i) = repB (z.drop i) := by
 have key : ∀ j, j < 24 → gi ((z.take (i + 24)).drop i) j = gi (z.drop i) j := fun j hj => gi_part z i 24 j hj
 unfold repB
 simp only [rd32, rd24, gi_drop, Nat.zero_add, Nat.add_zero]
 simp only [gi_drop] at key
 have k0 : gi (z.take (i + 24)) i = gi z i := key 0 (by omega)
 simp only [key, k0, Nat.reduceAdd, Nat.reduceLT]
theorem repUm_any (g b o c : Nat) (z : List Int) (D : Nat → Prop) (w : World) (hz : Byts z) (hb : Blk w g 221 #[.int .u32 0, .int .u8 0, .int .u32 0, .int .u32 0, .int .u32 0, .int .u32 0, .int .u32 0]) (hr : RowD w D (some ⟨b, o, none⟩) z) (hD : ∀ x, D x → x < w.heap.size ∧ x ≠ g) (hc : z.length ≤ c) (h24 : 24 ≤ z.length) :
  Calls Tryz.prog 109 #[.pointer (some ⟨g, 0, none⟩), .slice (some ⟨b, o, none⟩) z.length c] w fun e w' => e = .returned .nilIface ∧ w.grownBy w' (some g) ∧ Blk w' g 221 (repB z).cells.toArray := by
 refine go_in Tryz.func109 rfl Tryz.ntmps109 [pt g 0, sv b o z.length c] fun a hE => ?_
 have hS := stp_blk1 101 hb
 have hS := stp_ry1 hS 110 hr (fun x hx => ⟨(hD x hx).1, (hD x hx).2⟩) hz
 have h50 := (hz.drop 5).gi 0
 have h51 := (hz.drop 5).gi 1
 have h52 := (hz.drop 5).gi 2
 have hl5 : (z.drop 5).length = z.length - 5 := List.length_drop
 refine rg hE hS [pu] (fun _ => kp [(4, .nilIface)]) kP0 fun _ a u hE hS => ?_
 refine wp_seq ?_
 refine rgp hE hS [pu, pu, pe (.bool false)] (fun _ => kp [(8, .bool false)]) kP0 (fun _ => ⟨kr (cbV (dfV (show ¬ (((z.length : Nat) : Int) < 24) by omega))), trivial⟩) fun _ a u hE hS => iff hE <| wp_skip ?_
 refine rgp hE hS [pu, pu, cl cB32 [110] [], pu, pu, st 101] kp0 (fun _ => kP [(101, some (.blk g 221 #[.int .u32 (rd32 z 0), .int .u8 0, .int .u32 0, .int .u32 0, .int .u32 0, .int .u32 0, .int .u32 0]))]) (fun _ => ⟨kr (show 4 ≤ z.length ∧ z.length ≤ c ∧ 0 < z.length by omega), trivial⟩) fun _ a u hE hS => ?_
 refine rgp hE hS [pu, pu, ix, rb 110 4, pu, pu, st 101] kp0 (fun _ => kP [(101, some (.blk g 221 #[.int .u32 (rd32 z 0), .int .u8 (gi z 4), .int .u32 0, .int .u32 0, .int .u32 0, .int .u32 0, .int .u32 0]))]) (fun _ => ⟨kr (show 4 < z.length by omega), kr (show 4 < (z).length by omega), trivial⟩) fun _ a u hE hS => ?_
 refine rgp hE hS [pu, rsl 110 111, pu] (fun p5 => kp [(5, sv (p5 1).g (p5 1).c (z.drop 5).length (c - 5))]) (fun p5 => kP [(111, some (.ry D ((some ⟨(p5 1).g, (p5 1).c, none⟩)) (z.drop 5)))]) (fun _ => ⟨kr (show 5 ≤ z.length ∧ z.length ≤ z.length ∧ z.length ≤ c by omega), trivial⟩) fun p5 a u hE hS => ?_
 refine dgp hE hS [pu, pu, ix, rb 111 2, pe (.int .u32 (gi (z.drop 5) 2)), pu, ix, rb 111 1, pe (.int .u32 (gi (z.drop 5) 1)), pe (.int .u32 (gi (z.drop 5) 1 * 256)), pe (.int .u32 (gi (z.drop 5) 1 * 256 + gi (z.drop 5) 2)), pu, ix, rb 111 0, pe (.int .u32 (gi (z.drop 5) 0)), pe (.int .u32 (gi (z.drop 5) 0 * 65536)), pe (.int .u32 (rd24 (z.drop 5) 0)), pu, pu, st 101] kp0 (fun _ => kP [(101, some (.blk g 221 #[.int .u32 (rd32 z 0), .int .u8 (gi z 4), .int .u32 (rd24 (z.drop 5) 0), .int .u32 0, .int .u32 0, .int .u32 0, .int .u32 0]))]) (fun _ => ⟨kr (show 2 < (z.drop 5).length by omega), kr (show 2 < (z.drop 5).length by omega), kr (c32 (gi (z.drop 5) 2) (by omega) (by omega)), kr (show 1 < (z.drop 5).length by omega), kr (show 1 < (z.drop 5).length by omega), kr (c32 (gi (z.drop 5) 1) (by omega) (by omega)), kr (c32 (gi (z.drop 5) 1 * 256) (by omega) (by omega)), kr (congrArg (Value.int .u32) (tl_or2 h51 h52)), kr (show 0 < (z.drop 5).length by omega), kr (show 0 < (z.drop 5).length by omega), kr (c32 (gi (z.drop 5) 0) (by omega) (by omega)), kr (c32 (gi (z.drop 5) 0 * 65536) (by omega) (by omega)), kr (congrArg (Value.int .u32) (tl_or h50 h51 h52)), trivial⟩) fun _ a u hE hS => ?_
 refine rgp hE hS [pu, pu, rsl 110 112, cl cB32 [112] [], pu, pu, st 101] kp0 (fun _ => kP [(101, some (.blk g 221 #[.int .u32 (rd32 z 0), .int .u8 (gi z 4), .int .u32 (rd24 (z.drop 5) 0), .int .u32 (rd32 (z.drop 8) 0), .int .u32 0, .int .u32 0, .int .u32 0]))]) (fun _ => ⟨kr (show 8 ≤ z.length ∧ z.length ≤ z.length ∧ z.length ≤ c by omega), kr (show 4 ≤ (z.drop 8).length ∧ (z.drop 8).length ≤ (c - 8) ∧ 0 < (z.drop 8).length by simp only [List.length_drop]; omega), trivial⟩) fun _ a u hE hS => ?_
 refine rgp hE hS [pu, pu, rsl 110 113, cl cB32 [113] [], pu, pu, st 101] kp0 (fun _ => kP [(101, some (.blk g 221 #[.int .u32 (rd32 z 0), .int .u8 (gi z 4), .int .u32 (rd24 (z.drop 5) 0), .int .u32 (rd32 (z.drop 8) 0), .int .u32 (rd32 (z.drop 12) 0), .int .u32 0, .int .u32 0]))]) (fun _ => ⟨kr (show 12 ≤ z.length ∧ z.length ≤ z.length ∧ z.length ≤ c by omega), kr (show 4 ≤ (z.drop 12).length ∧ (z.drop 12).length ≤ (c - 12) ∧ 0 < (z.drop 12).length by simp only [List.length_drop]; omega), trivial⟩) fun _ a u hE hS => ?_
 refine rgp hE hS [pu, pu, rsl 110 114, cl cB32 [114] [], pu, pu, st 101] kp0 (fun _ => kP [(101, some (.blk g 221 #[.int .u32 (rd32 z 0), .int .u8 (gi z 4), .int .u32 (rd24 (z.drop 5) 0), .int .u32 (rd32 (z.drop 8) 0), .int .u32 (rd32 (z.drop 12) 0), .int .u32 (rd32 (z.drop 16) 0), .int .u32 0]))]) (fun _ => ⟨kr (show 16 ≤ z.length ∧ z.length ≤ z.length ∧ z.length ≤ c by omega), kr (show 4 ≤ (z.drop 16).length ∧ (z.drop 16).length ≤ (c - 16) ∧ 0 < (z.drop 16).length by simp only [List.length_drop]; omega), trivial⟩) fun _ a u hE hS => ?_
 refine rgp hE hS [pu, pu, rsl 110 115, cl cB32 [115] [], pu, pu, st 101] kp0 (fun _ => kP [(101, some (.blk g 221 #[.int .u32 (rd32 z 0), .int .u8 (gi z 4), .int .u32 (rd24 (z.drop 5) 0), .int .u32 (rd32 (z.drop 8) 0), .int .u32 (rd32 (z.drop 12) 0), .int .u32 (rd32 (z.drop 16) 0), .int .u32 (rd32 (z.drop 20) 0)]))]) (fun _ => ⟨kr (show 20 ≤ z.length ∧ z.length ≤ z.length ∧ z.length ≤ c by omega), kr (show 4 ≤ (z.drop 20).length ∧ (z.drop 20).length ≤ (c - 20) ∧ 0 < (z.drop 20).length by simp only [List.length_drop]; omega), trivial⟩) fun _ a u hE hS => ?_
 refine rg hE hS [pu] kp0 kP0 fun _ a u hE hS => ?_
 refine wp_ret ?_
 exact ret1 hE Tryz.results109 .nilIface ⟨rfl, hS.grownBy (some g) (fun _ e => by rw [e]), pcB hS 101⟩
theorem cu_urep {olds : Nat → Prop} {w0 : World} {z : List Int} {D : Nat → Prop} (j k : Nat) (b o m c g : Nat) (hm : m = z.length) (h24 : 24 ≤ z.length) (hc : z.length ≤ c)
  (L' : PL) (w : World) (hps : [some (.ry D (some ⟨b, o, none⟩) z), some (.blk g 221 #[.int .u32 0, .int .u8 0, .int .u32 0, .int .u32 0, .int .u32 0, .int .u32 0, .int .u32 0])] = ([j] ++ [k]).map (lookP L')) (hS : Stp olds w0 w (restr ([j] ++ [k]) (lookM (den olds w0 L')))) :
  Calls Tryz.prog 109 #[.pointer (some ⟨g, 0, none⟩), .slice (some ⟨b, o, none⟩) m c] w fun e w' => ∃ x : Pay, e = .returned .nilIface ∧ Stp (blksOf (lookM (den olds w0 L')) [k]) w w' (lookM (den olds w0 (zipW [k] [some (.blk g 221 (repB z).cells.toArray)]))) := by
 subst hm
 simp only [List.cons_append, List.nil_append, List.map_cons, List.map_nil, List.cons.injEq] at hps
 have hl1 : lookM (den olds w0 L') k = some (ckB g 221 #[.int .u32 0, .int .u8 0, .int .u32 0, .int .u32 0, .int .u32 0, .int .u32 0, .int .u32 0]) := by rw [lookM_den, ← hps.2.1]; rfl
 have r1 : restr ([j] ++ [k]) (lookM (den olds w0 L')) k = some (ckB g 221 #[.int .u32 0, .int .u8 0, .int .u32 0, .int .u32 0, .int .u32 0, .int .u32 0, .int .u32 0]) := by simp [restr, hasN, hl1]
 have rj : restr ([j] ++ [k]) (lookM (den olds w0 L')) j = some (ckP (RdB olds w0 D (some ⟨b, o, none⟩) z ∧ Byts z)) := by simp [restr, hasN, lookM_den, ← hps.1, Pc.den]
 have hb := hS.blk k r1
 have hpc := hS.pure_ j rj
 have hg := (hS.lt k _ r1 g rfl)
 have hr : RowD w D (some ⟨b, o, none⟩) z := fun hn => by
  obtain ⟨ad, e, h1, h2⟩ := hpc.1.1 hn
  have h3 := hpc.1.2 _ h1
  exact ⟨ad, e, h1, fun i u hu => (World.cell?_of_block (by rw [block_of_add]; exact hS.kept _ h3.1 h3.2)).trans (h2 i u hu)⟩
 refine (repUm_any g b o c z D w hpc.2 hb hr (fun x hx => ?_) hc h24).mono ?_
 ·have h3 := hpc.1.2 _ hx
  refine ⟨Nat.lt_of_lt_of_le h3.1 hS.size, fun e => ?_⟩
  subst e
  rcases hg.2 with h | h
  ·omega
  ·exact h3.2 h
 ·rintro e w' ⟨rfl, hgr, hbl⟩
  exact ⟨pay0, rfl, stp_one k _ (.inr ⟨g, ⟨k, by simp, _, hl1, rfl⟩, hgr⟩) hbl fun y hy => by have e : y = g := hy; subst e; exact ⟨hbl.lt, .inr ⟨k, by simp, _, hl1, rfl⟩⟩⟩

end Go.Proofs.YtmmfpgoodfgkbaaGreatDoor
