/-
  THE WALK of the reference's reading of feedback: bitrates. Condition: as for the other kinds.
-/
import Derived.Test.YtmmfpgoodfgkbaaGreatDoorRone
import Derived.Test.YtmmfpgoodfgkbaaGreatDoorRbr
import Derived.Test.YtmmfpgoodfgkbaaGreatDoorRcg
import Derived.Test.YtmmfpgoodfgkbaaGreatDoorRtr
namespace Go.Proofs.YtmmfpgoodfgkbaaGreatDoor
open Go Go.RowKit
set_option maxHeartbeats 4000000
set_option maxRecDepth 100000
set_option linter.unusedVariables false
set_option linter.unusedSimpArgs false

theorem fb_8 (g B b o c : Nat) (y : List Int) (h1 h2 h3 h4 : Value) (w : World) (s m : Int) (hb : Blk w g 38 (pFb 8 s m).cells) (hr : Reads w B 1 (some ⟨b, o, none⟩) y.length (u8s y)) (hB : B ≤ g) (hz : Byts y) (h8 : 8 ≤ y.length) (hc : y.length ≤ c) (hl : y.length ≤ 1048576) :
  Calls Tryz.prog 42 #[.pointer (some ⟨g, 0, none⟩), .slice (some ⟨b, o, none⟩) y.length c, .agg #[h1, h2, h3, h4]] w (RdOut g w (CgR s (y.drop 4))) := by
 refine go_in Tryz.func42 rfl Tryz.ntmps42 [pt g 0, sv b o y.length c, .agg #[h1, h2, h3, h4]] fun a hE => ?_
 have hS := stp_blk1 101 hb
 have hS := stp_ry hS 110 hr (fun x hx => ⟨by have := hb.lt; omega, by omega⟩) hz
 refine rg hE hS [nw 151, pu] (fun p1 => kp [(5, pt (p1 0).g 0), (6, .bool false)]) (fun p1 => kP [(151, some (.blk (p1 0).g 36 #[h1, h2, h3, h4]))]) fun p1 a u hE hS => ?_
 refine rgp hE hS [pu, rsl 110 111, pu] (fun p2 => kp [(7, sv (p2 1).g (p2 1).c (y.drop 8).length (c - 8))]) (fun p2 => kP [(111, some (.ry (fun x => x < B) ((some ⟨(p2 1).g, (p2 1).c, none⟩)) (y.drop 8)))]) (fun _ => ⟨kr (show 8 ≤ y.length ∧ y.length ≤ y.length ∧ y.length ≤ c by omega), trivial⟩) fun p2 a u hE hS => ?_
 have hl8 : (y.drop 8).length = y.length - 8 := List.length_drop
 refine wp_seq ?_
 refine rg hE hS [pu, pu, pu, ld 101] (fun _ => kp [(14, .int .i64 8)]) kP0 fun _ a u hE hS => wp_block ?_
 refine wp_seq ?_
 refine rgp hE hS [pe (.bool false), pu] (fun _ => kp [(15, .bool false)]) kP0 (fun _ => ⟨kr (cbV (nbV (show (8 : Int) ≠ 7 by decide))), trivial⟩) fun _ a u hE hS => iff hE ?_
 refine rgE hE hS [pe (.bool false), pu] kp0 kP0 (fun _ => ⟨kr (cbV (nbV (show (8 : Int) ≠ 9 by decide))), trivial⟩) fun _ a u hE hS => iff hE ?_
 refine rgp hE hS [pe (.bool false), pu] (fun _ => kp [(21, .bool false)]) kP0 (fun _ => ⟨kr (cbV (nbV (show (8 : Int) ≠ 6 by decide))), trivial⟩) fun _ a u hE hS => iff hE ?_
 refine rgp hE hS [pe (.bool false), pu] (fun _ => kp [(49, .bool false)]) kP0 (fun _ => ⟨kr (cbV (nbV (show (8 : Int) ≠ 10 by decide))), trivial⟩) fun _ a u hE hS => iff hE ?_
 refine rgp hE hS [pe (.bool false), pu] (fun _ => kp [(84, .bool false)]) kP0 (fun _ => ⟨kr (cbV (nbV (show (8 : Int) ≠ 11 by decide))), trivial⟩) fun _ a u hE hS => iff hE ?_
 refine rgp hE hS [pe (.bool false), pu] (fun _ => kp [(121, .bool false)]) kP0 (fun _ => ⟨kr (cbV (nbV (show (8 : Int) ≠ 12 by decide))), trivial⟩) fun _ a u hE hS => iff hE ?_
 refine rgp hE hS [pe (.bool true), pu] (fun _ => kp [(126, .bool true)]) kP0 (fun _ => ⟨kr (cbV (ebV (show (8 : Int) = 8 by decide))), trivial⟩) fun _ a u hE hS => ift hE ?_
 refine rg hE hS [pu, pu, pu, st 101] kp0 (fun _ => kP [(101, some (.blk g 38 ((cs8 s (.slice none 0 0) 0))))]) fun _ a u hE hS => ?_
 refine rgp hE hS [pu, pu, rsl 110 112, cu 75 [112] [101, 96] (fun x => .bool (Nat.beq x.c 1)) (fun x => [some (.ck (ckO g x)), some (.ck (ckN (CgR s (y.drop 4)) x))]), pu] (fun p12 => kn [(6, .bool (Nat.beq (p12 3).c 1))] []) (fun p12 => kN [(101, some (.ck (ckO g (p12 3)))), (96, some (.ck (ckN (CgR s (y.drop 4)) (p12 3))))] []) (fun p12 => ⟨kr (show 4 ≤ y.length ∧ y.length ≤ y.length ∧ y.length ≤ c by omega), kr (cu_rd (w0 := w) (B := B) (j := 112) (u := none) (olds := (· = g)) (R := CgR s (y.drop 4)) fun w4 hsz hb4 n4 hB4 hn4 hr4 hz4 => by subst hn4; exact readCong_any g s B (p12 2).g (p12 2).c (c - 4) (y.drop 4) w4 hb4 hr4 hB hz4 (by rw [List.length_drop]; omega) (by rw [List.length_drop]; omega)), trivial⟩) fun p12 a u hE hS => ?_
 refine wp_ret (bkR (thR ?_))
 have h101 := hS.ok 101 (ckO g (p12 3)) (by kernel_rfl)
 have h96 := hS.ok 96 (ckN (CgR s (y.drop 4)) (p12 3)) (by kernel_rfl)
 have hwd : ∀ v, (p12 3).g ≤ v ∧ v < blkA (p12 3).a → w.heap.size ≤ v ∧ v < u.heap.size := fun v hy => by
  have hlt := hS.lt 96 (ckN (CgR s (y.drop 4)) (p12 3)) (by kernel_rfl) v hy
  exact ⟨hlt.2.resolve_right fun e => hS.apart 96 101 (ckN (CgR s (y.drop 4)) (p12 3)) (ckO g (p12 3)) (by kernel_rfl) (by kernel_rfl) (by decide) v hy e, hlt.1⟩
 exact ret1 hE Tryz.results42 (.bool (Nat.beq (p12 3).c 1)) ⟨_, rfl, hS.grownBy (some g) (fun _ e => by rw [e]), fun h1 => ⟨dP (p12 3).v, h101 (Nat.eq_of_beq_eq_true h1), (h96 (Nat.eq_of_beq_eq_true h1)).1.wide hwd, (h96 (Nat.eq_of_beq_eq_true h1)).2⟩⟩
theorem fb_12 (g B b o c : Nat) (y : List Int) (h1 h2 h3 h4 : Value) (w : World) (s m : Int) (hb : Blk w g 38 (cs12 s m 0 (.slice none 0 0))) (hr : Reads w B 1 (some ⟨b, o, none⟩) y.length (u8s y)) (hB : B ≤ g) (hz : Byts y) (h8 : 8 ≤ y.length) (hc : y.length ≤ c) (hl : y.length ≤ 1048576) :
  Calls Tryz.prog 42 #[.pointer (some ⟨g, 0, none⟩), .slice (some ⟨b, o, none⟩) y.length c, .agg #[h1, h2, h3, h4]] w (RdOut g w (BrR s m (y.drop 8))) := by
 refine go_in Tryz.func42 rfl Tryz.ntmps42 [pt g 0, sv b o y.length c, .agg #[h1, h2, h3, h4]] fun a hE => ?_
 have hS := stp_blk1 101 hb
 have hS := stp_ry hS 110 hr (fun x hx => ⟨by have := hb.lt; omega, by omega⟩) hz
 refine rg hE hS [nw 151, pu] (fun p1 => kp [(5, pt (p1 0).g 0), (6, .bool false)]) (fun p1 => kP [(151, some (.blk (p1 0).g 36 #[h1, h2, h3, h4]))]) fun p1 a u hE hS => ?_
 refine rgp hE hS [pu, rsl 110 111, pu] (fun p2 => kp [(7, sv (p2 1).g (p2 1).c (y.drop 8).length (c - 8))]) (fun p2 => kP [(111, some (.ry (fun x => x < B) ((some ⟨(p2 1).g, (p2 1).c, none⟩)) (y.drop 8)))]) (fun _ => ⟨kr (show 8 ≤ y.length ∧ y.length ≤ y.length ∧ y.length ≤ c by omega), trivial⟩) fun p2 a u hE hS => ?_
 have hl8 : (y.drop 8).length = y.length - 8 := List.length_drop
 refine wp_seq ?_
 refine rg hE hS [pu, pu, pu, ld 101] (fun _ => kp [(14, .int .i64 12)]) kP0 fun _ a u hE hS => wp_block ?_
 refine wp_seq ?_
 refine rgp hE hS [pe (.bool false), pu] (fun _ => kp [(15, .bool false)]) kP0 (fun _ => ⟨kr (cbV (nbV (show (12 : Int) ≠ 7 by decide))), trivial⟩) fun _ a u hE hS => iff hE ?_
 refine rgE hE hS [pe (.bool false), pu] kp0 kP0 (fun _ => ⟨kr (cbV (nbV (show (12 : Int) ≠ 9 by decide))), trivial⟩) fun _ a u hE hS => iff hE ?_
 refine rgp hE hS [pe (.bool false), pu] (fun _ => kp [(21, .bool false)]) kP0 (fun _ => ⟨kr (cbV (nbV (show (12 : Int) ≠ 6 by decide))), trivial⟩) fun _ a u hE hS => iff hE ?_
 refine rgp hE hS [pe (.bool false), pu] (fun _ => kp [(49, .bool false)]) kP0 (fun _ => ⟨kr (cbV (nbV (show (12 : Int) ≠ 10 by decide))), trivial⟩) fun _ a u hE hS => iff hE ?_
 refine rgp hE hS [pe (.bool false), pu] (fun _ => kp [(84, .bool false)]) kP0 (fun _ => ⟨kr (cbV (nbV (show (12 : Int) ≠ 11 by decide))), trivial⟩) fun _ a u hE hS => iff hE ?_
 refine rgp hE hS [pe (.bool true), pu] (fun _ => kp [(121, .bool true)]) kP0 (fun _ => ⟨kr (cbV (ebV (show (12 : Int) = 12 by decide))), trivial⟩) fun _ a u hE hS => ift hE ?_
 refine rgp hE hS [pu, pu, cu 74 [111] [101, 96] (fun x => .bool (Nat.beq x.c 1)) (fun x => [some (.ck (ckO g x)), some (.ck (ckN (BrR s m (y.drop 8)) x))]), pu] (fun p10 => kp [(6, .bool (Nat.beq (p10 2).c 1))]) (fun p10 => kP [(101, some (.ck (ckO g (p10 2)))), (96, some (.ck (ckN (BrR s m (y.drop 8)) (p10 2))))]) (fun _ => ⟨kr (cu_rd (w0 := w) (B := B) (j := 111) (u := none) (olds := (· = g)) (R := BrR s m (y.drop 8)) fun w4 hsz hb4 n4 hB4 hn4 hr4 hz4 => by subst hn4; exact readBr_any g s m B (p2 1).g (p2 1).c (c - 8) (y.drop 8) w4 hb4 hr4 hB hz4 (by rw [hl8]; omega) (by rw [hl8]; omega)), trivial⟩) fun p10 a u hE hS => ?_
 refine wp_ret (bkR (thR ?_))
 have h101 := hS.ok 101 (ckO g (p10 2)) (by kernel_rfl)
 have h96 := hS.ok 96 (ckN (BrR s m (y.drop 8)) (p10 2)) (by kernel_rfl)
 have hwd : ∀ v, (p10 2).g ≤ v ∧ v < blkA (p10 2).a → w.heap.size ≤ v ∧ v < u.heap.size := fun v hy => by
  have hlt := hS.lt 96 (ckN (BrR s m (y.drop 8)) (p10 2)) (by kernel_rfl) v hy
  exact ⟨hlt.2.resolve_right fun e => hS.apart 96 101 (ckN (BrR s m (y.drop 8)) (p10 2)) (ckO g (p10 2)) (by kernel_rfl) (by kernel_rfl) (by decide) v hy e, hlt.1⟩
 exact ret1 hE Tryz.results42 (.bool (Nat.beq (p10 2).c 1)) ⟨_, rfl, hS.grownBy (some g) (fun _ e => by rw [e]), fun h1 => ⟨dP (p10 2).v, h101 (Nat.eq_of_beq_eq_true h1), (h96 (Nat.eq_of_beq_eq_true h1)).1.wide hwd, (h96 (Nat.eq_of_beq_eq_true h1)).2⟩⟩
theorem fb_13 (g B b o c : Nat) (y : List Int) (h1 : Bool) (h2 h3 h4 : Int) (w : World) (s m : Int) (hb : Blk w g 38 (pFb 13 s m).cells) (hr : Reads w B 1 (some ⟨b, o, none⟩) y.length (u8s y)) (hB : B ≤ g) (hz : Byts y) (h8 : 8 ≤ y.length) (hc : y.length ≤ c) (hl : y.length ≤ 1048576) :
  Calls Tryz.prog 42 #[.pointer (some ⟨g, 0, none⟩), .slice (some ⟨b, o, none⟩) y.length c, .agg #[.bool h1, .int .u8 h2, .int .u8 h3, .int .u16 h4]] w (RdOut g w (TrR s m h1 h2 h3 h4 (y.drop 8))) := by
 refine go_in Tryz.func42 rfl Tryz.ntmps42 [pt g 0, sv b o y.length c, .agg #[.bool h1, .int .u8 h2, .int .u8 h3, .int .u16 h4]] fun a hE => ?_
 have hS := stp_blk1 101 hb
 have hS := stp_ry hS 110 hr (fun x hx => ⟨by have := hb.lt; omega, by omega⟩) hz
 refine rg hE hS [nw 151, pu] (fun p1 => kp [(5, pt (p1 0).g 0), (6, .bool false)]) (fun p1 => kP [(151, some (.blk (p1 0).g 36 #[.bool h1, .int .u8 h2, .int .u8 h3, .int .u16 h4]))]) fun p1 a u hE hS => ?_
 refine rgp hE hS [pu, rsl 110 111, pu] (fun p2 => kp [(7, sv (p2 1).g (p2 1).c (y.drop 8).length (c - 8))]) (fun p2 => kP [(111, some (.ry (fun x => x < B) ((some ⟨(p2 1).g, (p2 1).c, none⟩)) (y.drop 8)))]) (fun _ => ⟨kr (show 8 ≤ y.length ∧ y.length ≤ y.length ∧ y.length ≤ c by omega), trivial⟩) fun p2 a u hE hS => ?_
 have hl8 : (y.drop 8).length = y.length - 8 := List.length_drop
 refine wp_seq ?_
 refine rg hE hS [pu, pu, pu, ld 101] (fun _ => kp [(14, .int .i64 13)]) kP0 fun _ a u hE hS => wp_block ?_
 refine wp_seq ?_
 refine rgp hE hS [pe (.bool false), pu] (fun _ => kp [(15, .bool false)]) kP0 (fun _ => ⟨kr (cbV (nbV (show (13 : Int) ≠ 7 by decide))), trivial⟩) fun _ a u hE hS => iff hE ?_
 refine rgE hE hS [pe (.bool false), pu] kp0 kP0 (fun _ => ⟨kr (cbV (nbV (show (13 : Int) ≠ 9 by decide))), trivial⟩) fun _ a u hE hS => iff hE ?_
 refine rgp hE hS [pe (.bool false), pu] (fun _ => kp [(21, .bool false)]) kP0 (fun _ => ⟨kr (cbV (nbV (show (13 : Int) ≠ 6 by decide))), trivial⟩) fun _ a u hE hS => iff hE ?_
 refine rgp hE hS [pe (.bool false), pu] (fun _ => kp [(49, .bool false)]) kP0 (fun _ => ⟨kr (cbV (nbV (show (13 : Int) ≠ 10 by decide))), trivial⟩) fun _ a u hE hS => iff hE ?_
 refine rgp hE hS [pe (.bool false), pu] (fun _ => kp [(84, .bool false)]) kP0 (fun _ => ⟨kr (cbV (nbV (show (13 : Int) ≠ 11 by decide))), trivial⟩) fun _ a u hE hS => iff hE ?_
 refine rgp hE hS [pe (.bool false), pu] (fun _ => kp [(121, .bool false)]) kP0 (fun _ => ⟨kr (cbV (nbV (show (13 : Int) ≠ 12 by decide))), trivial⟩) fun _ a u hE hS => iff hE ?_
 refine rgp hE hS [pe (.bool false), pu] (fun _ => kp [(126, .bool false)]) kP0 (fun _ => ⟨kr (cbV (nbV (show (13 : Int) ≠ 8 by decide))), trivial⟩) fun _ a u hE hS => iff hE <| wp_skip ?_
 refine rg hE hS [pu, ld 151, pu, pu, st 101] kp0 (fun _ => kP [(101, some (.blk g 38 ((cs13 s m 0 0 0 0 (.slice none 0 0) (.slice none 0 0) h1 h2 h3 h4))))]) fun _ a u hE hS => ?_
 refine rgp hE hS [pu, pu, cu 76 [111] [101, 96] (fun x => .bool (Nat.beq x.c 1)) (fun x => [some (.ck (ckO g x)), some (.ck (ckN (TrR s m h1 h2 h3 h4 (y.drop 8)) x))]), pu] (fun p12 => kn [(6, .bool (Nat.beq (p12 2).c 1))] []) (fun p12 => kN [(101, some (.ck (ckO g (p12 2)))), (96, some (.ck (ckN (TrR s m h1 h2 h3 h4 (y.drop 8)) (p12 2))))] []) (fun _ => ⟨kr (cu_rd (w0 := w) (B := B) (j := 111) (u := none) (olds := (· = g)) (R := TrR s m h1 h2 h3 h4 (y.drop 8)) fun w4 hsz hb4 n4 hB4 hn4 hr4 hz4 => by subst hn4; exact readTr_any g s m h1 h2 h3 h4 B (p2 1).g (p2 1).c (c - 8) (y.drop 8) w4 hb4 hr4 hB hz4 (by rw [hl8]; omega) (by rw [hl8]; omega)), trivial⟩) fun p12 a u hE hS => ?_
 refine wp_ret ?_
 have h101 := hS.ok 101 (ckO g (p12 2)) (by kernel_rfl)
 have h96 := hS.ok 96 (ckN (TrR s m h1 h2 h3 h4 (y.drop 8)) (p12 2)) (by kernel_rfl)
 have hwd : ∀ v, (p12 2).g ≤ v ∧ v < blkA (p12 2).a → w.heap.size ≤ v ∧ v < u.heap.size := fun v hy => by
  have hlt := hS.lt 96 (ckN (TrR s m h1 h2 h3 h4 (y.drop 8)) (p12 2)) (by kernel_rfl) v hy
  exact ⟨hlt.2.resolve_right fun e => hS.apart 96 101 (ckN (TrR s m h1 h2 h3 h4 (y.drop 8)) (p12 2)) (ckO g (p12 2)) (by kernel_rfl) (by kernel_rfl) (by decide) v hy e, hlt.1⟩
 exact ret1 hE Tryz.results42 (.bool (Nat.beq (p12 2).c 1)) ⟨_, rfl, hS.grownBy (some g) (fun _ e => by rw [e]), fun h1 => ⟨dP (p12 2).v, h101 (Nat.eq_of_beq_eq_true h1), (h96 (Nat.eq_of_beq_eq_true h1)).1.wide hwd, (h96 (Nat.eq_of_beq_eq_true h1)).2⟩⟩
end Go.Proofs.YtmmfpgoodfgkbaaGreatDoor
