/-
  THE WALKS of the reference's reading of report blocks and goodbyes. Condition: the bytes lie in memory.
-/
import Derived.Test.YtmmfpgoodfgkbaaGreatRfb
namespace Go.Proofs.YtmmfpgoodfgkbaaGreat
open Go Go.RowKit
set_option linter.unusedVariables false
set_option linter.unusedSimpArgs false

def repB (b : List Int) : Rep := ⟨rd32 b 0, gi b 4, rd24 (b.drop 5) 0, rd32 (b.drop 8) 0, rd32 (b.drop 12) 0, rd32 (b.drop 16) 0, rd32 (b.drop 20) 0⟩
def SlB (w : World) (B : Nat) (v : Value) (l : List Int) : Prop := ∃ A c, v = .slice A l.length c ∧ l.length ≤ c ∧ Reads w B 1 A l.length (u8s l)
set_option maxHeartbeats 4000000 in
set_option maxRecDepth 100000 in
theorem readRep_any (B b o c : Nat) (y : List Int) (w : World) (hr : Reads w B 1 (some ⟨b, o, none⟩) y.length (u8s y)) (hB : B ≤ w.heap.size) (hz : Byts y) (h24 : 24 ≤ y.length) (hc : y.length ≤ c) :
    Calls Tryz.prog 61 #[.slice (some ⟨b, o, none⟩) y.length c] w fun e w' => e = .returned (.agg (repB y).cells.toArray) ∧ Below w.heap.size w w' := by
  refine go_in Tryz.func61 rfl Tryz.ntmps61 [sv b o y.length c] fun a hE => ?_
  have hS := stp_in w
  have hS := stp_ry hS 110 hr (fun x hx => ⟨by omega, id⟩) hz
  have hl5 : (y.drop 5).length = y.length - 5 := List.length_drop
  have hl8 : (y.drop 8).length = y.length - 8 := List.length_drop
  have hl12 : (y.drop 12).length = y.length - 12 := List.length_drop
  have hl16 : (y.drop 16).length = y.length - 16 := List.length_drop
  have hl20 : (y.drop 20).length = y.length - 20 := List.length_drop
  refine rg hE hS [nw 101] (fun p1 => kp [(2, pt (p1 0).g 0)]) (fun p1 => kP [(101, some (.blk (p1 0).g 85 #[.int .u32 0, .int .u8 0, .int .u32 0, .int .u32 0, .int .u32 0, .int .u32 0, .int .u32 0]))]) fun p1 a u hE hS => ?_
  refine dgp hE hS [pu, cl cU32 [110] [], pu, ix, rb 110 4, pu, rsl 110 111, cl cU24 [111] [], pu, rsl 110 112, cl cU32 [112] [], pu, rsl 110 113, cl cU32 [113] [], pu, rsl 110 114, cl cU32 [114] [], pu, rsl 110 115, cl cU32 [115] [], pu, st 101] (fun _ => kp []) (fun _ => kP [(101, some (.blk (p1 0).g 85 ((repB y).cells.toArray)))]) (fun _ => ⟨kr (show 4 ≤ y.length ∧ y.length ≤ c ∧ 0 < y.length by omega), kr (show 4 < y.length by omega), kr (show 4 < (y).length by omega), kr (show 5 ≤ y.length ∧ y.length ≤ y.length ∧ y.length ≤ c by omega), kr (show 3 ≤ (y.drop 5).length ∧ (y.drop 5).length ≤ (c - 5) ∧ 0 < (y.drop 5).length by omega), kr (show 8 ≤ y.length ∧ y.length ≤ y.length ∧ y.length ≤ c by omega), kr (show 4 ≤ (y.drop 8).length ∧ (y.drop 8).length ≤ (c - 8) ∧ 0 < (y.drop 8).length by omega), kr (show 12 ≤ y.length ∧ y.length ≤ y.length ∧ y.length ≤ c by omega), kr (show 4 ≤ (y.drop 12).length ∧ (y.drop 12).length ≤ (c - 12) ∧ 0 < (y.drop 12).length by omega), kr (show 16 ≤ y.length ∧ y.length ≤ y.length ∧ y.length ≤ c by omega), kr (show 4 ≤ (y.drop 16).length ∧ (y.drop 16).length ≤ (c - 16) ∧ 0 < (y.drop 16).length by omega), kr (show 20 ≤ y.length ∧ y.length ≤ y.length ∧ y.length ≤ c by omega), kr (show 4 ≤ (y.drop 20).length ∧ (y.drop 20).length ≤ (c - 20) ∧ 0 < (y.drop 20).length by omega), trivial⟩) fun _ a u hE hS => ?_
  refine wp_ret ?_
  exact retc hE hS Tryz.results61 101 (p1 0).g 85 (repB y).cells.toArray ⟨rfl, hS.below⟩ Tryz.underlying85
theorem cu_rep {olds : Nat → Prop} {w0 : World} {D : Nat → Prop} (j : Nat) (A : Option Addr) (l : List Int) (n c : Nat) (hn : n = l.length) (h24 : 24 ≤ l.length) (hc : l.length ≤ c)
    (L : PL) (w : World) (hps : [some (.ry D A l)] = ([j] ++ []).map (lookP L)) (hS : Stp olds w0 w (restr ([j] ++ []) (lookM (den olds w0 L)))) :
    Calls Tryz.prog 61 #[.slice A n c] w fun e w' => ∃ x : Pay, e = .returned (.agg (repB l).cells.toArray) ∧ Stp (blksOf (lookM (den olds w0 L)) []) w w' (lookM (den olds w0 (zipW [] []))) := by
  subst hn
  have hps' : [some (Pc.ry D A l)] = [j].map (lookP L) := by simpa using hps
  have hpc : RdB olds w0 D A l ∧ Byts l := hS.pure_ j (one_pc (olds := olds) (w0 := w0) hps').2
  have hr := rdb_kept hS hpc.1
  obtain ⟨b, o, rfl, _⟩ := Reads.addr hr (by omega) (by omega)
  exact (readRep_any w.heap.size b o c l w hr (Nat.le_refl _) hpc.2 h24 hc).mono fun e w' ⟨he, hB⟩ => ⟨pay0, he, stp_of_below hB⟩

set_option maxHeartbeats 4000000 in
set_option maxRecDepth 100000 in
theorem reports_read (n : Nat) (B b o c : Nat) (y : List Int) (w : World) (hr : Reads w B 1 (some ⟨b, o, none⟩) y.length (u8s y)) (hB : B ≤ w.heap.size) (hz : Byts y) (hn : 24 * n ≤ y.length) (hc : y.length ≤ c) (hl : y.length ≤ 1048576) :
    Calls Tryz.prog 39 #[.slice (some ⟨b, o, none⟩) y.length c, .int .i64 (n : Nat)] w fun e w' => ∃ A c1 v, e = .returned (.tuple #[.slice A n c1, v]) ∧ InRows w' w.heap.size w'.heap.size 7 A n ((parts4 repB 24 n y).flatMap Rep.cells) ∧ SlB w B v (y.drop (24 * n)) ∧ Below w.heap.size w w' := by
  refine go_in Tryz.func39 rfl Tryz.ntmps39 [sv b o y.length c, .int .i64 (n : Nat)] fun a hE => ?_
  have hS := stp_in w
  have hS := stp_ry hS 111 hr (fun x hx => ⟨by omega, id⟩) hz
  refine rg hE hS [pu, pu] (fun _ => kp [(4, .slice none 0 0), (5, .slice none 0 0)]) (fun _ => kP []) fun _ a u hE hS => ?_
  refine wp_seq ?_
  refine rg hE hS [pu, pu] (fun _ => kn [(6, .int .i64 (n : Nat)), (7, .int .i64 0)] [0, 4, 5]) (fun _ => kN [] [111]) fun _ a u hE hS => ?_
  have hS := stp_row0 hS 1 w.heap.size 85 7
  refine range_up hE hS 7 n (fun _ x => kd [7, 8, 16] [(4, .slice x.p.a x.n x.p.c), (0, sv x.y.1.g x.y.1.c x.y.2.1.length x.y.2.2)]) (fun _ x => kP [(1, some (.row w.heap.size 85 7 (.slice x.p.a x.n x.p.c) x.n x.xs)), (111, some (.ry (fun x => x < B) (some ⟨x.y.1.g, x.y.1.c, none⟩) x.y.2.1))]) (fun k (x : Lx (Pay × List Int × Nat)) => x.n = k ∧ x.xs = (parts4 repB 24 k y).flatMap Rep.cells ∧ x.y.2.1 = y.drop (24 * k) ∧ x.y.2.1.length ≤ x.y.2.2) ⟨pay0, 0, [], (⟨b, o, undef, none⟩ : Pay), y, c⟩ (by omega) (⟨rfl, by simp [parts4], by simp, by show y.length ≤ c; omega⟩) (fun k x a u hk hI hE hS K hK RK hRK => ?_) fun ⟨qq, n1, xs1, q2, z2, c2⟩ a u hI hE hS => ?_
  · obtain ⟨hk1, hk2, hk3, hk4⟩ := hI
    obtain ⟨xp, xn, xs, y1, z1, c1⟩ := x
    simp only at hk1 hk2 hk3 hk4
    have hzl : z1.length = y.length - 24 * k := by rw [hk3]; exact List.length_drop
    have h24 : 24 * (k + 1) ≤ y.length := by omega
    refine rgp hE hS [pu, pu, cu 61 [111] [] (fun _ => .agg (repB z1).cells.toArray) (fun _ => []), nw 92, ap 1 [92], pu] (fun p3 => kp [(4, .slice (p3 4).a (xn + 1) (p3 4).c)]) (fun p3 => kP [(1, some (.row w.heap.size 85 7 (.slice (p3 4).a (xn + 1) (p3 4).c) (xn + 1) (xs ++ (repB z1).cells)))]) (fun _ => ⟨kr (cu_rep (w0 := w) (olds := fun _ => False) (D := fun x => x < B) 111 (some ⟨y1.g, y1.c, none⟩) z1 z1.length c1 rfl (by omega) (by omega)), kr (show w.heap.size ≤ w.heap.size ∧ (xn + 1) * 28 ≤ 140737488355328 ∧ ∀ u ∈ (repB z1).cells, u.oneCell' = true from ⟨Nat.le_refl _, by omega, by intro u hu; simp [Rep.cells] at hu; rcases hu with rfl | rfl | rfl | rfl | rfl | rfl | rfl <;> rfl⟩), trivial⟩) fun p3 a u hE hS => ?_
    refine rgE hE hS [pu, rsl 111 111, pu] (fun p4 => kp [(0, sv (p4 1).g (p4 1).c (z1.drop 24).length (c1 - 24))]) (fun p4 => kP [(111, some (.ry (fun x => x < B) ((some ⟨(p4 1).g, (p4 1).c, none⟩)) (z1.drop 24)))]) (fun _ => ⟨kr (show 24 ≤ z1.length ∧ z1.length ≤ z1.length ∧ z1.length ≤ c1 by omega), trivial⟩) fun p4 a u hE hS => ?_
    exact hK ⟨(p3 4), xn + 1, xs ++ (repB z1).cells, (p4 1), z1.drop 24, c1 - 24⟩ a u _ _ ⟨congrArg (· + 1) hk1, by show xs ++ _ = _; rw [hk2, parts4_succ, List.flatMap_append, hk3]; simp, by show z1.drop 24 = _; rw [hk3, List.drop_drop]; rfl, by show (z1.drop 24).length ≤ c1 - 24; rw [List.length_drop]; omega⟩ hE hS (by kernel_rfl)
  simp only at hI
  obtain ⟨h1, h2, h3, h4⟩ := hI
  subst h1
  refine rg hE hS [pu, pu, pu, pu] (fun _ => kp [(5, sv q2.g q2.c z2.length c2)]) (fun _ => kP []) fun _ a u hE hS => ?_
  refine wp_ret ?_
  have hrow := pcR (base := w.heap.size) (e := 85) (size := 7) (v := .slice qq.a n1 qq.c) (n := n1) (xs := xs1) hS 1
  have hrd : RdB (fun _ => False) w (fun x => x < B) (some ⟨q2.g, q2.c, none⟩) z2 ∧ Byts z2 := hS.pure_ 111 (by kernel_rfl)
  obtain ⟨⟨hr1, hB1⟩, _⟩ := hrd
  exact ret2 hE Tryz.results39 (.slice qq.a n1 qq.c) (.slice (some ⟨q2.g, q2.c, none⟩) z2.length c2) ⟨qq.a, qq.c, _, rfl, by rw [← h2]; exact InRows.of_own hrow, ⟨_, _, by rw [h3], by rw [← h3]; exact h4, by rw [← h3]; exact hr1.reads⟩, hS.below⟩

def srcB (b : List Int) : Int := rd32 b 0
def cs4 (v : Value) (t : ByteArray) : Array Value := #[.int .i64 4, .int .u32 0, .int .u32 0, .int .u64 0, .int .u32 0, .int .u32 0, .int .u32 0, .slice none 0 0, .slice none 0 0, .slice none 0 0, v, .string t, .int .u8 0, .slice none 0 0, .slice none 0 0, .slice none 0 0, .slice none 0 0, .int .u32 0, .slice none 0 0, .int .u32 0, .int .u16 0, .int .u16 0, .int .u32 0, .int .u8 0, .slice none 0 0, .slice none 0 0, .bool false, .int .u8 0, .int .u8 0, .int .u16 0]
def ByeT (z : List Int) (t : ByteArray) : Prop := (z.length = 0 ∧ t = ByteArray.empty) ∨ ∃ r : Nat, gi z 0 = (r : Int) ∧ 1 + r ≤ z.length ∧ t = strB ((z.take (1 + r)).drop 1)
def ByeR (n : Nat) (y : List Int) (q : Pkt) : Prop := ∃ A c t, q = { pNul with kind := 4, sources := ⟨A, c, parts4 srcB 4 n y⟩, text := t } ∧ 4 * n ≤ y.length ∧ ByeT (y.drop (4 * n)) t
set_option maxHeartbeats 4000000 in
set_option maxRecDepth 100000 in
theorem readBye_any (g : Nat) (n : Nat) (B b o c : Nat) (y : List Int) (w : World) (hb : Blk w g 38 (cs4 (.slice none 0 0) ByteArray.empty)) (hr : Reads w B 1 (some ⟨b, o, none⟩) y.length (u8s y)) (hB : B ≤ g) (hz : Byts y) (hc : y.length ≤ c) (hl : y.length ≤ 1048576) (hn : n ≤ 31) :
    Calls Tryz.prog 41 #[.pointer (some ⟨g, 0, none⟩), .slice (some ⟨b, o, none⟩) y.length c, .int .i64 (n : Nat)] w (RdOut g w (ByeR n y)) := by
  refine go_in Tryz.func41 rfl Tryz.ntmps41 [pt g 0, sv b o y.length c, .int .i64 (n : Nat)] fun a hE => ?_
  have hS := stp_blk1 101 hb
  have hS := stp_ry hS 111 hr (fun x hx => ⟨by have := hb.lt; omega, by omega⟩) hz
  by_cases h4 : y.length < 4 * n
  · skip
    refine rg hE hS [pu] (fun _ => kp [(6, .bool false)]) (fun _ => kP []) fun _ a u hE hS => ?_
    refine wp_seq ?_
    refine rgp hE hS [pu, pu, pu, pe (.int .i64 ((4 * n : Nat) : Int)), pe (.bool true)] (fun _ => kp [(14, .bool true)]) (fun _ => kP []) (fun _ => ⟨kr (congrArg (Value.int .i64) (show IntKind.i64.wrap ((4 : Int) * ((n : Nat) : Int)) = ((4 * n : Nat) : Int) from by rw [IntWalk.i64_in _ (by omega)]; omega)), kr (congrArg Value.bool (decide_eq_true (show ((y.length : Nat) : Int) < ((4 * n : Nat) : Int) by omega))), trivial⟩) fun _ a u hE hS => ?_
    refine ift hE ?_
    refine rg hE hS [pu] (fun _ => kp []) (fun _ => kP []) fun _ a u hE hS => ?_
    refine wp_ret (thR ?_)
    exact ret1 hE Tryz.results41 (.bool false) ⟨_, rfl, hS.grownBy (some g) (fun _ e => by rw [e]), (fun h => by cases h)⟩
  refine rg hE hS [pu] (fun _ => kp [(6, .bool false)]) (fun _ => kP []) fun _ a u hE hS => ?_
  refine wp_seq ?_
  refine rgp hE hS [pu, pu, pu, pe (.int .i64 ((4 * n : Nat) : Int)), pe (.bool false)] (fun _ => kp [(14, .bool false)]) (fun _ => kP []) (fun _ => ⟨kr (congrArg (Value.int .i64) (show IntKind.i64.wrap ((4 : Int) * ((n : Nat) : Int)) = ((4 * n : Nat) : Int) from by rw [IntWalk.i64_in _ (by omega)]; omega)), kr (congrArg Value.bool (decide_eq_false (show ¬ (((y.length : Nat) : Int) < ((4 * n : Nat) : Int)) by omega))), trivial⟩) fun _ a u hE hS => ?_
  refine iff hE ?_
  refine wp_skip ?_
  refine wp_seq ?_
  refine rg hE hS [pu, pu] (fun _ => kn [(15, .int .i64 (n : Nat)), (16, .int .i64 0)] [0, 1, 6]) (fun _ => kN [] [111, 101]) fun _ a u hE hS => ?_
  have hS := stp_row0 hS 1 w.heap.size 22 1
  refine range_up hE hS 16 n (fun _ x => kd [16, 17, 31] [(1, sv x.y.1.g x.y.1.c x.y.2.1.length x.y.2.2)]) (fun _ x => kP [(101, some (.blk g 38 ((cs4 (.slice x.p.a x.n x.p.c) ByteArray.empty)))), (1, some (.row w.heap.size 22 1 (.slice x.p.a x.n x.p.c) x.n x.xs)), (111, some (.ry (fun x => x < B) (some ⟨x.y.1.g, x.y.1.c, none⟩) x.y.2.1))]) (fun k (x : Lx (Pay × List Int × Nat)) => x.n = k ∧ x.xs = (parts4 srcB 4 k y).flatMap u32c ∧ x.y.2.1 = y.drop (4 * k) ∧ x.y.2.1.length ≤ x.y.2.2) ⟨pay0, 0, [], (⟨b, o, undef, none⟩ : Pay), y, c⟩ (by omega) (⟨rfl, by simp [parts4], by simp, by show y.length ≤ c; omega⟩) (fun k x a u hk hI hE hS K hK RK hRK => ?_) fun ⟨qq, n1, xs1, q2, z2, c2⟩ a u hI hE hS => ?_
  · obtain ⟨hk1, hk2, hk3, hk4⟩ := hI
    obtain ⟨xp, xn, xs, y1, z1, c1⟩ := x
    simp only at hk1 hk2 hk3 hk4
    have hzl : z1.length = y.length - 4 * k := by rw [hk3]; exact List.length_drop
    have h24 : 4 * (k + 1) ≤ y.length := by omega
    refine dgp hE hS [pu, pu, pu, pu, ld 101, pu, cl cU32 [111] [], nw 92, ap 1 [92], pu, pu, st 101] (fun _ => kp []) (fun p7 => kP [(101, some (.blk g 38 ((cs4 (.slice (p7 8).a (xn + 1) (p7 8).c) ByteArray.empty)))), (1, some (.row w.heap.size 22 1 (.slice (p7 8).a (xn + 1) (p7 8).c) (xn + 1) (xs ++ u32c (srcB z1))))]) (fun _ => ⟨kr (show 4 ≤ z1.length ∧ z1.length ≤ c1 ∧ 0 < z1.length by omega), kr (show w.heap.size ≤ w.heap.size ∧ (xn + 1) * 4 ≤ 140737488355328 ∧ ∀ u ∈ u32c (srcB z1), u.oneCell' = true from ⟨Nat.le_refl _, by omega, by intro u hu; simp [u32c] at hu; rw [hu]; rfl⟩), trivial⟩) fun p7 a u hE hS => ?_
    refine rgE hE hS [pu, rsl 111 111, pu] (fun p8 => kp [(1, sv (p8 1).g (p8 1).c (z1.drop 4).length (c1 - 4))]) (fun p8 => kP [(111, some (.ry (fun x => x < B) ((some ⟨(p8 1).g, (p8 1).c, none⟩)) (z1.drop 4)))]) (fun _ => ⟨kr (show 4 ≤ z1.length ∧ z1.length ≤ z1.length ∧ z1.length ≤ c1 by omega), trivial⟩) fun p8 a u hE hS => ?_
    exact hK ⟨(p7 8), xn + 1, xs ++ u32c (srcB z1), (p8 1), z1.drop 4, c1 - 4⟩ a u _ _ ⟨congrArg (· + 1) hk1, by show xs ++ _ = _; rw [hk2, parts4_succ, List.flatMap_append, hk3]; simp, by show z1.drop 4 = _; rw [hk3, List.drop_drop]; rfl, by show (z1.drop 4).length ≤ c1 - 4; rw [List.length_drop]; omega⟩ hE hS (by kernel_rfl)
  simp only at hI
  obtain ⟨h1, h2, h3, h4b⟩ := hI
  subst h1
  have hz2 : Byts z2 := by rw [h3]; exact hz.drop _
  have hzl : z2.length = y.length - 4 * n1 := by rw [h3]; exact List.length_drop
  by_cases hq0 : z2.length = 0
  · skip
    refine wp_seq ?_
    refine rgp hE hS [pu, pu, pe (.bool true)] (fun _ => kp [(34, .bool true)]) (fun _ => kP []) (fun _ => ⟨kr (congrArg Value.bool (beq_iff_eq.2 (show (((z2.length : Nat) : Int) : Int) = 0 by omega))), trivial⟩) fun _ a u hE hS => ?_
    refine ift hE ?_
    refine rg hE hS [pu] (fun _ => kp [(6, .bool true)]) (fun _ => kP []) fun _ a u hE hS => ?_
    refine wp_ret (thR ?_)
    have hrow := pcR (base := w.heap.size) (e := 22) (size := 1) (v := .slice qq.a n1 qq.c) (n := n1) (xs := xs1) hS 1
    have hblk := pcB (g := g) (T := 38) (cs := cs4 (.slice qq.a n1 qq.c) ByteArray.empty) hS 101
    have hrow2 : InRows u w.heap.size u.heap.size 1 qq.a (parts4 srcB 4 n1 y).length ((parts4 srcB 4 n1 y).flatMap u32c) := by rw [parts4_len, ← h2]; exact InRows.of_own hrow
    exact ret1 hE Tryz.results41 (.bool true) ⟨_, rfl, hS.grownBy (some g) (fun _ e => by rw [e]), fun _ => ⟨{ pNul with kind := 4, sources := ⟨qq.a, qq.c, parts4 srcB 4 n1 y⟩, text := ByteArray.empty }, (by have e : ({ pNul with kind := 4, sources := ⟨qq.a, qq.c, parts4 srcB 4 n1 y⟩, text := ByteArray.empty } : Pkt).cells = cs4 (.slice qq.a n1 qq.c) ByteArray.empty := (by unfold cs4 Pkt.cells Sl.val; simp only [parts4_len]; rfl); rw [e]; exact hblk), ⟨⟨.nil, .nil, (fun x hx => by cases hx), .nil, .nil, .nil, .nil, (fun x hx => by cases hx), .nil, .nil⟩, hrow2, (fun x hx => by cases hx), rfl, rfl⟩, qq.a, qq.c, ByteArray.empty, rfl, by omega, by rw [← h3]; exact .inl ⟨hq0, rfl⟩⟩⟩
  have hg0 := hz2.gi 0
  obtain ⟨r, hr0⟩ : ∃ r : Nat, gi z2 0 = (r : Int) := ⟨(gi z2 0).toNat, by omega⟩
  by_cases hq17 : 1 + r > z2.length
  · skip
    refine wp_seq ?_
    refine rgp hE hS [pu, pu, pe (.bool false)] (fun _ => kp [(34, .bool false)]) (fun _ => kP []) (fun _ => ⟨kr (congrArg Value.bool (beq_eq_false_iff_ne.2 (show (((z2.length : Nat) : Int) : Int) ≠ 0 by omega))), trivial⟩) fun _ a u hE hS => ?_
    refine iff hE ?_
    refine wp_skip ?_
    refine rgp hE hS [pu, ix, rb 111 0, pe (.int .i64 (gi z2 0)), pe (.int .i64 ((1 + r : Nat) : Int)), pu] (fun _ => kp [(7, .int .i64 ((1 + r : Nat) : Int))]) (fun _ => kP []) (fun _ => ⟨kr (show 0 < z2.length by omega), kr (show 0 < (z2).length by omega), kr (congrArg (Value.int .i64) (IntWalk.i64_in (gi z2 0) (by omega))), kr (congrArg (Value.int .i64) (show IntKind.i64.wrap (1 + gi z2 0) = ((1 + r : Nat) : Int) from (IntWalk.i64_in _ (by omega)).trans (by omega))), trivial⟩) fun _ a u hE hS => ?_
    refine wp_seq ?_
    refine rgp hE hS [pu, pu, pu, pe (.bool true), pu, sk, sk, sk, sk, sk, pu, pu, sk, sk, pu] (fun _ => kp [(54, .bool true)]) (fun _ => kP []) (fun _ => ⟨kr (congrArg Value.bool (decide_eq_true (show ((1 + r : Nat) : Int) > ((z2.length : Nat) : Int) by omega))), trivial⟩) fun _ a u hE hS => ?_
    refine ift hE ?_
    refine rg hE hS [pu] (fun _ => kp []) (fun _ => kP []) fun _ a u hE hS => ?_
    refine wp_ret (thR ?_)
    exact ret1 hE Tryz.results41 (.bool false) ⟨_, rfl, hS.grownBy (some g) (fun _ e => by rw [e]), (fun h => by cases h)⟩
  by_cases hq23 : z2.length - (1 + r) > 3
  · skip
    refine wp_seq ?_
    refine rgp hE hS [pu, pu, pe (.bool false)] (fun _ => kp [(34, .bool false)]) (fun _ => kP []) (fun _ => ⟨kr (congrArg Value.bool (beq_eq_false_iff_ne.2 (show (((z2.length : Nat) : Int) : Int) ≠ 0 by omega))), trivial⟩) fun _ a u hE hS => ?_
    refine iff hE ?_
    refine wp_skip ?_
    refine rgp hE hS [pu, ix, rb 111 0, pe (.int .i64 (gi z2 0)), pe (.int .i64 ((1 + r : Nat) : Int)), pu] (fun _ => kp [(7, .int .i64 ((1 + r : Nat) : Int))]) (fun _ => kP []) (fun _ => ⟨kr (show 0 < z2.length by omega), kr (show 0 < (z2).length by omega), kr (congrArg (Value.int .i64) (IntWalk.i64_in (gi z2 0) (by omega))), kr (congrArg (Value.int .i64) (show IntKind.i64.wrap (1 + gi z2 0) = ((1 + r : Nat) : Int) from (IntWalk.i64_in _ (by omega)).trans (by omega))), trivial⟩) fun _ a u hE hS => ?_
    refine wp_seq ?_
    refine rgp hE hS [pu, pu, pu, pe (.bool false), pu, pu, pu, pu, pe (.int .i64 ((z2.length - (1 + r) : Nat) : Int)), pe (.bool true), pu, pu, sk, sk, pu] (fun _ => kp [(54, .bool true)]) (fun _ => kP []) (fun _ => ⟨kr (congrArg Value.bool (decide_eq_false (show ¬ (((1 + r : Nat) : Int) > ((z2.length : Nat) : Int)) by omega))), kr (congrArg (Value.int .i64) (show IntKind.i64.wrap (((z2.length : Nat) : Int) - ((1 + r : Nat) : Int)) = ((z2.length - (1 + r) : Nat) : Int) from (IntWalk.i64_in _ (by omega)).trans (by omega))), kr (congrArg Value.bool (decide_eq_true (show ((z2.length - (1 + r) : Nat) : Int) > 3 by omega))), trivial⟩) fun _ a u hE hS => ?_
    refine ift hE ?_
    refine rg hE hS [pu] (fun _ => kp []) (fun _ => kP []) fun _ a u hE hS => ?_
    refine wp_ret (thR ?_)
    exact ret1 hE Tryz.results41 (.bool false) ⟨_, rfl, hS.grownBy (some g) (fun _ e => by rw [e]), (fun h => by cases h)⟩
  by_cases hq5 : r = 0
  · skip
    refine wp_seq ?_
    refine rgp hE hS [pu, pu, pe (.bool false)] (fun _ => kp [(34, .bool false)]) (fun _ => kP []) (fun _ => ⟨kr (congrArg Value.bool (beq_eq_false_iff_ne.2 (show (((z2.length : Nat) : Int) : Int) ≠ 0 by omega))), trivial⟩) fun _ a u hE hS => ?_
    refine iff hE ?_
    refine wp_skip ?_
    refine rgp hE hS [pu, ix, rb 111 0, pe (.int .i64 (gi z2 0)), pe (.int .i64 ((1 + r : Nat) : Int)), pu] (fun _ => kp [(7, .int .i64 ((1 + r : Nat) : Int))]) (fun _ => kP []) (fun _ => ⟨kr (show 0 < z2.length by omega), kr (show 0 < (z2).length by omega), kr (congrArg (Value.int .i64) (IntWalk.i64_in (gi z2 0) (by omega))), kr (congrArg (Value.int .i64) (show IntKind.i64.wrap (1 + gi z2 0) = ((1 + r : Nat) : Int) from (IntWalk.i64_in _ (by omega)).trans (by omega))), trivial⟩) fun _ a u hE hS => ?_
    refine wp_seq ?_
    refine rgp hE hS [pu, pu, pu, pe (.bool false), pu, pu, pu, pu, pe (.int .i64 ((z2.length - (1 + r) : Nat) : Int)), pe (.bool false), pu, pu, pu, pe (.bool true), pu] (fun _ => kp [(54, .bool true)]) (fun _ => kP []) (fun _ => ⟨kr (congrArg Value.bool (decide_eq_false (show ¬ (((1 + r : Nat) : Int) > ((z2.length : Nat) : Int)) by omega))), kr (congrArg (Value.int .i64) (show IntKind.i64.wrap (((z2.length : Nat) : Int) - ((1 + r : Nat) : Int)) = ((z2.length - (1 + r) : Nat) : Int) from (IntWalk.i64_in _ (by omega)).trans (by omega))), kr (congrArg Value.bool (decide_eq_false (show ¬ (((z2.length - (1 + r) : Nat) : Int) > 3) by omega))), kr (congrArg Value.bool (beq_iff_eq.2 (show (((1 + r : Nat) : Int) : Int) = 1 by omega))), trivial⟩) fun _ a u hE hS => ?_
    refine ift hE ?_
    refine rg hE hS [pu] (fun _ => kp []) (fun _ => kP []) fun _ a u hE hS => ?_
    refine wp_ret (thR ?_)
    exact ret1 hE Tryz.results41 (.bool false) ⟨_, rfl, hS.grownBy (some g) (fun _ e => by rw [e]), (fun h => by cases h)⟩
  refine wp_seq ?_
  refine rgp hE hS [pu, pu, pe (.bool false)] (fun _ => kp [(34, .bool false)]) (fun _ => kP []) (fun _ => ⟨kr (congrArg Value.bool (beq_eq_false_iff_ne.2 (show (((z2.length : Nat) : Int) : Int) ≠ 0 by omega))), trivial⟩) fun _ a u hE hS => ?_
  refine iff hE ?_
  refine wp_skip ?_
  refine rgp hE hS [pu, ix, rb 111 0, pe (.int .i64 (gi z2 0)), pe (.int .i64 ((1 + r : Nat) : Int)), pu] (fun _ => kp [(7, .int .i64 ((1 + r : Nat) : Int))]) (fun _ => kP []) (fun _ => ⟨kr (show 0 < z2.length by omega), kr (show 0 < (z2).length by omega), kr (congrArg (Value.int .i64) (IntWalk.i64_in (gi z2 0) (by omega))), kr (congrArg (Value.int .i64) (show IntKind.i64.wrap (1 + gi z2 0) = ((1 + r : Nat) : Int) from (IntWalk.i64_in _ (by omega)).trans (by omega))), trivial⟩) fun _ a u hE hS => ?_
  refine wp_seq ?_
  refine rgp hE hS [pu, pu, pu, pe (.bool false), pu, pu, pu, pu, pe (.int .i64 ((z2.length - (1 + r) : Nat) : Int)), pe (.bool false), pu, pu, pu, pe (.bool false), pu] (fun _ => kp [(54, .bool false)]) (fun _ => kP []) (fun _ => ⟨kr (congrArg Value.bool (decide_eq_false (show ¬ (((1 + r : Nat) : Int) > ((z2.length : Nat) : Int)) by omega))), kr (congrArg (Value.int .i64) (show IntKind.i64.wrap (((z2.length : Nat) : Int) - ((1 + r : Nat) : Int)) = ((z2.length - (1 + r) : Nat) : Int) from (IntWalk.i64_in _ (by omega)).trans (by omega))), kr (congrArg Value.bool (decide_eq_false (show ¬ (((z2.length - (1 + r) : Nat) : Int) > 3) by omega))), kr (congrArg Value.bool (beq_eq_false_iff_ne.2 (show (((1 + r : Nat) : Int) : Int) ≠ 1 by omega))), trivial⟩) fun _ a u hE hS => ?_
  refine iff hE ?_
  refine wp_skip ?_
  refine rgp hE hS [pu, pu, pu, rsl 111 112, rt 112, pu, pu, st 101] (fun _ => kp []) (fun _ => kP [(101, some (.blk g 38 ((cs4 (.slice qq.a n1 qq.c) ((strB ((z2.take (1 + r)).drop 1)))))))]) (fun _ => ⟨kr (show 1 ≤ (1 + r) ∧ (1 + r) ≤ z2.length ∧ z2.length ≤ c2 by omega), trivial⟩) fun _ a u hE hS => ?_
  refine wp_seq ?_
  refine rgp hE hS [pu, pu, rsl 111 113, pu, pu] (fun p27 => kn [(64, sv (p27 2).g (p27 2).c (z2.drop (1 + r)).length (c2 - (1 + r))), (65, .int .i64 ((z2.drop (1 + r)).length : Nat)), (66, .int .i64 0)] [6]) (fun p27 => kN [(113, some (.ry (fun x => x < B) ((some ⟨(p27 2).g, (p27 2).c, none⟩)) (z2.drop (1 + r))))] [101, 1, 111]) (fun _ => ⟨kr (show (1 + r) ≤ z2.length ∧ z2.length ≤ z2.length ∧ z2.length ≤ c2 by omega), trivial⟩) fun p27 a u hE hS => ?_
  refine range_up hE hS 66 ((z2.drop (1 + r)).length) (fun _ _ => kd [66, 67, 72] []) (fun _ x => kP []) (fun k (x : Unit) => True) () (by rw [List.length_drop]; omega) (trivial) (fun k x a u hk hI hE hS K hK RK hRK => ?_) fun _ a u hI hE hS => ?_
  · obtain hk1 := hI
    by_cases hb0 : gi (z2.drop (1 + r)) k = 0
    rotate_left
    · skip
      refine rgp hE hS [ix, rb 113 k, pu] (fun _ => kp [(9, .int .u8 (gi (z2.drop (1 + r)) k))]) (fun _ => kP []) (fun _ => ⟨kr (show k < (z2.drop (1 + r)).length by omega), kr (show k < (z2.drop (1 + r)).length by omega), trivial⟩) fun _ a u hE hS => ?_
      refine rgp hE hS [pu, pe (.bool true)] (fun _ => kp [(71, .bool true)]) (fun _ => kP []) (fun _ => ⟨kr (congrArg Value.bool (bne_iff_ne.2 hb0)), trivial⟩) fun _ a u hE hS => ?_
      refine ift hE ?_
      refine rg hE hS [pu] (fun _ => kp []) (fun _ => kP []) fun _ a u hE hS => ?_
      refine wp_ret (bkR (thR (hRK _ _ _ (fun _ h => by cases h) (fun h => by cases h) (thR ?_))))
      exact ret1 hE Tryz.results41 (.bool false) ⟨_, rfl, hS.grownBy (some g) (fun _ e => by rw [e]), (fun h => by cases h)⟩
    refine rgp hE hS [ix, rb 113 k, pu] (fun _ => kp [(9, .int .u8 (gi (z2.drop (1 + r)) k))]) (fun _ => kP []) (fun _ => ⟨kr (show k < (z2.drop (1 + r)).length by omega), kr (show k < (z2.drop (1 + r)).length by omega), trivial⟩) fun _ a u hE hS => ?_
    refine rgp hE hS [pu, pe (.bool false)] (fun _ => kp [(71, .bool false)]) (fun _ => kP []) (fun _ => ⟨kr (congrArg Value.bool (show (gi (z2.drop (1 + r)) k != 0) = false by rw [hb0]; rfl)), trivial⟩) fun _ a u hE hS => ?_
    refine iff hE ?_
    refine wp_skip ?_
    exact hK () a u _ _ trivial hE hS (by kernel_rfl)
  refine rg hE hS [pu] (fun _ => kp [(6, .bool true)]) (fun _ => kP []) fun _ a u hE hS => ?_
  refine wp_ret ?_
  have hrow := pcR (base := w.heap.size) (e := 22) (size := 1) (v := .slice qq.a n1 qq.c) (n := n1) (xs := xs1) hS 1
  have hblk := pcB (g := g) (T := 38) (cs := cs4 (.slice qq.a n1 qq.c) (strB ((z2.take (1 + r)).drop 1))) hS 101
  have hrow2 : InRows u w.heap.size u.heap.size 1 qq.a (parts4 srcB 4 n1 y).length ((parts4 srcB 4 n1 y).flatMap u32c) := by rw [parts4_len, ← h2]; exact InRows.of_own hrow
  exact ret1 hE Tryz.results41 (.bool true) ⟨_, rfl, hS.grownBy (some g) (fun _ e => by rw [e]), fun _ => ⟨{ pNul with kind := 4, sources := ⟨qq.a, qq.c, parts4 srcB 4 n1 y⟩, text := (strB ((z2.take (1 + r)).drop 1)) }, (by have e : ({ pNul with kind := 4, sources := ⟨qq.a, qq.c, parts4 srcB 4 n1 y⟩, text := (strB ((z2.take (1 + r)).drop 1)) } : Pkt).cells = cs4 (.slice qq.a n1 qq.c) (strB ((z2.take (1 + r)).drop 1)) := (by unfold cs4 Pkt.cells Sl.val; simp only [parts4_len]; rfl); rw [e]; exact hblk), ⟨⟨.nil, .nil, (fun x hx => by cases hx), .nil, .nil, .nil, .nil, (fun x hx => by cases hx), .nil, .nil⟩, hrow2, (fun x hx => by cases hx), rfl, rfl⟩, qq.a, qq.c, (strB ((z2.take (1 + r)).drop 1)), rfl, by omega, by rw [← h3]; exact .inr ⟨r, hr0, by omega, rfl⟩⟩⟩

end Go.Proofs.YtmmfpgoodfgkbaaGreat
