/-
  THE WALK of the thin package's making of transport-wide feedback, as far as its media source asks. Condition: its lists lie in memory.
-/
import Derived.Test.YtmmfpgoodfgkbaaGreatDoorPl13
import Derived.Test.YtmmfpgoodfgkbaaGreatDoorMClone
import Derived.Test.YtmmfpgoodfgkbaaGreatDoorMBl
import Derived.Test.YtmmfpgoodfgkbaaGreatDoorPl
namespace Go.Proofs.YtmmfpgoodfgkbaaGreatDoor
open Go Go.RowKit
set_option maxHeartbeats 4000000
set_option maxRecDepth 100000
set_option linter.unusedVariables false
set_option linter.unusedSimpArgs false

theorem bhdr_any (b : Bool) (c t l : Int) (w : World) : Calls Tryz.prog 97 #[.agg #[.bool b, .int .u8 c, .int .u8 t, .int .u16 l]] w fun e w' => e = .returned (.agg #[.bool b, .int .u8 c, .int .u8 t, .int .u16 l]) ∧ Below w.heap.size w w' := by
 refine go_in Tryz.func97 rfl Tryz.ntmps97 [.agg #[.bool b, .int .u8 c, .int .u8 t, .int .u16 l]] fun a hE => ?_
 have hS := stp_in w
 refine rg hE hS [nw 100, nw 102] (fun p1 => kp [(1, pt (p1 0).g 0), (2, pt (p1 1).g 0)]) (fun p1 => kP [(100, some (.blk (p1 0).g 44 #[.bool b, .int .u8 c, .int .u8 t, .int .u16 l])), (102, some (.blk (p1 1).g 83 #[.bool false, .int .u8 0, .int .u8 0, .int .u16 0]))]) fun p1 a u hE hS => ?_
 refine rg hE hS [pu, ld 100, pu, ld 100, pu, ld 100, pu, ld 100, pu, st 102] kp0 (fun _ => kP [(102, some (.blk (p1 1).g 83 #[.bool b, .int .u8 c, .int .u8 t, .int .u16 l]))]) fun _ a u hE hS => ?_
 refine wp_ret ?_
 exact retc hE hS Tryz.results97 102 (p1 1).g 83 #[.bool b, .int .u8 c, .int .u8 t, .int .u16 l] ⟨rfl, hS.below⟩ Tryz.underlying83
theorem transp_any (p : Pkt) (w : World) (hs : Reads w w.heap.size 5 p.stats.A p.stats.l.length (p.stats.l.flatMap Sta.cells)) (hsl : p.stats.l.length ≤ 1048576) (hli : ∀ x ∈ p.stats.l, Reads w w.heap.size 1 x.list.A x.list.l.length (x.list.l.flatMap u16c)) (hll : ∀ x ∈ p.stats.l, x.list.l.length ≤ 1048576) (hd : Reads w w.heap.size 2 p.deltas.A p.deltas.l.length (p.deltas.l.flatMap Dlt.cells)) (hdl : p.deltas.l.length ≤ 1048576) :
  Calls Tryz.prog 61 #[.agg p.cells] w fun e w' => ∃ g v1 v2, e = .returned (.pointer (some ⟨g, 0, none⟩)) ∧ Blk w' g 238 #[.bool p.hpad, .int .u8 p.hcount, .int .u8 p.htype, .int .u16 p.hlen, .int .u32 p.sender, .int .u32 p.media, .int .u16 p.base, .int .u16 p.count, .int .u32 p.ref, .int .u8 p.fb, v1, v2] ∧ w.heap.size ≤ g ∧ Below w.heap.size w w' := by
 refine go_in Tryz.func61 rfl Tryz.ntmps61 [.agg p.cells] fun a hE => ?_
 have hS := stp_in w
 refine rg hE hS [nw 100, pu] (fun p1 => kp [(1, pt (p1 0).g 0), (2, .pointer none)]) (fun p1 => kP [(100, some (.blk (p1 0).g 56 p.cells))]) fun p1 a u hE hS => ?_
 refine dgp hE hS [pu, ld 100, cu 97 [] [] (fun _ => .agg #[.bool p.hpad, .int .u8 p.hcount, .int .u8 p.htype, .int .u16 p.hlen]) (fun _ => []), pu, ld 100, pu, ld 100, pu, ld 100, pu, ld 100, pu, ld 100, pu, ld 100, pu, nw 101, pu] (fun p2 => kp [(3, pt (p2 16).g 0)]) (fun p2 => kP [(101, some (.blk (p2 16).g 238 #[.bool p.hpad, .int .u8 p.hcount, .int .u8 p.htype, .int .u16 p.hlen, .int .u32 p.sender, .int .u32 p.media, .int .u16 p.base, .int .u16 p.count, .int .u32 p.ref, .int .u8 p.fb, .slice none 0 0, .slice none 0 0]))]) (fun _ => ⟨kr (cu_cpt (olds := fun _ => False) (w0 := w) (bhdr_any p.hpad p.hcount p.htype p.hlen)), trivial⟩) fun p2 a u hE hS => ?_
 refine wp_seq ?_
 refine rg hE hS [pu, ld 100, pu, pu] (fun _ => kn [(26, .slice p.stats.A (p.stats.l.length : Nat) p.stats.c), (27, .int .i64 (p.stats.l.length : Nat)), (28, .int .i64 0)] [1, 2, 3]) (fun _ => kN [] [100, 101]) fun _ a u hE hS => ?_
 have hS := stp_row0 hS 1 w.heap.size 242 1
 refine range_up hE hS 28 p.stats.l.length (fun _ _ => kd [28, 29, 67] []) (fun _ x => kP [(101, some (.blk (p2 16).g 238 #[.bool p.hpad, .int .u8 p.hcount, .int .u8 p.htype, .int .u16 p.hlen, .int .u32 p.sender, .int .u32 p.media, .int .u16 p.base, .int .u16 p.count, .int .u32 p.ref, .int .u8 p.fb, .slice x.p.a x.n x.p.c, .slice none 0 0])), (1, some (.row w.heap.size 242 1 (.slice x.p.a x.n x.p.c) x.n x.xs))]) (fun k (x : Lx Unit) => x.n = k ∧ True) ⟨pay0, 0, [], ()⟩ (by omega) (⟨rfl, trivial⟩) (fun k x a u hk hI hE hS K hK RK hRK => ?_) fun ⟨qq, n1, xs1, _⟩ a u hI hE hS => ?_
 ·obtain ⟨hk1, hk2⟩ := hI
  obtain ⟨xp, xn, xs, _⟩ := x
  simp only at hk1
  have hkb : k < 1048576 := by omega
  have hS := stp_el hS 90 (el_at hs (fun _ _ => rfl) rfl (fun g hg => ⟨hg, id⟩) k hk (by omega))
  have hmem := List.getElem_mem hk
  generalize hrk : p.stats.l[k] = r at hS hmem
  refine rgp hE hS [ie 90, le 90 0, nw 91, st 91] (fun p4 => kp [(5, pt (p4 2).g 0)]) (fun p4 => kP [(91, some (.blk (p4 2).g 130 (Sta.cells r).toArray))]) (fun _ => ⟨kr (show k < p.stats.l.length from hk), trivial⟩) fun p4 a u hE hS => ?_
  have hE := end_env (s := ⟨_, []⟩) (s' := ⟨[(1, pt (p1 0).g 0), (2, .pointer none), (3, pt (p2 16).g 0), (26, .slice p.stats.A (p.stats.l.length : Nat) p.stats.c), (27, .int .i64 (p.stats.l.length : Nat)), (28, .int .i64 (k : Nat)), (5, pt (p4 2).g 0)], []⟩) (fst_snd (by kernel_rfl)) hE
  have hS := end_mem (s := ⟨[], _⟩) (s' := ⟨[], [(90, some (.el p.stats.A (k * 5) (Sta.cells r))), (1, some (.row w.heap.size 242 1 (.slice xp.a xn xp.c) xn xs)), (100, some (.blk (p1 0).g 56 p.cells)), (101, some (.blk (p2 16).g 238 #[.bool p.hpad, .int .u8 p.hcount, .int .u8 p.htype, .int .u16 p.hlen, .int .u32 p.sender, .int .u32 p.media, .int .u16 p.base, .int .u16 p.count, .int .u32 p.ref, .int .u8 p.fb, .slice xp.a xn xp.c, .slice none 0 0])), (91, some (.blk (p4 2).g 130 (Sta.cells r).toArray))]⟩) (fst_snd (by kernel_rfl)) hS
  cases hv : r.vec
  ·skip
   refine rgp hE hS [pu, ov (ld 91) (.bool false)] (fun _ => kp [(33, .bool false)]) kP0 (fun _ => ⟨fun _ => kr (congrArg Value.bool hv), trivial⟩) fun _ a u hE hS => iff hE ?_
   refine dgE hE hS [pu, pu, pu, pu, ld 101, pu, ld 91, pu, ld 91, pu, nw 93, pu, nw 92, ap 1 [92], pu, pu, st 101] kp0 (fun p6 => kP [(101, some (.blk (p2 16).g 238 #[.bool p.hpad, .int .u8 p.hcount, .int .u8 p.htype, .int .u16 p.hlen, .int .u32 p.sender, .int .u32 p.media, .int .u16 p.base, .int .u16 p.count, .int .u32 p.ref, .int .u8 p.fb, .slice (p6 13).a (xn + 1) (p6 13).c, .slice none 0 0])), (1, some (.row w.heap.size 242 1 (.slice (p6 13).a (xn + 1) (p6 13).c) (xn + 1) (xs ++ [.iface 245 (pt (p6 10).g 0)]))), (93, some (.blk (p6 10).g 247 #[.nilIface, .int .u16 0, .int .u16 r.sym, .int .u16 r.run]))]) (fun p6 => ⟨kr (show w.heap.size ≤ w.heap.size ∧ (xn + 1) * 16 ≤ 140737488355328 ∧ ∀ u ∈ ([.iface 245 (.pointer (some ⟨(p6 10).g, 0, none⟩))] : List Value), u.oneCell' = true from ⟨Nat.le_refl _, by omega, by intro u hu; simp at hu; rw [hu]; rfl⟩), trivial⟩) fun p6 a u hE hS => ?_
   exact hK ⟨(p6 13), xn + 1, xs ++ [.iface 245 (.pointer (some ⟨(p6 10).g, 0, none⟩))], ()⟩ a u _ _ ⟨congrArg (· + 1) hk1, trivial⟩ hE hS (by kernel_rfl)
  refine rgp hE hS [pu, ov (ld 91) (.bool true)] (fun _ => kp [(33, .bool true)]) kP0 (fun _ => ⟨fun _ => kr (congrArg Value.bool hv), trivial⟩) fun _ a u hE hS => ift hE ?_
  refine dgE hE hS [pu, pu, pu, pu, ld 101, pu, ld 91, pu, ld 91, cu 98 [] [94] (fun y => .slice y.a r.list.l.length y.c) (fun y => [some (.row w.heap.size 32 1 (.slice y.a r.list.l.length y.c) r.list.l.length (r.list.l.flatMap u16c))]), pu, nw 93, pu, nw 92, ap 1 [92], pu, pu, st 101] kp0 (fun p8 => kP [(101, some (.blk (p2 16).g 238 #[.bool p.hpad, .int .u8 p.hcount, .int .u8 p.htype, .int .u16 p.hlen, .int .u32 p.sender, .int .u32 p.media, .int .u16 p.base, .int .u16 p.count, .int .u32 p.ref, .int .u8 p.fb, .slice (p8 14).a (xn + 1) (p8 14).c, .slice none 0 0])), (1, some (.row w.heap.size 242 1 (.slice (p8 14).a (xn + 1) (p8 14).c) (xn + 1) (xs ++ [.iface 239 (pt (p8 11).g 0)]))), (93, some (.blk (p8 11).g 244 #[.nilIface, .int .u16 1, .int .u16 r.size, .slice (p8 9).a r.list.l.length (p8 9).c])), (94, some (.row w.heap.size 32 1 (.slice (p8 9).a r.list.l.length (p8 9).c) r.list.l.length (r.list.l.flatMap u16c)))]) (fun p8 => ⟨kr (cu_rowP (P := Tryz.prog) (w0 := w) (ps := [none]) 98 #[.slice r.list.A (r.list.l.length : Nat) r.list.c] 94 32 1 r.list.l.length (r.list.l.flatMap u16c) (fun w4 hB hz => clone16 w4.heap.size r.list.A r.list.l.length r.list.c (r.list.l.flatMap u16c) w4 ((Reads.below (hli r hmem) hB).more hz) (u16c_oneP _) (Nat.le_refl _) (by have := hll r hmem; omega))), kr (show w.heap.size ≤ w.heap.size ∧ (xn + 1) * 16 ≤ 140737488355328 ∧ ∀ u ∈ ([.iface 239 (.pointer (some ⟨(p8 11).g, 0, none⟩))] : List Value), u.oneCell' = true from ⟨Nat.le_refl _, by omega, by intro u hu; simp at hu; rw [hu]; rfl⟩), trivial⟩) fun p8 a u hE hS => ?_
  exact hK ⟨(p8 14), xn + 1, xs ++ [.iface 239 (.pointer (some ⟨(p8 11).g, 0, none⟩))], ()⟩ a u _ _ ⟨congrArg (· + 1) hk1, trivial⟩ hE hS (by kernel_rfl)
 refine wp_seq ?_
 refine rg hE hS [pu, ld 100, pu, pu] (fun _ => kn [(69, .slice p.deltas.A (p.deltas.l.length : Nat) p.deltas.c), (70, .int .i64 (p.deltas.l.length : Nat)), (71, .int .i64 0)] [2, 3]) (fun _ => kN [] [1, 101]) fun _ a u hE hS => ?_
 have hE := end_env (s := ⟨_, []⟩) (s' := ⟨[(2, .pointer none), (3, pt (p2 16).g 0), (69, .slice p.deltas.A (p.deltas.l.length : Nat) p.deltas.c), (70, .int .i64 (p.deltas.l.length : Nat)), (71, .int .i64 0)], []⟩) (fst_snd (by kernel_rfl)) hE
 have hS := end_mem (s := ⟨[], _⟩) (s' := ⟨[], [(1, some (.row w.heap.size 242 1 (.slice qq.a n1 qq.c) n1 xs1)), (101, some (.blk (p2 16).g 238 #[.bool p.hpad, .int .u8 p.hcount, .int .u8 p.htype, .int .u16 p.hlen, .int .u32 p.sender, .int .u32 p.media, .int .u16 p.base, .int .u16 p.count, .int .u32 p.ref, .int .u8 p.fb, .slice qq.a n1 qq.c, .slice none 0 0]))]⟩) (fst_snd (by kernel_rfl)) hS
 have hS := stp_row0 hS 2 w.heap.size 248 1
 refine range_up hE hS 71 p.deltas.l.length (fun _ _ => kd [71, 72, 90] []) (fun _ x => kP [(101, some (.blk (p2 16).g 238 #[.bool p.hpad, .int .u8 p.hcount, .int .u8 p.htype, .int .u16 p.hlen, .int .u32 p.sender, .int .u32 p.media, .int .u16 p.base, .int .u16 p.count, .int .u32 p.ref, .int .u8 p.fb, .slice qq.a n1 qq.c, .slice x.p.a x.n x.p.c])), (2, some (.row w.heap.size 248 1 (.slice x.p.a x.n x.p.c) x.n x.xs))]) (fun k (x : Lx Unit) => x.n = k ∧ True) ⟨pay0, 0, [], ()⟩ (by omega) (⟨rfl, trivial⟩) (fun k x a u hk hI hE hS K hK RK hRK => ?_) fun ⟨q2, n2, xs2, _⟩ a u hI hE hS => ?_
 ·obtain ⟨hk1, hk2⟩ := hI
  obtain ⟨xp, xn, xs, _⟩ := x
  simp only at hk1
  have hkb : k < 1048576 := by omega
  have hS := stp_el hS 90 (el_at hd (fun _ _ => rfl) rfl (fun g hg => ⟨hg, id⟩) k hk (by omega))
  have hmem := List.getElem_mem hk
  generalize hrk : p.deltas.l[k] = r at hS hmem
  refine rgp hE hS [ie 90, le 90 0, nw 91, st 91] (fun p10 => kp [(7, pt (p10 2).g 0)]) (fun p10 => kP [(91, some (.blk (p10 2).g 133 (Dlt.cells r).toArray))]) (fun _ => ⟨kr (show k < p.deltas.l.length from hk), trivial⟩) fun p10 a u hE hS => ?_
  refine dgE hE hS [pu, pu, pu, pu, ld 101, pu, ld 91, pu, ld 91, pu, nw 93, nw 92, ap 2 [92], pu, pu, st 101] kp0 (fun p11 => kP [(101, some (.blk (p2 16).g 238 #[.bool p.hpad, .int .u8 p.hcount, .int .u8 p.htype, .int .u16 p.hlen, .int .u32 p.sender, .int .u32 p.media, .int .u16 p.base, .int .u16 p.count, .int .u32 p.ref, .int .u8 p.fb, .slice qq.a n1 qq.c, .slice (p11 12).a (xn + 1) (p11 12).c])), (2, some (.row w.heap.size 248 1 (.slice (p11 12).a (xn + 1) (p11 12).c) (xn + 1) (xs ++ [pt (p11 10).g 0]))), (93, some (.blk (p11 10).g 249 #[.int .u16 r.ty, .int .i64 r.d]))]) (fun p11 => ⟨kr (show w.heap.size ≤ w.heap.size ∧ (xn + 1) * 8 ≤ 140737488355328 ∧ ∀ u ∈ ([.pointer (some ⟨(p11 10).g, 0, none⟩)] : List Value), u.oneCell' = true from ⟨Nat.le_refl _, by omega, by intro u hu; simp at hu; rw [hu]; rfl⟩), trivial⟩) fun p11 a u hE hS => ?_
  exact hK ⟨(p11 12), xn + 1, xs ++ [.pointer (some ⟨(p11 10).g, 0, none⟩)], ()⟩ a u _ _ ⟨congrArg (· + 1) hk1, trivial⟩ hE hS (by kernel_rfl)
 refine rg hE hS [pu, pu] (fun _ => kp [(2, pt (p2 16).g 0)]) kP0 fun _ a u hE hS => ?_
 refine wp_ret ?_
 exact ret1 hE Tryz.results61 (pt (p2 16).g 0) ⟨_, _, _, rfl, pcB (g := (p2 16).g) (T := 238) (cs := #[.bool p.hpad, .int .u8 p.hcount, .int .u8 p.htype, .int .u16 p.hlen, .int .u32 p.sender, .int .u32 p.media, .int .u16 p.base, .int .u16 p.count, .int .u32 p.ref, .int .u8 p.fb, .slice qq.a n1 qq.c, .slice q2.a n2 q2.c]) hS 101, pcH (g := (p2 16).g) (T := 238) (cs := #[.bool p.hpad, .int .u8 p.hcount, .int .u8 p.htype, .int .u16 p.hlen, .int .u32 p.sender, .int .u32 p.media, .int .u16 p.base, .int .u16 p.count, .int .u32 p.ref, .int .u8 p.fb, .slice qq.a n1 qq.c, .slice q2.a n2 q2.c]) hS 101, hS.below⟩
def fstV : Value → Value
 | .agg a => a.getD 0 .nilIface
 | v => v
def sndV : Value → Value
 | .agg a => a.getD 1 .nilIface
 | v => v
theorem cu_transp {w0 : World} {ps : List (Option Pc)} (k : Nat) (p : Pkt)  (hs : Reads w0 w0.heap.size 5 p.stats.A p.stats.l.length (p.stats.l.flatMap Sta.cells)) (hsl : p.stats.l.length ≤ 1048576) (hli : ∀ x ∈ p.stats.l, Reads w0 w0.heap.size 1 x.list.A x.list.l.length (x.list.l.flatMap u16c)) (hll : ∀ x ∈ p.stats.l, x.list.l.length ≤ 1048576) (hd : Reads w0 w0.heap.size 2 p.deltas.A p.deltas.l.length (p.deltas.l.flatMap Dlt.cells)) (hdl : p.deltas.l.length ≤ 1048576)
  (L : PL) (w : World) (_ : ps = ([] ++ [k]).map (lookP L)) (hS : Stp (fun _ => False) w0 w (restr ([] ++ [k]) (lookM (den (fun _ => False) w0 L)))) :
  Calls Tryz.prog 61 #[.agg p.cells] w fun e w' => ∃ x : Pay, e = .returned (.pointer (some ⟨x.g, 0, none⟩)) ∧ Stp (blksOf (lookM (den (fun _ => False) w0 L)) [k]) w w' (lookM (den (fun _ => False) w0 (zipW [k] [some (.blk x.g 238 #[.bool p.hpad, .int .u8 p.hcount, .int .u8 p.htype, .int .u16 p.hlen, .int .u32 p.sender, .int .u32 p.media, .int .u16 p.base, .int .u16 p.count, .int .u32 p.ref, .int .u8 p.fb, fstV (x).v, sndV (x).v])]))) := by
 have hB := hS.below
 have hz := hS.size
 refine (transp_any p w (Reads.more (Reads.below hs hB) hz) hsl (fun x hx => Reads.more (Reads.below (hli x hx) hB) hz) hll (Reads.more (Reads.below hd hB) hz) hdl).mono ?_
 rintro e w' ⟨g, v1, v2, rfl, hbl, hg, hB2⟩
 exact ⟨⟨g, 0, .agg #[v1, v2], none⟩, rfl, stp_make (c' := .blk g 238 #[.bool p.hpad, .int .u8 p.hcount, .int .u8 p.htype, .int .u16 p.hlen, .int .u32 p.sender, .int .u32 p.media, .int .u16 p.base, .int .u16 p.count, .int .u32 p.ref, .int .u8 p.fb, v1, v2]) hB2 hbl fun y hy => by have e : y = g := hy; subst e; exact ⟨hbl.lt, hg⟩⟩
theorem built_13 (p : Pkt) (w : World) (hs : Reads w w.heap.size 5 p.stats.A p.stats.l.length (p.stats.l.flatMap Sta.cells)) (hsl : p.stats.l.length ≤ 1048576) (hli : ∀ x ∈ p.stats.l, Reads w w.heap.size 1 x.list.A x.list.l.length (x.list.l.flatMap u16c)) (hll : ∀ x ∈ p.stats.l, x.list.l.length ≤ 1048576) (hd : Reads w w.heap.size 2 p.deltas.A p.deltas.l.length (p.deltas.l.flatMap Dlt.cells)) (hdl : p.deltas.l.length ≤ 1048576) (hk : p.kind = 13) :
  Calls Tryz.prog 22 #[.agg p.cells] w fun e w' => ∃ g v1 v2, e = .returned (.iface 197 (.pointer (some ⟨g, 0, none⟩))) ∧ Blk w' g 238 #[.bool p.hpad, .int .u8 p.hcount, .int .u8 p.htype, .int .u16 p.hlen, .int .u32 p.sender, .int .u32 p.media, .int .u16 p.base, .int .u16 p.count, .int .u32 p.ref, .int .u8 p.fb, v1, v2] ∧ w.heap.size ≤ g ∧ Below w.heap.size w w' := by
 refine go_in Tryz.func22 rfl Tryz.ntmps22 [.agg p.cells] fun a hE => ?_
 have hS := stp_in w
 refine rg hE hS [nw 100, pu] (fun p1 => kp [(1, pt (p1 0).g 0), (2, .nilIface)]) (fun p1 => kP [(100, some (.blk (p1 0).g 56 p.cells))]) fun p1 a u hE hS => ?_
 refine wp_seq ?_
 refine rgp hE hS [pu, ov (ld 100) (.int .i64 13)] (fun _ => kp [(14, .int .i64 13)]) kP0 (fun _ => ⟨fun _ => kr (congrArg (Value.int .i64) hk), trivial⟩) fun _ a u hE hS => wp_block ?_
 refine rg hE hS [pu, pu] (fun _ => kp [(15, .bool false)]) kP0 fun _ a u hE hS => iff hE ?_
 refine rg hE hS [pu, pu] (fun _ => kp [(36, .bool false)]) kP0 fun _ a u hE hS => iff hE ?_
 refine rg hE hS [pu, pu] (fun _ => kp [(49, .bool false)]) kP0 fun _ a u hE hS => iff hE ?_
 refine rg hE hS [pu, pu] (fun _ => kp [(55, .bool false)]) kP0 fun _ a u hE hS => iff hE ?_
 refine rg hE hS [pu, pu] (fun _ => kp [(65, .bool false)]) kP0 fun _ a u hE hS => iff hE ?_
 refine rg hE hS [pu, pu] (fun _ => kp [(79, .bool false)]) kP0 fun _ a u hE hS => iff hE ?_
 refine rg hE hS [pu, pu] (fun _ => kp [(111, .bool false)]) kP0 fun _ a u hE hS => iff hE ?_
 refine rg hE hS [pu, pu] (fun _ => kp [(120, .bool false)]) kP0 fun _ a u hE hS => iff hE ?_
 refine rg hE hS [pu, pu] (fun _ => kp [(132, .bool false)]) kP0 fun _ a u hE hS => iff hE ?_
 refine rg hE hS [pu, pu] (fun _ => kp [(141, .bool false)]) kP0 fun _ a u hE hS => iff hE ?_
 refine rg hE hS [pu, pu] (fun _ => kp [(175, .bool false)]) kP0 fun _ a u hE hS => iff hE ?_
 refine rg hE hS [pu, pu] (fun _ => kp [(207, .bool false)]) kP0 fun _ a u hE hS => iff hE ?_
 refine rg hE hS [pu, pu] (fun _ => kp [(220, .bool true)]) kP0 fun _ a u hE hS => ift hE ?_
 refine rgp hE hS [ld 100, cu 61 [] [101] (fun x => .pointer (some ⟨x.g, 0, none⟩)) (fun x => [some (.blk x.g 238 #[.bool p.hpad, .int .u8 p.hcount, .int .u8 p.htype, .int .u16 p.hlen, .int .u32 p.sender, .int .u32 p.media, .int .u16 p.base, .int .u16 p.count, .int .u32 p.ref, .int .u8 p.fb, fstV (x).v, sndV (x).v])]), pu, pu] (fun p16 => kp [(2, .iface 197 (pt (p16 1).g 0))]) (fun p16 => kP [(101, some (.blk (p16 1).g 238 #[.bool p.hpad, .int .u8 p.hcount, .int .u8 p.htype, .int .u16 p.hlen, .int .u32 p.sender, .int .u32 p.media, .int .u16 p.base, .int .u16 p.count, .int .u32 p.ref, .int .u8 p.fb, fstV (p16 1).v, sndV (p16 1).v]))]) (fun _ => ⟨kr (cu_transp (w0 := w) (ps := [none]) 101 p hs hsl hli hll hd hdl), trivial⟩) fun p16 a u hE hS => ?_
 refine wp_ret (bkR (thR ?_))
 exact ret1 hE Tryz.results22 (.iface 197 (pt (p16 1).g 0)) ⟨_, _, _, rfl, pcB (g := (p16 1).g) (T := 238) (cs := #[.bool p.hpad, .int .u8 p.hcount, .int .u8 p.htype, .int .u16 p.hlen, .int .u32 p.sender, .int .u32 p.media, .int .u16 p.base, .int .u16 p.count, .int .u32 p.ref, .int .u8 p.fb, fstV (p16 1).v, sndV (p16 1).v]) hS 101, pcH (g := (p16 1).g) (T := 238) (cs := #[.bool p.hpad, .int .u8 p.hcount, .int .u8 p.htype, .int .u16 p.hlen, .int .u32 p.sender, .int .u32 p.media, .int .u16 p.base, .int .u16 p.count, .int .u32 p.ref, .int .u8 p.fb, fstV (p16 1).v, sndV (p16 1).v]) hS 101, hS.below⟩
end Go.Proofs.YtmmfpgoodfgkbaaGreatDoor
namespace Go.Proofs.YtmmfpgoodfgkbaaGreatDoor
open Go Go.RowKit
set_option maxHeartbeats 4000000
set_option maxRecDepth 100000
set_option linter.unusedVariables false
set_option linter.unusedSimpArgs false

theorem desc_any (A : Option Addr) (c : Nat) (l : List Chunk) (w : World) (hr : Reads w w.heap.size 2 A l.length (l.flatMap Chunk.cells)) (hi : ∀ x ∈ l, Reads w w.heap.size 2 x.items.A x.items.l.length (x.items.l.flatMap Item.cells)) (hl : l.length ≤ 1048576) (hil : ∀ x ∈ l, x.items.l.length ≤ 1048576) :
  Calls Tryz.prog 58 #[.slice A (l.length : Nat) c] w fun e w' => ∃ (g : Nat) (A2 : Option Addr) (c2 : Nat) (l2 : List Chunk), l2.map Chunk.src = l.map Chunk.src ∧ e = .returned (.pointer (some ⟨g, 0, none⟩)) ∧ Blk w' g 202 #[.slice A2 (l2.length : Nat) c2] ∧ w.heap.size ≤ g ∧ InRows w' w.heap.size w'.heap.size 2 A2 l2.length (l2.flatMap Chunk.cells) ∧ Below w.heap.size w w' := by
 refine go_in Tryz.func58 rfl Tryz.ntmps58 [.slice A (l.length : Nat) c] fun a hE => ?_
 have hS := stp_in w
 refine rg hE hS [pu] (fun _ => kp [(2, .pointer none)]) kP0 fun _ a u hE hS => ?_
 refine rg hE hS [pu, nw 101, pu] (fun p2 => kp [(3, pt (p2 1).g 0)]) (fun p2 => kP [(101, some (.blk (p2 1).g 202 #[.slice none 0 0]))]) fun p2 a u hE hS => ?_
 refine wp_seq ?_
 refine rg hE hS [pu, pu, pu] (fun _ => kn [(11, .slice A (l.length : Nat) c), (12, .int .i64 (l.length : Nat)), (13, .int .i64 0)] [2, 3]) (fun _ => kN [] [101]) fun _ a u hE hS => ?_
 have hS := stp_row0 hS 1 w.heap.size 224 2
 refine range_up hE hS 13 l.length (fun k x => kd [13, 14, 48] []) (fun k x => kP [(1, some (.row w.heap.size 224 2 (.slice x.p.a x.n x.p.c) x.n x.xs)), (101, some (.blk (p2 1).g 202 #[.slice x.p.a x.n x.p.c]))]) (fun k (x : Lx (List Chunk)) => x.n = k ∧ x.xs = x.y.flatMap Chunk.cells ∧ x.y.map Chunk.src = (l.take k).map Chunk.src ∧ x.y.length = k) ⟨⟨0, 0, undef, none⟩, 0, [], []⟩ (by omega) ⟨rfl, rfl, rfl, rfl⟩ (fun k x a u hk hI hE hS K hK R hR => ?_) fun ⟨qq, m, xs, ll⟩ a u hI hE hS => ?_
 ·obtain ⟨hn, hx, hm, hll⟩ := hI
  have hS := stp_el hS 90 (el_at hr (fun _ _ => rfl) rfl (fun g hg => ⟨hg, id⟩) k hk (by omega))
  have hit := hi l[k] (List.getElem_mem _)
  have hin := hil l[k] (List.getElem_mem _)
  generalize hrk : l[k] = r at hS hit hin
  refine rgp hE hS [ie 90, le 90 0, nw 91, st 91] (fun p4 => kp [(5, pt (p4 2).g 0)]) (fun p4 => kP [(91, some (.blk (p4 2).g 105 (Chunk.cells r).toArray))]) (fun _ => ⟨kr (show k < l.length from hk), trivial⟩) fun p4 a u hE hS => ?_
  refine rg hE hS [pu, ld 91, pu, nw 93, st 93] (fun p5 => kp [(6, pt (p5 3).g 0)]) (fun p5 => kP [(93, some (.blk (p5 3).g 224 #[.int .u32 r.src, .slice none 0 0]))]) fun p5 a u hE hS => ?_
  refine wp_seq ?_
  refine rg hE hS [pu, ld 91, pu, pu] (fun _ => kp [(21, .slice r.items.A (r.items.l.length : Nat) r.items.c), (22, .int .i64 (r.items.l.length : Nat)), (23, .int .i64 0)]) kP0 fun _ a u hE hS => ?_
  have hS := stp_row0 hS 94 w.heap.size 227 2
  refine range_up hE hS 23 r.items.l.length (fun _ _ => kd [23, 24, 37] []) (fun j y => kP [(93, some (.blk (p5 3).g 224 #[.int .u32 r.src, .slice y.p.a y.n y.p.c])), (94, some (.row w.heap.size 227 2 (.slice y.p.a y.n y.p.c) y.n y.xs))]) (fun j (y : Lx Unit) => y.n = j ∧ True) ⟨⟨0, 0, undef, none⟩, 0, [], ()⟩ (by omega) ⟨rfl, trivial⟩ (fun j y a u hj hI hE hS K2 hK2 R2 hR2 => ?_) fun ⟨qi, m, xs, _⟩ a u hI hE hS => ?_
  ·obtain ⟨hn2, hx2⟩ := hI
   have hS := stp_el hS 96 (el_at hit (fun _ _ => rfl) rfl (fun g hg => ⟨hg, id⟩) j hj (by omega))
   generalize hr2 : r.items.l[j] = q at hS
   refine rgp hE hS [ie 96, le 96 0, nw 97, st 97] (fun p7 => kp [(8, pt (p7 2).g 0)]) (fun p7 => kP [(97, some (.blk (p7 2).g 108 (Item.cells q).toArray))]) (fun _ => ⟨kr (show j < r.items.l.length from hj), trivial⟩) fun p7 a u hE hS => ?_
   refine rgE hE hS [pu, ld 93, pu, ld 97, pu, ld 97, pu, nw 98, ap 94 [98], pu, st 93] kp0 (fun p8 => kP [(93, some (.blk (p5 3).g 224 #[.int .u32 r.src, .slice (p8 8).a (y.n + 1) (p8 8).c])), (94, some (.row w.heap.size 227 2 (.slice (p8 8).a (y.n + 1) (p8 8).c) (y.n + 1) (y.xs ++ Item.cells q)))]) (fun _ => ⟨kr (show w.heap.size ≤ w.heap.size ∧ (y.n + 1) * 24 ≤ 140737488355328 ∧ ∀ u ∈ Item.cells q, u.oneCell' = true from ⟨Nat.le_refl _, by omega, by simp [Item.cells, Value.oneCell']⟩), trivial⟩) fun p8 a u hE hS => ?_
   exact hK2 ⟨(p8 8), y.n + 1, y.xs ++ Item.cells q, ()⟩ a u _ _ ⟨congrArg (· + 1) hn2, trivial⟩ hE hS (by kernel_rfl)
  obtain ⟨h1, _⟩ := hI
  simp only at h1
  subst h1
  refine dgE hE hS [pu, pu, pu, pu, ld 101, ld 93, nw 99, ap 1 [99], pu, pu, st 101] (fun _ => kn [] [2, 3, 11, 12, 13]) (fun p9 => kN [(101, some (.blk (p2 1).g 202 #[.slice (p9 7).a (x.n + 1) (p9 7).c])), (1, some (.row w.heap.size 224 2 (.slice (p9 7).a (x.n + 1) (p9 7).c) (x.n + 1) (x.xs ++ Chunk.cells ({ r with items := ⟨qi.a, qi.c, r.items.l⟩ } : Chunk))))] [94, 90]) (fun _ => ⟨kr (show w.heap.size ≤ w.heap.size ∧ (x.n + 1) * 32 ≤ 140737488355328 ∧ ∀ u ∈ Chunk.cells ({ r with items := ⟨qi.a, qi.c, r.items.l⟩ } : Chunk), u.oneCell' = true from ⟨Nat.le_refl _, by omega, by simp [Chunk.cells, Sl.val, Value.oneCell']⟩), trivial⟩) fun p9 a u hE hS => ?_
  exact hK ⟨(p9 7), x.n + 1, x.xs ++ Chunk.cells ({ r with items := ⟨qi.a, qi.c, r.items.l⟩ } : Chunk), x.y ++ [({ r with items := ⟨qi.a, qi.c, r.items.l⟩ } : Chunk)]⟩ a u _ _ ⟨congrArg (· + 1) hn, by simp [hx], by rw [List.map_append, hm, List.take_succ_eq_append_getElem hk, List.map_append, hrk]; rfl, by simp [hll]⟩ hE hS (by kernel_rfl)
 simp only [List.take_length] at hI
 obtain ⟨h1, h2, hm, h4⟩ := hI
 rw [← h4] at h1
 subst h1 h2
 refine rg hE hS [pu, pu] (fun _ => kp [(2, pt (p2 1).g 0)]) kP0 fun _ a u hE hS => ?_
 refine wp_ret ?_
 exact ret1 hE Tryz.results58 (pt (p2 1).g 0) ⟨(p2 1).g, qq.a, qq.c, ll, hm, rfl, pcB (g := (p2 1).g) (T := 202) (cs := #[.slice qq.a ll.length qq.c]) hS 101, pcH (g := (p2 1).g) (T := 202) (cs := #[.slice qq.a ll.length qq.c]) hS 101, InRows.of_own (c := qq.c) (pcR (base := w.heap.size) (e := 224) hS 1), hS.below⟩
theorem bloks_any (A : Option Addr) (c : Nat) (l : List Blo) (w : World) (hr : Reads w w.heap.size 3 A l.length (l.flatMap Blo.cells)) (hi : ∀ x ∈ l, Reads w w.heap.size 3 x.mets.A x.mets.l.length (x.mets.l.flatMap Met.cells)) (hl : l.length ≤ 1048576) (hil : ∀ x ∈ l, x.mets.l.length ≤ 1048576) :
  Calls Tryz.prog 59 #[.slice A (l.length : Nat) c] w fun e w' => ∃ (A2 : Option Addr) (c2 : Nat) (l2 : List Blo), l2.map Blo.media = l.map Blo.media ∧ e = .returned (.slice A2 (l2.length : Nat) c2) ∧ InRows w' w.heap.size w'.heap.size 3 A2 l2.length (l2.flatMap Blo.cells) ∧ Below w.heap.size w w' := by
 refine go_in Tryz.func59 rfl Tryz.ntmps59 [.slice A (l.length : Nat) c] fun a hE => ?_
 have hS := stp_in w
 refine rg hE hS [pu] (fun _ => kp [(2, .slice none 0 0)]) kP0 fun _ a u hE hS => ?_
 refine rg hE hS [pu] (fun _ => kp [(3, .slice none 0 0)]) kP0 fun _ a u hE hS => ?_
 refine wp_seq ?_
 refine rg hE hS [pu, pu, pu] (fun _ => kn [(9, .slice A (l.length : Nat) c), (10, .int .i64 (l.length : Nat)), (11, .int .i64 0)] [2, 3]) (fun _ => kN [] []) fun _ a u hE hS => ?_
 have hS := stp_row0 hS 1 w.heap.size 230 3
 refine range_up hE hS 11 l.length (fun k x => kd [11, 12, 44] [(3, .slice x.p.a x.n x.p.c)]) (fun k x => kP [(1, some (.row w.heap.size 230 3 (.slice x.p.a x.n x.p.c) x.n x.xs))]) (fun k (x : Lx (List Blo)) => x.n = k ∧ x.xs = x.y.flatMap Blo.cells ∧ x.y.map Blo.media = (l.take k).map Blo.media ∧ x.y.length = k) ⟨⟨0, 0, undef, none⟩, 0, [], []⟩ (by omega) ⟨rfl, rfl, rfl, rfl⟩ (fun k x a u hk hI hE hS K hK R hR => ?_) fun ⟨qq, m, xs, ll⟩ a u hI hE hS => ?_
 ·obtain ⟨hn, hx, hm, hll⟩ := hI
  have hS := stp_el hS 90 (el_at hr (fun _ _ => rfl) rfl (fun g hg => ⟨hg, id⟩) k hk (by omega))
  have hit := hi l[k] (List.getElem_mem _)
  have hin := hil l[k] (List.getElem_mem _)
  generalize hrk : l[k] = r at hS hit hin
  refine rgp hE hS [ie 90, le 90 0, nw 91, st 91] (fun p4 => kp [(5, pt (p4 2).g 0)]) (fun p4 => kP [(91, some (.blk (p4 2).g 123 (Blo.cells r).toArray))]) (fun _ => ⟨kr (show k < l.length from hk), trivial⟩) fun p4 a u hE hS => ?_
  refine rg hE hS [pu, ld 91, pu, ld 91, pu, nw 93, st 93] (fun p5 => kp [(6, pt (p5 5).g 0)]) (fun p5 => kP [(93, some (.blk (p5 5).g 230 #[.int .u32 r.media, .int .u16 r.first, .slice none 0 0]))]) fun p5 a u hE hS => ?_
  refine wp_seq ?_
  refine rg hE hS [pu, ld 91, pu, pu] (fun _ => kp [(21, .slice r.mets.A (r.mets.l.length : Nat) r.mets.c), (22, .int .i64 (r.mets.l.length : Nat)), (23, .int .i64 0)]) kP0 fun _ a u hE hS => ?_
  have hS := stp_row0 hS 94 w.heap.size 233 3
  refine range_up hE hS 23 r.mets.l.length (fun _ _ => kd [23, 24, 39] []) (fun j y => kP [(93, some (.blk (p5 5).g 230 #[.int .u32 r.media, .int .u16 r.first, .slice y.p.a y.n y.p.c])), (94, some (.row w.heap.size 233 3 (.slice y.p.a y.n y.p.c) y.n y.xs))]) (fun j (y : Lx Unit) => y.n = j ∧ True) ⟨⟨0, 0, undef, none⟩, 0, [], ()⟩ (by omega) ⟨rfl, trivial⟩ (fun j y a u hj hI hE hS K2 hK2 R2 hR2 => ?_) fun ⟨qi, m, xs, _⟩ a u hI hE hS => ?_
  ·obtain ⟨hn2, hx2⟩ := hI
   have hS := stp_el hS 96 (el_at hit (fun _ _ => rfl) rfl (fun g hg => ⟨hg, id⟩) j hj (by omega))
   generalize hr2 : r.mets.l[j] = q at hS
   refine rgp hE hS [ie 96, le 96 0, nw 97, st 97] (fun p7 => kp [(8, pt (p7 2).g 0)]) (fun p7 => kP [(97, some (.blk (p7 2).g 126 (Met.cells q).toArray))]) (fun _ => ⟨kr (show j < r.mets.l.length from hj), trivial⟩) fun p7 a u hE hS => ?_
   refine rgE hE hS [pu, ld 93, pu, ld 97, pu, ld 97, pu, ld 97, pu, nw 98, ap 94 [98], pu, st 93] kp0 (fun p8 => kP [(93, some (.blk (p5 5).g 230 #[.int .u32 r.media, .int .u16 r.first, .slice (p8 10).a (y.n + 1) (p8 10).c])), (94, some (.row w.heap.size 233 3 (.slice (p8 10).a (y.n + 1) (p8 10).c) (y.n + 1) (y.xs ++ Met.cells q)))]) (fun _ => ⟨kr (show w.heap.size ≤ w.heap.size ∧ (y.n + 1) * 4 ≤ 140737488355328 ∧ ∀ u ∈ Met.cells q, u.oneCell' = true from ⟨Nat.le_refl _, by omega, by simp [Met.cells, Value.oneCell']⟩), trivial⟩) fun p8 a u hE hS => ?_
   exact hK2 ⟨(p8 10), y.n + 1, y.xs ++ Met.cells q, ()⟩ a u _ _ ⟨congrArg (· + 1) hn2, trivial⟩ hE hS (by kernel_rfl)
  obtain ⟨h1, _⟩ := hI
  simp only at h1
  subst h1
  refine rgE hE hS [pu, ld 93, nw 99, ap 1 [99], pu] (fun p9 => kn [(3, .slice (p9 3).a (x.n + 1) (p9 3).c)] [2, 9, 10, 11]) (fun p9 => kN [(1, some (.row w.heap.size 230 3 (.slice (p9 3).a (x.n + 1) (p9 3).c) (x.n + 1) (x.xs ++ Blo.cells ({ r with mets := ⟨qi.a, qi.c, r.mets.l⟩ } : Blo))))] [94, 90]) (fun _ => ⟨kr (show w.heap.size ≤ w.heap.size ∧ (x.n + 1) * 32 ≤ 140737488355328 ∧ ∀ u ∈ Blo.cells ({ r with mets := ⟨qi.a, qi.c, r.mets.l⟩ } : Blo), u.oneCell' = true from ⟨Nat.le_refl _, by omega, by simp [Blo.cells, Sl.val, Value.oneCell']⟩), trivial⟩) fun p9 a u hE hS => ?_
  exact hK ⟨(p9 3), x.n + 1, x.xs ++ Blo.cells ({ r with mets := ⟨qi.a, qi.c, r.mets.l⟩ } : Blo), x.y ++ [({ r with mets := ⟨qi.a, qi.c, r.mets.l⟩ } : Blo)]⟩ a u _ _ ⟨congrArg (· + 1) hn, by simp [hx], by rw [List.map_append, hm, List.take_succ_eq_append_getElem hk, List.map_append, hrk]; rfl, by simp [hll]⟩ hE hS (by kernel_rfl)
 simp only [List.take_length] at hI
 obtain ⟨h1, h2, hm, h4⟩ := hI
 rw [← h4] at h1
 subst h1 h2
 refine rg hE hS [pu, pu] (fun _ => kp [(2, .slice qq.a ll.length qq.c)]) kP0 fun _ a u hE hS => ?_
 refine wp_ret ?_
 exact ret1 hE Tryz.results59 (.slice qq.a ll.length qq.c) ⟨qq.a, qq.c, ll, hm, rfl, InRows.of_own (c := qq.c) (pcR (base := w.heap.size) (e := 230) hS 1), hS.below⟩
def wEnd : Value → Nat
 | .iface t _ => t
 | _ => 0
def ckBl (l : List Blo) (x : Pay) : Ck := ⟨fun y => x.g ≤ y ∧ y < wEnd x.v, fun w => ∃ l2 : List Blo, l2.map Blo.media = l.map Blo.media ∧ InRows w x.g (wEnd x.v) 3 x.a l2.length (l2.flatMap Blo.cells), fun w w' hk ⟨l2, h1, h2⟩ => ⟨l2, h1, h2.st hk⟩⟩
def ckSd (l : List Chunk) (x : Pay) : Ck := ⟨fun y => x.g ≤ y ∧ y < wEnd x.v, fun w => ∃ (A2 : Option Addr) (c2 : Nat) (l2 : List Chunk), l2.map Chunk.src = l.map Chunk.src ∧ Blk w x.c 202 #[.slice A2 (l2.length : Nat) c2] ∧ (x.g ≤ x.c ∧ x.c < wEnd x.v) ∧ InRows w x.g (wEnd x.v) 2 A2 l2.length (l2.flatMap Chunk.cells), fun w w' hk ⟨A2, c2, l2, h1, h2, h3, h4⟩ => ⟨A2, c2, l2, h1, (hk _ h3).trans h2, h3, h4.st hk⟩⟩
theorem cu_bloks {w0 : World} {ps : List (Option Pc)} (k : Nat) (A : Option Addr) (c : Nat) (l : List Blo) (hr : Reads w0 w0.heap.size 3 A l.length (l.flatMap Blo.cells)) (hi : ∀ x ∈ l, Reads w0 w0.heap.size 3 x.mets.A x.mets.l.length (x.mets.l.flatMap Met.cells)) (hl : l.length ≤ 1048576) (hil : ∀ x ∈ l, x.mets.l.length ≤ 1048576)
  (L : PL) (w : World) (_ : ps = ([] ++ [k]).map (lookP L)) (hS : Stp (fun _ => False) w0 w (restr ([] ++ [k]) (lookM (den (fun _ => False) w0 L)))) :
  Calls Tryz.prog 59 #[.slice A (l.length : Nat) c] w fun e w' => ∃ x : Pay, e = .returned (.slice x.a (l.length : Nat) x.c) ∧ Stp (blksOf (lookM (den (fun _ => False) w0 L)) [k]) w w' (lookM (den (fun _ => False) w0 (zipW [k] [some (.ck (ckBl l x))]))) := by
 have hB := hS.below
 have hz := hS.size
 refine (bloks_any A c l w ((Reads.below hr hB).more hz) (fun x hx => (Reads.below (hi x hx) hB).more hz) hl hil).mono ?_
 rintro e w' ⟨A2, c2, l2, hm, rfl, hrow, hB2⟩
 have hll : l2.length = l.length := by have := congrArg List.length hm; simpa using this
 exact ⟨⟨w.heap.size, c2, .iface w'.heap.size undef, A2⟩, by rw [hll], stp_make (c' := .ck (ckBl l ⟨w.heap.size, c2, .iface w'.heap.size undef, A2⟩)) hB2 ⟨l2, hm, hrow⟩ fun y hy => ⟨hy.2, hy.1⟩⟩
theorem cu_desc {w0 : World} {ps : List (Option Pc)} (k : Nat) (A : Option Addr) (c : Nat) (l : List Chunk) (hr : Reads w0 w0.heap.size 2 A l.length (l.flatMap Chunk.cells)) (hi : ∀ x ∈ l, Reads w0 w0.heap.size 2 x.items.A x.items.l.length (x.items.l.flatMap Item.cells)) (hl : l.length ≤ 1048576) (hil : ∀ x ∈ l, x.items.l.length ≤ 1048576)
  (L : PL) (w : World) (_ : ps = ([] ++ [k]).map (lookP L)) (hS : Stp (fun _ => False) w0 w (restr ([] ++ [k]) (lookM (den (fun _ => False) w0 L)))) :
  Calls Tryz.prog 58 #[.slice A (l.length : Nat) c] w fun e w' => ∃ x : Pay, e = .returned (.pointer (some ⟨x.c, 0, none⟩)) ∧ Stp (blksOf (lookM (den (fun _ => False) w0 L)) [k]) w w' (lookM (den (fun _ => False) w0 (zipW [k] [some (.ck (ckSd l x))]))) := by
 have hB := hS.below
 have hz := hS.size
 refine (desc_any A c l w ((Reads.below hr hB).more hz) (fun x hx => (Reads.below (hi x hx) hB).more hz) hl hil).mono ?_
 rintro e w' ⟨g, A2, c2, l2, hm, rfl, hb, hg, hrow, hB2⟩
 exact ⟨⟨w.heap.size, g, .iface w'.heap.size undef, none⟩, rfl, stp_make (c' := .ck (ckSd l ⟨w.heap.size, g, .iface w'.heap.size undef, none⟩)) hB2 ⟨A2, c2, l2, hm, hb, ⟨hg, hb.lt⟩, hrow⟩ fun y hy => ⟨hy.2, hy.1⟩⟩
theorem built8_3 (p : Pkt) (w : World) (hk : p.kind = 3) (hr : Reads w w.heap.size 2 p.chunks.A p.chunks.l.length (p.chunks.l.flatMap Chunk.cells)) (hi : ∀ x ∈ p.chunks.l, Reads w w.heap.size 2 x.items.A x.items.l.length (x.items.l.flatMap Item.cells)) (hl : p.chunks.l.length ≤ 1048576) (hil : ∀ x ∈ p.chunks.l, x.items.l.length ≤ 1048576) :
  Calls Tryz.prog 22 #[.agg p.cells] w fun e w' => ∃ (g : Nat) (A : Option Addr) (c : Nat) (l2 : List Chunk), l2.map Chunk.src = p.chunks.l.map Chunk.src ∧ e = .returned (.iface 86 (.pointer (some ⟨g, 0, none⟩))) ∧ w.heap.size ≤ g ∧ Below w.heap.size w w' ∧ Blk w' g 202 #[.slice A (l2.length : Nat) c] ∧ InRows w' w.heap.size w'.heap.size 2 A l2.length (l2.flatMap Chunk.cells) := by
 refine go_in Tryz.func22 rfl Tryz.ntmps22 [.agg p.cells] fun a hE => ?_
 have hS := stp_in w
 refine rg hE hS [nw 100, pu] (fun p1 => kp [(1, pt (p1 0).g 0), (2, .nilIface)]) (fun p1 => kP [(100, some (.blk (p1 0).g 56 p.cells))]) fun p1 a u hE hS => ?_
 refine wp_seq ?_
 refine rgp hE hS [pu, ov (ld 100) (.int .i64 3)] (fun _ => kp [(14, .int .i64 3)]) kP0 (fun _ => ⟨fun _ => kr (congrArg (Value.int .i64) hk), trivial⟩) fun _ a u hE hS => wp_block ?_
 refine rg hE hS [pu, pu] (fun _ => kp [(15, .bool false)]) kP0 fun _ a u hE hS => iff hE ?_
 refine rg hE hS [pu, pu] (fun _ => kp [(36, .bool false)]) kP0 fun _ a u hE hS => iff hE ?_
 refine rg hE hS [pu, pu] (fun _ => kp [(49, .bool true)]) kP0 fun _ a u hE hS => ift hE ?_
 refine rgp hE hS [pu, ld 100, cu 58 [] [96] (fun y => .pointer (some ⟨y.c, 0, none⟩)) (fun y => [some (.ck (ckSd p.chunks.l y))]), pu, pu] (fun p6 => kp [(2, .iface 86 (pt (p6 2).c 0))]) (fun p6 => kP [(96, some (.ck (ckSd p.chunks.l (p6 2))))]) (fun _ => ⟨kr (cu_desc (w0 := w) (ps := [none]) 96 p.chunks.A p.chunks.c p.chunks.l hr hi hl hil), trivial⟩) fun p6 a u hE hS => ?_
 refine wp_ret (bkR (thR ?_))
 have hlt := hS.lt 96 (ckSd p.chunks.l (p6 2)) (by kernel_rfl)
 have hw : ∀ y, (p6 2).g ≤ y ∧ y < wEnd (p6 2).v → w.heap.size ≤ y ∧ y < u.heap.size := fun y hy => ⟨(hlt y hy).2.resolve_right id, (hlt y hy).1⟩
 obtain ⟨A2, c2, l2, h1, h2, h3, h4⟩ := hS.ok 96 (ckSd p.chunks.l (p6 2)) (by kernel_rfl)
 exact ret1 hE Tryz.results22 (.iface 86 (pt (p6 2).c 0)) ⟨(p6 2).c, A2, c2, l2, h1, rfl, (hw _ h3).1, hS.below, h2, h4.wide hw⟩
theorem built8_8 (p : Pkt) (w : World) (hk : p.kind = 8) (hr : Reads w w.heap.size 3 p.blocks.A p.blocks.l.length (p.blocks.l.flatMap Blo.cells)) (hi : ∀ x ∈ p.blocks.l, Reads w w.heap.size 3 x.mets.A x.mets.l.length (x.mets.l.flatMap Met.cells)) (hl : p.blocks.l.length ≤ 1048576) (hil : ∀ x ∈ p.blocks.l, x.mets.l.length ≤ 1048576) :
  Calls Tryz.prog 22 #[.agg p.cells] w fun e w' => ∃ (g : Nat) (A : Option Addr) (c : Nat) (l2 : List Blo), l2.map Blo.media = p.blocks.l.map Blo.media ∧ e = .returned (.iface 90 (.pointer (some ⟨g, 0, none⟩))) ∧ w.heap.size ≤ g ∧ Below w.heap.size w w' ∧ Blk w' g 182 #[.int .u32 p.sender, .slice A (l2.length : Nat) c, .int .u32 p.time] ∧ InRows w' w.heap.size w'.heap.size 3 A l2.length (l2.flatMap Blo.cells) := by
 refine go_in Tryz.func22 rfl Tryz.ntmps22 [.agg p.cells] fun a hE => ?_
 have hS := stp_in w
 refine rg hE hS [nw 100, pu] (fun p1 => kp [(1, pt (p1 0).g 0), (2, .nilIface)]) (fun p1 => kP [(100, some (.blk (p1 0).g 56 p.cells))]) fun p1 a u hE hS => ?_
 refine wp_seq ?_
 refine rgp hE hS [pu, ov (ld 100) (.int .i64 8)] (fun _ => kp [(14, .int .i64 8)]) kP0 (fun _ => ⟨fun _ => kr (congrArg (Value.int .i64) hk), trivial⟩) fun _ a u hE hS => wp_block ?_
 refine rg hE hS [pu, pu] (fun _ => kp [(15, .bool false)]) kP0 fun _ a u hE hS => iff hE ?_
 refine rg hE hS [pu, pu] (fun _ => kp [(36, .bool false)]) kP0 fun _ a u hE hS => iff hE ?_
 refine rg hE hS [pu, pu] (fun _ => kp [(49, .bool false)]) kP0 fun _ a u hE hS => iff hE ?_
 refine rg hE hS [pu, pu] (fun _ => kp [(55, .bool false)]) kP0 fun _ a u hE hS => iff hE ?_
 refine rg hE hS [pu, pu] (fun _ => kp [(65, .bool false)]) kP0 fun _ a u hE hS => iff hE ?_
 refine rg hE hS [pu, pu] (fun _ => kp [(79, .bool false)]) kP0 fun _ a u hE hS => iff hE ?_
 refine rg hE hS [pu, pu] (fun _ => kp [(111, .bool false)]) kP0 fun _ a u hE hS => iff hE ?_
 refine rg hE hS [pu, pu] (fun _ => kp [(120, .bool true)]) kP0 fun _ a u hE hS => ift hE ?_
 refine dgp hE hS [pu, ld 100, pu, ld 100, cu 59 [] [96] (fun y => .slice y.a (p.blocks.l.length : Nat) y.c) (fun y => [some (.ck (ckBl p.blocks.l y))]), pu, ld 100, pu, nw 101, pu, pu] (fun p11 => kp [(2, .iface 90 (pt (p11 8).g 0))]) (fun p11 => kP [(96, some (.ck (ckBl p.blocks.l (p11 4)))), (101, some (.blk (p11 8).g 182 #[.int .u32 p.sender, .slice (p11 4).a (p.blocks.l.length : Nat) (p11 4).c, .int .u32 p.time]))]) (fun _ => ⟨kr (cu_bloks (w0 := w) (ps := [none]) 96 p.blocks.A p.blocks.c p.blocks.l hr hi hl hil), trivial⟩) fun p11 a u hE hS => ?_
 refine wp_ret (bkR (thR ?_))
 have hlt := hS.lt 96 (ckBl p.blocks.l (p11 4)) (by kernel_rfl)
 have hw : ∀ y, (p11 4).g ≤ y ∧ y < wEnd (p11 4).v → w.heap.size ≤ y ∧ y < u.heap.size := fun y hy => ⟨(hlt y hy).2.resolve_right id, (hlt y hy).1⟩
 obtain ⟨l2, h1, h4⟩ := hS.ok 96 (ckBl p.blocks.l (p11 4)) (by kernel_rfl)
 have hll : l2.length = p.blocks.l.length := by have := congrArg List.length h1; simpa using this
 have hbl := pcB (g := (p11 8).g) (T := 182) (cs := #[.int .u32 p.sender, .slice (p11 4).a (p.blocks.l.length : Nat) (p11 4).c, .int .u32 p.time]) hS 101
 rw [← hll] at hbl
 exact ret1 hE Tryz.results22 (.iface 90 (pt (p11 8).g 0)) ⟨(p11 8).g, (p11 4).a, (p11 4).c, l2, h1, rfl, pcH (g := (p11 8).g) (T := 182) (cs := #[.int .u32 p.sender, .slice (p11 4).a (p.blocks.l.length : Nat) (p11 4).c, .int .u32 p.time]) hS 101, hS.below, hbl, h4.wide hw⟩
end Go.Proofs.YtmmfpgoodfgkbaaGreatDoor
