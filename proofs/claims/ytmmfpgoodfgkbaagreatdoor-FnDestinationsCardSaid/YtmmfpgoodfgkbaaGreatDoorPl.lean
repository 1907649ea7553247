/-
  THE WALKS of the thin package's 'plain': a packet of the package as plain data. Condition: the packet lies in a block, its lists in memory that was there.
-/
import Derived.Test.YtmmfpgoodfgkbaaGreatDoorUm
import Derived.Test.YtmmfpgoodfgkbaaGreatDoorMClone
namespace Go.Proofs.YtmmfpgoodfgkbaaGreatDoor
open Go Go.RowKit
set_option maxHeartbeats 4000000
set_option maxRecDepth 100000
set_option linter.unusedVariables false
set_option linter.unusedSimpArgs false

theorem stp_oldB {w : World} {g : Nat} {T : TypeId} {cs : Array Value} {L : PL} (h : Stp (fun _ => False) w w (lookM (den (fun _ => False) w L))) (k : Nat) (hb : Blk w g T cs) : Stp (fun _ => False) w w (lookM (den (fun _ => False) w ((k, some (.old g 0 cs.toList)) :: L))) :=
 h.then_ (NL := [(k, _)]) (stp_one k (ckP (OldAt (fun _ => False) w g 0 cs.toList)) (.inl (World.grownBy.refl w _)) ⟨fun j v hj => by rw [Nat.zero_add]; exact (hb.cell j).trans (by simpa using hj), fun _ => ⟨hb.lt, id⟩⟩ fun g hg => hg.elim)
structure Pkt.NewX (q : Pkt) (w : World) (B C : Nat) : Prop where
 new : q.NewIn w B C
 src : InRows w B C 1 q.sources.A q.sources.l.length (q.sources.l.flatMap u32c)
 lists : ∀ x ∈ q.stats.l, InRows w B C 1 x.list.A x.list.l.length (x.list.l.flatMap u16c)
 ext : InRows w B C 1 q.ext.A q.ext.l.length (q.ext.l.flatMap u8c)
 data : InRows w B C 1 q.data.A q.data.l.length (q.data.l.flatMap u8c)
theorem Pkt.NewX.st {q : Pkt} {w w' : World} {B C : Nat} (h : q.NewX w B C) (hk : ∀ g, B ≤ g ∧ g < C → w'.heap[g]? = w.heap[g]?) : q.NewX w' B C :=
 ⟨h.new.st hk, h.src.st hk, fun x hx => (h.lists x hx).st hk, h.ext.st hk, h.data.st hk⟩
theorem Pkt.NewX.lies {q : Pkt} {w : World} {B C : Nat} (h : q.NewX w B C) : q.Lies w C :=
 ⟨h.new.reports.reads, h.ext.reads, h.new.chunks.reads, fun x hx => (h.new.items x hx).reads, h.src.reads, h.data.reads, h.new.pairs.reads, h.new.slices.reads, h.new.entries.reads, h.new.blocks.reads, fun x hx => (h.new.mets x hx).reads, h.new.stats.reads, fun x hx => (h.lists x hx).reads, h.new.deltas.reads⟩
def PlainOut (w : World) (R : Pkt → Prop) (e : Ending) (w' : World) : Prop :=
 ∃ q : Pkt, e = .returned (.agg q.cells) ∧ Below w.heap.size w w' ∧ q.NewX w' w.heap.size w'.heap.size ∧ R q
theorem pl_7 (s m : Int) (g : Nat) (w : World) (hb : Blk w g 178 #[.int .u32 s, .int .u32 m]) :
  Calls Tryz.prog 78 #[.iface 89 (.pointer (some ⟨g, 0, none⟩))] w (PlainOut w (fun q => q = pFb 7 s m)) := by
 refine go_in Tryz.func78 rfl Tryz.ntmps78 [.iface 89 (pt g 0)] fun a hE => ?_
 have hS := stp_in w
 have hS := stp_oldB hS 101 hb
 refine rg hE hS [nw 102] (fun p1 => kp [(2, pt (p1 0).g 0)]) (fun p1 => kP [(102, some (.blk (p1 0).g 56 zP))]) fun p1 a u hE hS => ?_
 refine wp_seq ?_
 refine rg hE hS [pu] (fun _ => kp [(26, .iface 89 (pt g 0))]) kP0 fun _ a u hE hS => wp_block ?_
 refine rg hE hS [pu, pu, pu] (fun _ => kp [(28, .bool false), (29, .pointer none)]) kP0 fun _ a u hE hS => iff hE ?_
 refine rg hE hS [pu, pu, pu] (fun _ => kp [(62, .bool false), (63, .pointer none)]) kP0 fun _ a u hE hS => iff hE ?_
 refine rg hE hS [pu, pu, pu] (fun _ => kp [(80, .bool false), (81, .pointer none)]) kP0 fun _ a u hE hS => iff hE ?_
 refine rg hE hS [pu, pu, pu] (fun _ => kp [(86, .bool false), (87, .pointer none)]) kP0 fun _ a u hE hS => iff hE ?_
 refine rg hE hS [pu, pu, pu] (fun _ => kp [(99, .bool false), (100, .pointer none)]) kP0 fun _ a u hE hS => iff hE ?_
 refine rg hE hS [pu, pu, pu] (fun _ => kp [(120, .bool false), (121, .pointer none)]) kP0 fun _ a u hE hS => iff hE ?_
 refine rg hE hS [pu, pu, pu] (fun _ => kp [(153, .bool true), (154, pt g 0)]) kP0 fun _ a u hE hS => ift hE ?_
 refine rg hE hS [pu] (fun _ => kp [(12, pt g 0)]) kP0 fun _ a u hE hS => ?_
 refine dgp hE hS [pu, pu, pu, lo 101 0, pu, pu, pu, lo 101 1, pu, st 102] kp0 (fun _ => kP [(102, some (.blk (p1 0).g 56 #[.int .i64 7, .int .u32 s, .int .u32 m, .int .u64 0, .int .u32 0, .int .u32 0, .int .u32 0, .slice none 0 0, .slice none 0 0, .slice none 0 0, .slice none 0 0, .string ByteArray.empty, .int .u8 0, .slice none 0 0, .slice none 0 0, .slice none 0 0, .slice none 0 0, .int .u32 0, .slice none 0 0, .int .u32 0, .int .u16 0, .int .u16 0, .int .u32 0, .int .u8 0, .slice none 0 0, .slice none 0 0, .bool false, .int .u8 0, .int .u8 0, .int .u16 0]))]) (fun _ => trivial) fun _ a u hE hS => ?_
 refine wp_ret (bkR (thR ?_))
 exact retc hE hS Tryz.results78 102 (p1 0).g 56 (pFb 7 s m).cells ⟨(pFb 7 s m), rfl, hS.below, ⟨⟨.nil, .nil, (fun x hx => by cases hx), .nil, .nil, .nil, .nil, (fun x hx => by cases hx), .nil, .nil⟩, .nil, (fun x hx => by cases hx), .nil, .nil⟩, rfl⟩ Tryz.underlying56

theorem pl_9 (s m : Int) (g : Nat) (w : World) (hb : Blk w g 183 #[.int .u32 s, .int .u32 m]) :
  Calls Tryz.prog 78 #[.iface 91 (.pointer (some ⟨g, 0, none⟩))] w (PlainOut w (fun q => q = pFb 9 s m)) := by
 refine go_in Tryz.func78 rfl Tryz.ntmps78 [.iface 91 (pt g 0)] fun a hE => ?_
 have hS := stp_in w
 have hS := stp_oldB hS 101 hb
 refine rg hE hS [nw 102] (fun p1 => kp [(2, pt (p1 0).g 0)]) (fun p1 => kP [(102, some (.blk (p1 0).g 56 zP))]) fun p1 a u hE hS => ?_
 refine wp_seq ?_
 refine rg hE hS [pu] (fun _ => kp [(26, .iface 91 (pt g 0))]) kP0 fun _ a u hE hS => wp_block ?_
 refine rg hE hS [pu, pu, pu] (fun _ => kp [(28, .bool false), (29, .pointer none)]) kP0 fun _ a u hE hS => iff hE ?_
 refine rg hE hS [pu, pu, pu] (fun _ => kp [(62, .bool false), (63, .pointer none)]) kP0 fun _ a u hE hS => iff hE ?_
 refine rg hE hS [pu, pu, pu] (fun _ => kp [(80, .bool false), (81, .pointer none)]) kP0 fun _ a u hE hS => iff hE ?_
 refine rg hE hS [pu, pu, pu] (fun _ => kp [(86, .bool false), (87, .pointer none)]) kP0 fun _ a u hE hS => iff hE ?_
 refine rg hE hS [pu, pu, pu] (fun _ => kp [(99, .bool false), (100, .pointer none)]) kP0 fun _ a u hE hS => iff hE ?_
 refine rg hE hS [pu, pu, pu] (fun _ => kp [(120, .bool false), (121, .pointer none)]) kP0 fun _ a u hE hS => iff hE ?_
 refine rg hE hS [pu, pu, pu] (fun _ => kp [(153, .bool false), (154, .pointer none)]) kP0 fun _ a u hE hS => iff hE ?_
 refine rg hE hS [pu, pu, pu] (fun _ => kp [(165, .bool false), (166, .pointer none)]) kP0 fun _ a u hE hS => iff hE ?_
 refine rg hE hS [pu, pu, pu] (fun _ => kp [(182, .bool true), (183, pt g 0)]) kP0 fun _ a u hE hS => ift hE ?_
 refine rg hE hS [pu] (fun _ => kp [(14, pt g 0)]) kP0 fun _ a u hE hS => ?_
 refine dgp hE hS [pu, pu, pu, lo 101 0, pu, pu, pu, lo 101 1, pu, st 102] kp0 (fun _ => kP [(102, some (.blk (p1 0).g 56 #[.int .i64 9, .int .u32 s, .int .u32 m, .int .u64 0, .int .u32 0, .int .u32 0, .int .u32 0, .slice none 0 0, .slice none 0 0, .slice none 0 0, .slice none 0 0, .string ByteArray.empty, .int .u8 0, .slice none 0 0, .slice none 0 0, .slice none 0 0, .slice none 0 0, .int .u32 0, .slice none 0 0, .int .u32 0, .int .u16 0, .int .u16 0, .int .u32 0, .int .u8 0, .slice none 0 0, .slice none 0 0, .bool false, .int .u8 0, .int .u8 0, .int .u16 0]))]) (fun _ => trivial) fun _ a u hE hS => ?_
 refine wp_ret (bkR (thR ?_))
 exact retc hE hS Tryz.results78 102 (p1 0).g 56 (pFb 9 s m).cells ⟨(pFb 9 s m), rfl, hS.below, ⟨⟨.nil, .nil, (fun x hx => by cases hx), .nil, .nil, .nil, .nil, (fun x hx => by cases hx), .nil, .nil⟩, .nil, (fun x hx => by cases hx), .nil, .nil⟩, rfl⟩ Tryz.underlying56

theorem pl_6 (s m : Int) (A : Option Addr) (c : Nat) (l : List Pair) (g : Nat) (w : World) (hb : Blk w g 173 #[.int .u32 s, .int .u32 m, .slice A (l.length : Nat) c]) (hr : Reads w w.heap.size 2 A l.length (l.flatMap Pair.cells)) (hl : l.length ≤ 1048576) :
  Calls Tryz.prog 78 #[.iface 88 (.pointer (some ⟨g, 0, none⟩))] w (PlainOut w (fun q => ∃ A2 c2, q = { pFb 6 s m with pairs := ⟨A2, c2, l⟩ })) := by
 refine go_in Tryz.func78 rfl Tryz.ntmps78 [.iface 88 (pt g 0)] fun a hE => ?_
 have hS := stp_in w
 have hS := stp_oldB hS 101 hb
 refine rg hE hS [nw 102] (fun p1 => kp [(2, pt (p1 0).g 0)]) (fun p1 => kP [(102, some (.blk (p1 0).g 56 zP))]) fun p1 a u hE hS => ?_
 refine wp_seq ?_
 refine rg hE hS [pu] (fun _ => kp [(26, .iface 88 (pt g 0))]) kP0 fun _ a u hE hS => wp_block ?_
 refine rg hE hS [pu, pu, pu] (fun _ => kp [(28, .bool false), (29, .pointer none)]) kP0 fun _ a u hE hS => iff hE ?_
 refine rg hE hS [pu, pu, pu] (fun _ => kp [(62, .bool false), (63, .pointer none)]) kP0 fun _ a u hE hS => iff hE ?_
 refine rg hE hS [pu, pu, pu] (fun _ => kp [(80, .bool false), (81, .pointer none)]) kP0 fun _ a u hE hS => iff hE ?_
 refine rg hE hS [pu, pu, pu] (fun _ => kp [(86, .bool false), (87, .pointer none)]) kP0 fun _ a u hE hS => iff hE ?_
 refine rg hE hS [pu, pu, pu] (fun _ => kp [(99, .bool false), (100, .pointer none)]) kP0 fun _ a u hE hS => iff hE ?_
 refine rg hE hS [pu, pu, pu] (fun _ => kp [(120, .bool true), (121, pt g 0)]) kP0 fun _ a u hE hS => ift hE ?_
 refine rg hE hS [pu] (fun _ => kp [(8, pt g 0)]) kP0 fun _ a u hE hS => ?_
 refine dgp hE hS [pu, pu, pu, lo 101 0, pu, pu, pu, lo 101 1, pu, nw 103, st 103] (fun p10 => kp [(9, pt (p10 9).g 0)]) (fun p10 => kP [(103, some (.blk (p10 9).g 56 ((cs6 s m (.slice none 0 0)))))]) (fun _ => trivial) fun p10 a u hE hS => ?_
 refine wp_seq ?_
 refine rg hE hS [pu, pu, pu, lo 101 2, pu, pu] (fun _ => kn [(134, .slice A (l.length : Nat) c), (135, .int .i64 (l.length : Nat)), (136, .int .i64 0)] [2, 9]) (fun _ => kN [] [103, 101, 102]) fun _ a u hE hS => ?_
 have hS := stp_row0 hS 1 w.heap.size 111 2
 refine range_up hE hS 136 l.length (fun _ _ => kd [136, 137, 150] []) (fun _ x => kP [(103, some (.blk (p10 9).g 56 ((cs6 s m (.slice x.p.a x.n x.p.c))))), (1, some (.row w.heap.size 111 2 (.slice x.p.a x.n x.p.c) x.n x.xs))]) (fun k (x : Lx Unit) => x.n = k ∧ x.xs = (l.take k).flatMap Pair.cells) ⟨pay0, 0, [], ()⟩ (by omega) (⟨rfl, by simp⟩) (fun k x a u hk hI hE hS K hK RK hRK => ?_) fun ⟨qq, n1, xs1, _⟩ a u hI hE hS => ?_
 ·obtain ⟨hk1, hk2⟩ := hI
  obtain ⟨xp, xn, xs, _⟩ := x
  simp only at hk1 hk2
  have hS := stp_el hS 90 (el_at hr (fun _ _ => rfl) rfl (fun g hg => ⟨hg, id⟩) k hk (by omega))
  generalize hrk : l[k] = r at hS
  refine rgp hE hS [ie 90, le 90 0, nw 91, st 91] (fun p12 => kp [(11, pt (p12 2).g 0)]) (fun p12 => kP [(91, some (.blk (p12 2).g 176 (Pair.cells r).toArray))]) (fun _ => ⟨kr (show k < l.length from hk), trivial⟩) fun p12 a u hE hS => ?_
  refine rgE hE hS [pu, ld 103, pu, ld 91, pu, ld 91, pu, nw 92, ap 1 [92], pu, st 103] kp0 (fun p13 => kP [(103, some (.blk (p10 9).g 56 ((cs6 s m (.slice (p13 8).a (xn + 1) (p13 8).c))))), (1, some (.row w.heap.size 111 2 (.slice (p13 8).a (xn + 1) (p13 8).c) (xn + 1) (xs ++ Pair.cells r)))]) (fun _ => ⟨kr (show w.heap.size ≤ w.heap.size ∧ (xn + 1) * 4 ≤ 140737488355328 ∧ ∀ u ∈ Pair.cells r, u.oneCell' = true from ⟨Nat.le_refl _, by omega, by intro u hu; simp [Pair.cells] at hu; rcases hu with rfl | rfl <;> rfl⟩), trivial⟩) fun p13 a u hE hS => ?_
  exact hK ⟨(p13 8), xn + 1, xs ++ Pair.cells r, ()⟩ a u _ _ ⟨congrArg (· + 1) hk1, by show xs ++ _ = _; rw [hk2, List.take_succ_eq_append_getElem hk, List.flatMap_append, hrk]; simp⟩ hE hS (by kernel_rfl)
 simp only [List.take_length] at hI
 obtain ⟨h1, h2⟩ := hI
 subst h1 h2
 refine rg hE hS [ld 103, st 102] kp0 (fun _ => kP [(102, some (.blk (p1 0).g 56 ((cs6 s m (.slice qq.a (l.length : Nat) qq.c)))))]) fun _ a u hE hS => ?_
 refine wp_ret (bkR (thR ?_))
 have hrow : InRows u w.heap.size u.heap.size 2 qq.a l.length (l.flatMap Pair.cells) := InRows.of_own (pcR (base := w.heap.size) (e := 111) (size := 2) (v := .slice qq.a l.length qq.c) (n := l.length) (xs := l.flatMap Pair.cells) hS 1)
 exact retc hE hS Tryz.results78 102 (p1 0).g 56 ({ pFb 6 s m with pairs := ⟨qq.a, qq.c, l⟩ } : Pkt).cells ⟨({ pFb 6 s m with pairs := ⟨qq.a, qq.c, l⟩ } : Pkt), rfl, hS.below, ⟨⟨.nil, .nil, (fun x hx => by cases hx), hrow, .nil, .nil, .nil, (fun x hx => by cases hx), .nil, .nil⟩, .nil, (fun x hx => by cases hx), .nil, .nil⟩, ⟨_, _, rfl⟩⟩ Tryz.underlying56

theorem pl_10 (s m : Int) (A : Option Addr) (c : Nat) (l : List Slc) (g : Nat) (w : World) (hb : Blk w g 186 #[.int .u32 s, .int .u32 m, .slice A (l.length : Nat) c]) (hr : Reads w w.heap.size 3 A l.length (l.flatMap Slc.cells)) (hl : l.length ≤ 1048576) :
  Calls Tryz.prog 78 #[.iface 92 (.pointer (some ⟨g, 0, none⟩))] w (PlainOut w (fun q => ∃ A2 c2, q = { pFb 10 s m with slices := ⟨A2, c2, l⟩ })) := by
 refine go_in Tryz.func78 rfl Tryz.ntmps78 [.iface 92 (pt g 0)] fun a hE => ?_
 have hS := stp_in w
 have hS := stp_oldB hS 101 hb
 refine rg hE hS [nw 102] (fun p1 => kp [(2, pt (p1 0).g 0)]) (fun p1 => kP [(102, some (.blk (p1 0).g 56 zP))]) fun p1 a u hE hS => ?_
 refine wp_seq ?_
 refine rg hE hS [pu] (fun _ => kp [(26, .iface 92 (pt g 0))]) kP0 fun _ a u hE hS => wp_block ?_
 refine rg hE hS [pu, pu, pu] (fun _ => kp [(28, .bool false), (29, .pointer none)]) kP0 fun _ a u hE hS => iff hE ?_
 refine rg hE hS [pu, pu, pu] (fun _ => kp [(62, .bool false), (63, .pointer none)]) kP0 fun _ a u hE hS => iff hE ?_
 refine rg hE hS [pu, pu, pu] (fun _ => kp [(80, .bool false), (81, .pointer none)]) kP0 fun _ a u hE hS => iff hE ?_
 refine rg hE hS [pu, pu, pu] (fun _ => kp [(86, .bool false), (87, .pointer none)]) kP0 fun _ a u hE hS => iff hE ?_
 refine rg hE hS [pu, pu, pu] (fun _ => kp [(99, .bool false), (100, .pointer none)]) kP0 fun _ a u hE hS => iff hE ?_
 refine rg hE hS [pu, pu, pu] (fun _ => kp [(120, .bool false), (121, .pointer none)]) kP0 fun _ a u hE hS => iff hE ?_
 refine rg hE hS [pu, pu, pu] (fun _ => kp [(153, .bool false), (154, .pointer none)]) kP0 fun _ a u hE hS => iff hE ?_
 refine rg hE hS [pu, pu, pu] (fun _ => kp [(165, .bool false), (166, .pointer none)]) kP0 fun _ a u hE hS => iff hE ?_
 refine rg hE hS [pu, pu, pu] (fun _ => kp [(182, .bool false), (183, .pointer none)]) kP0 fun _ a u hE hS => iff hE ?_
 refine rg hE hS [pu, pu, pu] (fun _ => kp [(194, .bool true), (195, pt g 0)]) kP0 fun _ a u hE hS => ift hE ?_
 refine rg hE hS [pu] (fun _ => kp [(15, pt g 0)]) kP0 fun _ a u hE hS => ?_
 refine dgp hE hS [pu, pu, pu, lo 101 0, pu, pu, pu, lo 101 1, pu, nw 103, st 103] (fun p14 => kp [(16, pt (p14 9).g 0)]) (fun p14 => kP [(103, some (.blk (p14 9).g 56 ((cs10 s m (.slice none 0 0)))))]) (fun _ => trivial) fun p14 a u hE hS => ?_
 refine wp_seq ?_
 refine rg hE hS [pu, pu, pu, lo 101 2, pu, pu] (fun _ => kn [(208, .slice A (l.length : Nat) c), (209, .int .i64 (l.length : Nat)), (210, .int .i64 0)] [2, 16]) (fun _ => kN [] [103, 101, 102]) fun _ a u hE hS => ?_
 have hS := stp_row0 hS 1 w.heap.size 114 3
 refine range_up hE hS 210 l.length (fun _ _ => kd [210, 211, 226] []) (fun _ x => kP [(103, some (.blk (p14 9).g 56 ((cs10 s m (.slice x.p.a x.n x.p.c))))), (1, some (.row w.heap.size 114 3 (.slice x.p.a x.n x.p.c) x.n x.xs))]) (fun k (x : Lx Unit) => x.n = k ∧ x.xs = (l.take k).flatMap Slc.cells) ⟨pay0, 0, [], ()⟩ (by omega) (⟨rfl, by simp⟩) (fun k x a u hk hI hE hS K hK RK hRK => ?_) fun ⟨qq, n1, xs1, _⟩ a u hI hE hS => ?_
 ·obtain ⟨hk1, hk2⟩ := hI
  obtain ⟨xp, xn, xs, _⟩ := x
  simp only at hk1 hk2
  have hS := stp_el hS 90 (el_at hr (fun _ _ => rfl) rfl (fun g hg => ⟨hg, id⟩) k hk (by omega))
  generalize hrk : l[k] = r at hS
  refine rgp hE hS [ie 90, le 90 0, nw 91, st 91] (fun p16 => kp [(18, pt (p16 2).g 0)]) (fun p16 => kP [(91, some (.blk (p16 2).g 187 (Slc.cells r).toArray))]) (fun _ => ⟨kr (show k < l.length from hk), trivial⟩) fun p16 a u hE hS => ?_
  refine rgE hE hS [pu, ld 103, pu, ld 91, pu, ld 91, pu, ld 91, pu, nw 92, ap 1 [92], pu, st 103] kp0 (fun p17 => kP [(103, some (.blk (p14 9).g 56 ((cs10 s m (.slice (p17 10).a (xn + 1) (p17 10).c))))), (1, some (.row w.heap.size 114 3 (.slice (p17 10).a (xn + 1) (p17 10).c) (xn + 1) (xs ++ Slc.cells r)))]) (fun _ => ⟨kr (show w.heap.size ≤ w.heap.size ∧ (xn + 1) * 6 ≤ 140737488355328 ∧ ∀ u ∈ Slc.cells r, u.oneCell' = true from ⟨Nat.le_refl _, by omega, by intro u hu; simp [Slc.cells] at hu; rcases hu with rfl | rfl | rfl <;> rfl⟩), trivial⟩) fun p17 a u hE hS => ?_
  exact hK ⟨(p17 10), xn + 1, xs ++ Slc.cells r, ()⟩ a u _ _ ⟨congrArg (· + 1) hk1, by show xs ++ _ = _; rw [hk2, List.take_succ_eq_append_getElem hk, List.flatMap_append, hrk]; simp⟩ hE hS (by kernel_rfl)
 simp only [List.take_length] at hI
 obtain ⟨h1, h2⟩ := hI
 subst h1 h2
 refine rg hE hS [ld 103, st 102] kp0 (fun _ => kP [(102, some (.blk (p1 0).g 56 ((cs10 s m (.slice qq.a (l.length : Nat) qq.c)))))]) fun _ a u hE hS => ?_
 refine wp_ret (bkR (thR ?_))
 have hrow : InRows u w.heap.size u.heap.size 3 qq.a l.length (l.flatMap Slc.cells) := InRows.of_own (pcR (base := w.heap.size) (e := 114) (size := 3) (v := .slice qq.a l.length qq.c) (n := l.length) (xs := l.flatMap Slc.cells) hS 1)
 exact retc hE hS Tryz.results78 102 (p1 0).g 56 ({ pFb 10 s m with slices := ⟨qq.a, qq.c, l⟩ } : Pkt).cells ⟨({ pFb 10 s m with slices := ⟨qq.a, qq.c, l⟩ } : Pkt), rfl, hS.below, ⟨⟨.nil, .nil, (fun x hx => by cases hx), .nil, hrow, .nil, .nil, (fun x hx => by cases hx), .nil, .nil⟩, .nil, (fun x hx => by cases hx), .nil, .nil⟩, ⟨_, _, rfl⟩⟩ Tryz.underlying56

theorem pl_11 (s m : Int) (A : Option Addr) (c : Nat) (l : List Ent) (g : Nat) (w : World) (hb : Blk w g 190 #[.int .u32 s, .int .u32 m, .slice A (l.length : Nat) c]) (hr : Reads w w.heap.size 2 A l.length (l.flatMap Ent.cells)) (hl : l.length ≤ 1048576) :
  Calls Tryz.prog 78 #[.iface 93 (.pointer (some ⟨g, 0, none⟩))] w (PlainOut w (fun q => ∃ A2 c2, q = { pFb 11 s m with entries := ⟨A2, c2, l⟩ })) := by
 refine go_in Tryz.func78 rfl Tryz.ntmps78 [.iface 93 (pt g 0)] fun a hE => ?_
 have hS := stp_in w
 have hS := stp_oldB hS 101 hb
 refine rg hE hS [nw 102] (fun p1 => kp [(2, pt (p1 0).g 0)]) (fun p1 => kP [(102, some (.blk (p1 0).g 56 zP))]) fun p1 a u hE hS => ?_
 refine wp_seq ?_
 refine rg hE hS [pu] (fun _ => kp [(26, .iface 93 (pt g 0))]) kP0 fun _ a u hE hS => wp_block ?_
 refine rg hE hS [pu, pu, pu] (fun _ => kp [(28, .bool false), (29, .pointer none)]) kP0 fun _ a u hE hS => iff hE ?_
 refine rg hE hS [pu, pu, pu] (fun _ => kp [(62, .bool false), (63, .pointer none)]) kP0 fun _ a u hE hS => iff hE ?_
 refine rg hE hS [pu, pu, pu] (fun _ => kp [(80, .bool false), (81, .pointer none)]) kP0 fun _ a u hE hS => iff hE ?_
 refine rg hE hS [pu, pu, pu] (fun _ => kp [(86, .bool false), (87, .pointer none)]) kP0 fun _ a u hE hS => iff hE ?_
 refine rg hE hS [pu, pu, pu] (fun _ => kp [(99, .bool false), (100, .pointer none)]) kP0 fun _ a u hE hS => iff hE ?_
 refine rg hE hS [pu, pu, pu] (fun _ => kp [(120, .bool false), (121, .pointer none)]) kP0 fun _ a u hE hS => iff hE ?_
 refine rg hE hS [pu, pu, pu] (fun _ => kp [(153, .bool false), (154, .pointer none)]) kP0 fun _ a u hE hS => iff hE ?_
 refine rg hE hS [pu, pu, pu] (fun _ => kp [(165, .bool false), (166, .pointer none)]) kP0 fun _ a u hE hS => iff hE ?_
 refine rg hE hS [pu, pu, pu] (fun _ => kp [(182, .bool false), (183, .pointer none)]) kP0 fun _ a u hE hS => iff hE ?_
 refine rg hE hS [pu, pu, pu] (fun _ => kp [(194, .bool false), (195, .pointer none)]) kP0 fun _ a u hE hS => iff hE ?_
 refine rg hE hS [pu, pu, pu] (fun _ => kp [(229, .bool true), (230, pt g 0)]) kP0 fun _ a u hE hS => ift hE ?_
 refine rg hE hS [pu] (fun _ => kp [(19, pt g 0)]) kP0 fun _ a u hE hS => ?_
 refine dgp hE hS [pu, pu, pu, lo 101 0, pu, pu, pu, lo 101 1, pu, nw 103, st 103] (fun p15 => kp [(20, pt (p15 9).g 0)]) (fun p15 => kP [(103, some (.blk (p15 9).g 56 ((cs11 s m (.slice none 0 0)))))]) (fun _ => trivial) fun p15 a u hE hS => ?_
 refine wp_seq ?_
 refine rg hE hS [pu, pu, pu, lo 101 2, pu, pu] (fun _ => kn [(243, .slice A (l.length : Nat) c), (244, .int .i64 (l.length : Nat)), (245, .int .i64 0)] [2, 20]) (fun _ => kN [] [103, 101, 102]) fun _ a u hE hS => ?_
 have hS := stp_row0 hS 1 w.heap.size 117 2
 refine range_up hE hS 245 l.length (fun _ _ => kd [245, 246, 259] []) (fun _ x => kP [(103, some (.blk (p15 9).g 56 ((cs11 s m (.slice x.p.a x.n x.p.c))))), (1, some (.row w.heap.size 117 2 (.slice x.p.a x.n x.p.c) x.n x.xs))]) (fun k (x : Lx Unit) => x.n = k ∧ x.xs = (l.take k).flatMap Ent.cells) ⟨pay0, 0, [], ()⟩ (by omega) (⟨rfl, by simp⟩) (fun k x a u hk hI hE hS K hK RK hRK => ?_) fun ⟨qq, n1, xs1, _⟩ a u hI hE hS => ?_
 ·obtain ⟨hk1, hk2⟩ := hI
  obtain ⟨xp, xn, xs, _⟩ := x
  simp only at hk1 hk2
  have hS := stp_el hS 90 (el_at hr (fun _ _ => rfl) rfl (fun g hg => ⟨hg, id⟩) k hk (by omega))
  generalize hrk : l[k] = r at hS
  refine rgp hE hS [ie 90, le 90 0, nw 91, st 91] (fun p17 => kp [(22, pt (p17 2).g 0)]) (fun p17 => kP [(91, some (.blk (p17 2).g 192 (Ent.cells r).toArray))]) (fun _ => ⟨kr (show k < l.length from hk), trivial⟩) fun p17 a u hE hS => ?_
  refine rgE hE hS [pu, ld 103, pu, ld 91, pu, ld 91, pu, nw 92, ap 1 [92], pu, st 103] kp0 (fun p18 => kP [(103, some (.blk (p15 9).g 56 ((cs11 s m (.slice (p18 8).a (xn + 1) (p18 8).c))))), (1, some (.row w.heap.size 117 2 (.slice (p18 8).a (xn + 1) (p18 8).c) (xn + 1) (xs ++ Ent.cells r)))]) (fun _ => ⟨kr (show w.heap.size ≤ w.heap.size ∧ (xn + 1) * 8 ≤ 140737488355328 ∧ ∀ u ∈ Ent.cells r, u.oneCell' = true from ⟨Nat.le_refl _, by omega, by intro u hu; simp [Ent.cells] at hu; rcases hu with rfl | rfl <;> rfl⟩), trivial⟩) fun p18 a u hE hS => ?_
  exact hK ⟨(p18 8), xn + 1, xs ++ Ent.cells r, ()⟩ a u _ _ ⟨congrArg (· + 1) hk1, by show xs ++ _ = _; rw [hk2, List.take_succ_eq_append_getElem hk, List.flatMap_append, hrk]; simp⟩ hE hS (by kernel_rfl)
 simp only [List.take_length] at hI
 obtain ⟨h1, h2⟩ := hI
 subst h1 h2
 refine rg hE hS [ld 103, st 102] kp0 (fun _ => kP [(102, some (.blk (p1 0).g 56 ((cs11 s m (.slice qq.a (l.length : Nat) qq.c)))))]) fun _ a u hE hS => ?_
 refine wp_ret (bkR (thR ?_))
 have hrow : InRows u w.heap.size u.heap.size 2 qq.a l.length (l.flatMap Ent.cells) := InRows.of_own (pcR (base := w.heap.size) (e := 117) (size := 2) (v := .slice qq.a l.length qq.c) (n := l.length) (xs := l.flatMap Ent.cells) hS 1)
 exact retc hE hS Tryz.results78 102 (p1 0).g 56 ({ pFb 11 s m with entries := ⟨qq.a, qq.c, l⟩ } : Pkt).cells ⟨({ pFb 11 s m with entries := ⟨qq.a, qq.c, l⟩ } : Pkt), rfl, hS.below, ⟨⟨.nil, .nil, (fun x hx => by cases hx), .nil, .nil, hrow, .nil, (fun x hx => by cases hx), .nil, .nil⟩, .nil, (fun x hx => by cases hx), .nil, .nil⟩, ⟨_, _, rfl⟩⟩ Tryz.underlying56

theorem prep_any (r : Rep) (w : World) :
  Calls Tryz.prog 114 #[.agg r.cells.toArray] w fun e w' => e = .returned (.agg r.cells.toArray) ∧ Below w.heap.size w w' := by
 refine go_in Tryz.func114 rfl Tryz.ntmps114 [.agg r.cells.toArray] fun a hE => ?_
 have hS := stp_in w
 refine rg hE hS [nw 100, nw 102] (fun p1 => kp [(1, pt (p1 0).g 0), (2, pt (p1 1).g 0)]) (fun p1 => kP [(100, some (.blk (p1 0).g 221 r.cells.toArray)), (102, some (.blk (p1 1).g 99 #[.int .u32 0, .int .u8 0, .int .u32 0, .int .u32 0, .int .u32 0, .int .u32 0, .int .u32 0]))]) fun p1 a u hE hS => ?_
 refine rg hE hS [pu, ld 100, pu, ld 100, pu, ld 100, pu, ld 100, pu, ld 100, pu, ld 100, pu, ld 100, pu, st 102] kp0 (fun _ => kP [(102, some (.blk (p1 1).g 99 r.cells.toArray))]) fun _ a u hE hS => ?_
 refine wp_ret ?_
 exact retc hE hS Tryz.results114 102 (p1 1).g 99 r.cells.toArray ⟨rfl, hS.below⟩ Tryz.underlying99
theorem cu_rowP {P : Program} {w0 : World} {ps : List (Option Pc)} (f : FuncId) (args : Array Value) (k : Nat) (T : TypeId) (size n : Nat) (xs : List Value)
  (h : ∀ w, Below w0.heap.size w0 w → w0.heap.size ≤ w.heap.size → Calls P f args w fun e w' => ∃ v, e = .returned v ∧ w'.ownsRow w.heap.size T size v n xs ∧ Below w.heap.size w w')
  (L : PL) (w : World) (_ : ps = ([] ++ [k]).map (lookP L)) (hS : Stp (fun _ => False) w0 w (restr ([] ++ [k]) (lookM (den (fun _ => False) w0 L)))) :
  Calls P f args w fun e w' => ∃ x : Pay, e = .returned (.slice x.a n x.c) ∧ Stp (blksOf (lookM (den (fun _ => False) w0 L)) [k]) w w' (lookM (den (fun _ => False) w0 (zipW [k] [some (.row w0.heap.size T size (.slice x.a n x.c) n xs)]))) := by
 refine (h w hS.below hS.size).mono ?_
 rintro e w' ⟨v, rfl, hown, hB⟩
 obtain ⟨A, c, rfl⟩ := own_form hown
 refine ⟨⟨0, c, undef, A⟩, rfl, ?_⟩
 have ho := own_base hown hS.size
 exact stp_make hB ho fun g hg => ⟨(hown.lt g hg).2, (hown.lt g hg).1⟩
theorem u32c_oneP (l : List Int) : ∀ u ∈ l.flatMap u32c, u.oneCell' = true := by
 intro u hu
 obtain ⟨x, _, hx⟩ := List.mem_flatMap.1 hu
 simp [u32c] at hx
 subst hx
 rfl
theorem cu_prep {olds : Nat → Prop} {w0 : World} (r : Rep) (L : PL) (w : World) (hps : [] = ([] ++ []).map (lookP L)) (hS : Stp olds w0 w (restr ([] ++ []) (lookM (den olds w0 L)))) :
  Calls Tryz.prog 114 #[.agg r.cells.toArray] w fun e w' => ∃ x : Pay, e = .returned (.agg r.cells.toArray) ∧ Stp (blksOf (lookM (den olds w0 L)) []) w w' (lookM (den olds w0 (zipW [] []))) :=
 (prep_any r w).mono fun e w' ⟨he, hB⟩ => ⟨pay0, he, stp_of_below hB⟩

theorem preps_any (A : Option Addr) (c : Nat) (l : List Rep) (w : World) (hr : Reads w w.heap.size 7 A l.length (l.flatMap Rep.cells)) (hl : l.length ≤ 1048576) :
  Calls Tryz.prog 105 #[.slice A (l.length : Nat) c] w fun e w' => ∃ v, e = .returned v ∧ w'.ownsRow w.heap.size 99 7 v l.length (l.flatMap Rep.cells) ∧ Below w.heap.size w w' := by
 refine go_in Tryz.func105 rfl Tryz.ntmps105 [.slice A (l.length : Nat) c] fun a hE => ?_
 have hS := stp_in w
 refine rg hE hS [pu] (fun _ => kp [(2, .slice none 0 0)]) kP0 fun _ a u hE hS => ?_
 refine rg hE hS [pu] (fun _ => kp [(3, .slice none 0 0)]) kP0 fun _ a u hE hS => ?_
 refine wp_seq ?_
 refine rg hE hS [pu, pu, pu] (fun _ => kn [(6, .slice A (l.length : Nat) c), (7, .int .i64 (l.length : Nat)), (8, .int .i64 0)] [2, 3]) (fun _ => kN [] []) fun _ a u hE hS => ?_
 have hS := stp_row0 hS 1 w.heap.size 99 7
 refine range_up hE hS 8 l.length (fun _ x => kd [8, 9, 17] [(3, .slice x.p.a x.n x.p.c)]) (fun _ x => kP [(1, some (.row w.heap.size 99 7 (.slice x.p.a x.n x.p.c) x.n x.xs))]) (fun k (x : Lx Unit) => x.n = k ∧ x.xs = (l.take k).flatMap Rep.cells) ⟨pay0, 0, [], ()⟩ (by omega) (⟨rfl, by simp⟩) (fun k x a u hk hI hE hS K hK RK hRK => ?_) fun ⟨qq, n1, xs1, _⟩ a u hI hE hS => ?_
 ·obtain ⟨hk1, hk2⟩ := hI
  obtain ⟨xp, xn, xs, _⟩ := x
  simp only at hk1 hk2
  have hS := stp_el hS 90 (el_at hr (fun _ _ => rfl) rfl (fun g hg => ⟨hg, id⟩) k hk (by omega))
  generalize hrk : l[k] = r at hS
  refine rgp hE hS [ie 90, le 90 0, nw 91, st 91] (fun p4 => kp [(5, pt (p4 2).g 0)]) (fun p4 => kP [(91, some (.blk (p4 2).g 221 (Rep.cells r).toArray))]) (fun _ => ⟨kr (show k < l.length from hk), trivial⟩) fun p4 a u hE hS => ?_
  refine rgE hE hS [pu, ld 91, cu 114 [] [] (fun _ => .agg (Rep.cells r).toArray) (fun _ => []), nw 92, ap 1 [92], pu] (fun p5 => kp [(3, .slice (p5 4).a (xn + 1) (p5 4).c)]) (fun p5 => kP [(1, some (.row w.heap.size 99 7 (.slice (p5 4).a (xn + 1) (p5 4).c) (xn + 1) (xs ++ Rep.cells r)))]) (fun _ => ⟨kr (cu_prep (w0 := w) (olds := fun _ => False) r), kr (show w.heap.size ≤ w.heap.size ∧ (xn + 1) * 28 ≤ 140737488355328 ∧ ∀ u ∈ Rep.cells r, u.oneCell' = true from ⟨Nat.le_refl _, by omega, by intro u hu; simp [Rep.cells] at hu; rcases hu with rfl | rfl | rfl | rfl | rfl | rfl | rfl <;> rfl⟩), trivial⟩) fun p5 a u hE hS => ?_
  exact hK ⟨(p5 4), xn + 1, xs ++ Rep.cells r, ()⟩ a u _ _ ⟨congrArg (· + 1) hk1, by show xs ++ _ = _; rw [hk2, List.take_succ_eq_append_getElem hk, List.flatMap_append, hrk]; simp⟩ hE hS (by kernel_rfl)
 simp only [List.take_length] at hI
 obtain ⟨h1, h2⟩ := hI
 subst h1 h2
 refine rg hE hS [pu, pu] (fun _ => kp [(2, .slice qq.a l.length qq.c)]) kP0 fun _ a u hE hS => ?_
 refine wp_ret ?_
 exact ret1 hE Tryz.results105 (.slice qq.a l.length qq.c) ⟨_, rfl, pcR (base := w.heap.size) (e := 99) (size := 7) (v := .slice qq.a l.length qq.c) (n := l.length) (xs := l.flatMap Rep.cells) hS 1, hS.below⟩

theorem pl_1 (s ntp rtp pc oc : Int) (A A2 : Option Addr) (c c2 : Nat) (l : List Rep) (e : List Int) (g : Nat) (w : World) (hb : Blk w g 162 #[.int .u32 s, .int .u64 ntp, .int .u32 rtp, .int .u32 pc, .int .u32 oc, .slice A (l.length : Nat) c, .slice A2 e.length c2]) (hr : Reads w w.heap.size 7 A l.length (l.flatMap Rep.cells)) (he : Reads w w.heap.size 1 A2 e.length (u8s e)) (hl : l.length ≤ 1048576) (hel : e.length ≤ 1048576) :
  Calls Tryz.prog 78 #[.iface 79 (.pointer (some ⟨g, 0, none⟩))] w (PlainOut w (fun q => ∃ B c B2 c2, q = { pNul with kind := 1, sender := s, ntp := ntp, rtp := rtp, packets := pc, octets := oc, reports := ⟨B, c, l⟩, ext := ⟨B2, c2, e⟩ })) := by
 refine go_in Tryz.func78 rfl Tryz.ntmps78 [.iface 79 (pt g 0)] fun a hE => ?_
 have hS := stp_in w
 have hS := stp_oldB hS 101 hb
 refine rg hE hS [nw 102] (fun p1 => kp [(2, pt (p1 0).g 0)]) (fun p1 => kP [(102, some (.blk (p1 0).g 56 zP))]) fun p1 a u hE hS => ?_
 refine wp_seq ?_
 refine rg hE hS [pu] (fun _ => kp [(26, .iface 79 (pt g 0))]) kP0 fun _ a u hE hS => wp_block ?_
 refine rg hE hS [pu, pu, pu] (fun _ => kp [(28, .bool true), (29, pt g 0)]) kP0 fun _ a u hE hS => ift hE ?_
 refine rg hE hS [pu] (fun _ => kp [(3, pt g 0)]) kP0 fun _ a u hE hS => ?_
 refine dgp hE hS [pu, pu, pu, lo 101 0, pu, pu, pu, lo 101 1, pu, pu, pu, lo 101 2, pu, pu, pu, lo 101 3, pu, pu, pu, lo 101 4, pu, pu, pu, lo 101 5, cu 105 [] [21] (fun y => .slice y.a l.length y.c) (fun y => [some (.row w.heap.size 99 7 (.slice y.a l.length y.c) l.length (l.flatMap Rep.cells))]), pu, pu, pu, lo 101 6, cu 45 [] [22] (fun y => .slice y.a e.length y.c) (fun y => [some (.row w.heap.size 5 1 (.slice y.a e.length y.c) e.length (u8s e))]), pu, st 102] kp0 (fun p5 => kP [(22, some (.row w.heap.size 5 1 (.slice (p5 29).a e.length (p5 29).c) e.length (u8s e))), (21, some (.row w.heap.size 99 7 (.slice (p5 24).a l.length (p5 24).c) l.length (l.flatMap Rep.cells))), (102, some (.blk (p1 0).g 56 #[.int .i64 1, .int .u32 s, .int .u32 0, .int .u64 ntp, .int .u32 rtp, .int .u32 pc, .int .u32 oc, .slice (p5 24).a l.length (p5 24).c, .slice (p5 29).a e.length (p5 29).c, .slice none 0 0, .slice none 0 0, .string ByteArray.empty, .int .u8 0, .slice none 0 0, .slice none 0 0, .slice none 0 0, .slice none 0 0, .int .u32 0, .slice none 0 0, .int .u32 0, .int .u16 0, .int .u16 0, .int .u32 0, .int .u8 0, .slice none 0 0, .slice none 0 0, .bool false, .int .u8 0, .int .u8 0, .int .u16 0]))]) (fun _ => ⟨kr (cu_rowP (P := Tryz.prog) (w0 := w) (ps := [none]) 105 #[.slice A (l.length : Nat) c] 21 99 7 l.length (l.flatMap Rep.cells) (fun w4 hB hz => preps_any A c l w4 ((Reads.below hr hB).more hz) hl)), kr (cu_rowP (P := Tryz.prog) (w0 := w) (ps := [none]) 45 #[.slice A2 e.length c2] 22 5 1 e.length (u8s e) (fun w4 hB hz => clone8 w4.heap.size A2 e.length c2 (u8s e) w4 ((Reads.below he hB).more hz) (u8s_one _) (Nat.le_refl _) (by omega))), trivial⟩) fun p5 a u hE hS => ?_
 refine wp_ret (bkR (thR ?_))
 have h1 := InRows.of_own (pcR (base := w.heap.size) (e := 99) (size := 7) (v := .slice (p5 24).a l.length (p5 24).c) (n := l.length) (xs := l.flatMap Rep.cells) hS 21)
 have h2 := InRows.of_own (pcR (base := w.heap.size) (e := 5) (size := 1) (v := .slice (p5 29).a e.length (p5 29).c) (n := e.length) (xs := u8s e) hS 22)
 exact retc hE hS Tryz.results78 102 (p1 0).g 56 ({ pNul with kind := 1, sender := s, ntp := ntp, rtp := rtp, packets := pc, octets := oc, reports := ⟨(p5 24).a, (p5 24).c, l⟩, ext := ⟨(p5 29).a, (p5 29).c, e⟩ } : Pkt).cells ⟨({ pNul with kind := 1, sender := s, ntp := ntp, rtp := rtp, packets := pc, octets := oc, reports := ⟨(p5 24).a, (p5 24).c, l⟩, ext := ⟨(p5 29).a, (p5 29).c, e⟩ } : Pkt), rfl, hS.below, ⟨⟨h1, .nil, (fun x hx => by cases hx), .nil, .nil, .nil, .nil, (fun x hx => by cases hx), .nil, .nil⟩, .nil, (fun x hx => by cases hx), (by rw [u8c_flat]; exact h2), .nil⟩, ⟨_, _, _, _, rfl⟩⟩ Tryz.underlying56

theorem pl_2 (s : Int) (A A2 : Option Addr) (c c2 : Nat) (l : List Rep) (e : List Int) (g : Nat) (w : World) (hb : Blk w g 164 #[.int .u32 s, .slice A (l.length : Nat) c, .slice A2 e.length c2]) (hr : Reads w w.heap.size 7 A l.length (l.flatMap Rep.cells)) (he : Reads w w.heap.size 1 A2 e.length (u8s e)) (hl : l.length ≤ 1048576) (hel : e.length ≤ 1048576) :
  Calls Tryz.prog 78 #[.iface 85 (.pointer (some ⟨g, 0, none⟩))] w (PlainOut w (fun q => ∃ B c B2 c2, q = { pNul with kind := 2, sender := s, reports := ⟨B, c, l⟩, ext := ⟨B2, c2, e⟩ })) := by
 refine go_in Tryz.func78 rfl Tryz.ntmps78 [.iface 85 (pt g 0)] fun a hE => ?_
 have hS := stp_in w
 have hS := stp_oldB hS 101 hb
 refine rg hE hS [nw 102] (fun p1 => kp [(2, pt (p1 0).g 0)]) (fun p1 => kP [(102, some (.blk (p1 0).g 56 zP))]) fun p1 a u hE hS => ?_
 refine wp_seq ?_
 refine rg hE hS [pu] (fun _ => kp [(26, .iface 85 (pt g 0))]) kP0 fun _ a u hE hS => wp_block ?_
 refine rg hE hS [pu, pu, pu] (fun _ => kp [(28, .bool false), (29, .pointer none)]) kP0 fun _ a u hE hS => iff hE ?_
 refine rg hE hS [pu, pu, pu] (fun _ => kp [(62, .bool true), (63, pt g 0)]) kP0 fun _ a u hE hS => ift hE ?_
 refine rg hE hS [pu] (fun _ => kp [(4, pt g 0)]) kP0 fun _ a u hE hS => ?_
 refine dgp hE hS [pu, pu, pu, lo 101 0, pu, pu, pu, lo 101 1, cu 105 [] [21] (fun y => .slice y.a l.length y.c) (fun y => [some (.row w.heap.size 99 7 (.slice y.a l.length y.c) l.length (l.flatMap Rep.cells))]), pu, pu, pu, lo 101 2, cu 45 [] [22] (fun y => .slice y.a e.length y.c) (fun y => [some (.row w.heap.size 5 1 (.slice y.a e.length y.c) e.length (u8s e))]), pu, st 102] kp0 (fun p6 => kP [(22, some (.row w.heap.size 5 1 (.slice (p6 13).a e.length (p6 13).c) e.length (u8s e))), (21, some (.row w.heap.size 99 7 (.slice (p6 8).a l.length (p6 8).c) l.length (l.flatMap Rep.cells))), (102, some (.blk (p1 0).g 56 #[.int .i64 2, .int .u32 s, .int .u32 0, .int .u64 0, .int .u32 0, .int .u32 0, .int .u32 0, .slice (p6 8).a l.length (p6 8).c, .slice (p6 13).a e.length (p6 13).c, .slice none 0 0, .slice none 0 0, .string ByteArray.empty, .int .u8 0, .slice none 0 0, .slice none 0 0, .slice none 0 0, .slice none 0 0, .int .u32 0, .slice none 0 0, .int .u32 0, .int .u16 0, .int .u16 0, .int .u32 0, .int .u8 0, .slice none 0 0, .slice none 0 0, .bool false, .int .u8 0, .int .u8 0, .int .u16 0]))]) (fun _ => ⟨kr (cu_rowP (P := Tryz.prog) (w0 := w) (ps := [none]) 105 #[.slice A (l.length : Nat) c] 21 99 7 l.length (l.flatMap Rep.cells) (fun w4 hB hz => preps_any A c l w4 ((Reads.below hr hB).more hz) hl)), kr (cu_rowP (P := Tryz.prog) (w0 := w) (ps := [none]) 45 #[.slice A2 e.length c2] 22 5 1 e.length (u8s e) (fun w4 hB hz => clone8 w4.heap.size A2 e.length c2 (u8s e) w4 ((Reads.below he hB).more hz) (u8s_one _) (Nat.le_refl _) (by omega))), trivial⟩) fun p6 a u hE hS => ?_
 refine wp_ret (bkR (thR ?_))
 have h1 := InRows.of_own (pcR (base := w.heap.size) (e := 99) (size := 7) (v := .slice (p6 8).a l.length (p6 8).c) (n := l.length) (xs := l.flatMap Rep.cells) hS 21)
 have h2 := InRows.of_own (pcR (base := w.heap.size) (e := 5) (size := 1) (v := .slice (p6 13).a e.length (p6 13).c) (n := e.length) (xs := u8s e) hS 22)
 exact retc hE hS Tryz.results78 102 (p1 0).g 56 ({ pNul with kind := 2, sender := s, reports := ⟨(p6 8).a, (p6 8).c, l⟩, ext := ⟨(p6 13).a, (p6 13).c, e⟩ } : Pkt).cells ⟨({ pNul with kind := 2, sender := s, reports := ⟨(p6 8).a, (p6 8).c, l⟩, ext := ⟨(p6 13).a, (p6 13).c, e⟩ } : Pkt), rfl, hS.below, ⟨⟨h1, .nil, (fun x hx => by cases hx), .nil, .nil, .nil, .nil, (fun x hx => by cases hx), .nil, .nil⟩, .nil, (fun x hx => by cases hx), (by rw [u8c_flat]; exact h2), .nil⟩, ⟨_, _, _, _, rfl⟩⟩ Tryz.underlying56

theorem pl_5 (sub s : Int) (tx : ByteArray) (A2 : Option Addr) (c2 : Nat) (e : List Int) (g : Nat) (w : World) (hb : Blk w g 170 #[.int .u8 sub, .int .u32 s, .string tx, .slice A2 e.length c2]) (he : Reads w w.heap.size 1 A2 e.length (u8s e)) (hel : e.length ≤ 1048576) :
  Calls Tryz.prog 78 #[.iface 168 (.pointer (some ⟨g, 0, none⟩))] w (PlainOut w (fun q => ∃ B2 c2, q = { pNul with kind := 5, sender := s, text := tx, sub := sub, data := ⟨B2, c2, e⟩ })) := by
 refine go_in Tryz.func78 rfl Tryz.ntmps78 [.iface 168 (pt g 0)] fun a hE => ?_
 have hS := stp_in w
 have hS := stp_oldB hS 101 hb
 refine rg hE hS [nw 102] (fun p1 => kp [(2, pt (p1 0).g 0)]) (fun p1 => kP [(102, some (.blk (p1 0).g 56 zP))]) fun p1 a u hE hS => ?_
 refine wp_seq ?_
 refine rg hE hS [pu] (fun _ => kp [(26, .iface 168 (pt g 0))]) kP0 fun _ a u hE hS => wp_block ?_
 refine rg hE hS [pu, pu, pu] (fun _ => kp [(28, .bool false), (29, .pointer none)]) kP0 fun _ a u hE hS => iff hE ?_
 refine rg hE hS [pu, pu, pu] (fun _ => kp [(62, .bool false), (63, .pointer none)]) kP0 fun _ a u hE hS => iff hE ?_
 refine rg hE hS [pu, pu, pu] (fun _ => kp [(80, .bool false), (81, .pointer none)]) kP0 fun _ a u hE hS => iff hE ?_
 refine rg hE hS [pu, pu, pu] (fun _ => kp [(86, .bool false), (87, .pointer none)]) kP0 fun _ a u hE hS => iff hE ?_
 refine rg hE hS [pu, pu, pu] (fun _ => kp [(99, .bool true), (100, pt g 0)]) kP0 fun _ a u hE hS => ift hE ?_
 refine rg hE hS [pu] (fun _ => kp [(7, pt g 0)]) kP0 fun _ a u hE hS => ?_
 refine dgp hE hS [pu, pu, pu, lo 101 0, pu, pu, pu, lo 101 1, pu, pu, pu, lo 101 2, pu, pu, pu, lo 101 3, cu 45 [] [22] (fun y => .slice y.a e.length y.c) (fun y => [some (.row w.heap.size 5 1 (.slice y.a e.length y.c) e.length (u8s e))]), pu, st 102] kp0 (fun p9 => kP [(22, some (.row w.heap.size 5 1 (.slice (p9 16).a e.length (p9 16).c) e.length (u8s e))), (102, some (.blk (p1 0).g 56 #[.int .i64 5, .int .u32 s, .int .u32 0, .int .u64 0, .int .u32 0, .int .u32 0, .int .u32 0, .slice none 0 0, .slice none 0 0, .slice none 0 0, .slice none 0 0, .string tx, .int .u8 sub, .slice (p9 16).a e.length (p9 16).c, .slice none 0 0, .slice none 0 0, .slice none 0 0, .int .u32 0, .slice none 0 0, .int .u32 0, .int .u16 0, .int .u16 0, .int .u32 0, .int .u8 0, .slice none 0 0, .slice none 0 0, .bool false, .int .u8 0, .int .u8 0, .int .u16 0]))]) (fun _ => ⟨kr (cu_rowP (P := Tryz.prog) (w0 := w) (ps := [none]) 45 #[.slice A2 e.length c2] 22 5 1 e.length (u8s e) (fun w4 hB hz => clone8 w4.heap.size A2 e.length c2 (u8s e) w4 ((Reads.below he hB).more hz) (u8s_one _) (Nat.le_refl _) (by omega))), trivial⟩) fun p9 a u hE hS => ?_
 refine wp_ret (bkR (thR ?_))
 have h2 := InRows.of_own (pcR (base := w.heap.size) (e := 5) (size := 1) (v := .slice (p9 16).a e.length (p9 16).c) (n := e.length) (xs := u8s e) hS 22)
 exact retc hE hS Tryz.results78 102 (p1 0).g 56 ({ pNul with kind := 5, sender := s, text := tx, sub := sub, data := ⟨(p9 16).a, (p9 16).c, e⟩ } : Pkt).cells ⟨({ pNul with kind := 5, sender := s, text := tx, sub := sub, data := ⟨(p9 16).a, (p9 16).c, e⟩ } : Pkt), rfl, hS.below, ⟨⟨.nil, .nil, (fun x hx => by cases hx), .nil, .nil, .nil, .nil, (fun x hx => by cases hx), .nil, .nil⟩, .nil, (fun x hx => by cases hx), .nil, (by rw [u8c_flat]; exact h2)⟩, ⟨_, _, rfl⟩⟩ Tryz.underlying56

theorem pl_4 (tx : ByteArray) (A : Option Addr) (c : Nat) (l : List Int) (g : Nat) (w : World) (hb : Blk w g 167 #[.slice A (l.length : Nat) c, .string tx]) (hr : Reads w w.heap.size 1 A l.length (l.flatMap u32c)) (hl : l.length ≤ 1048576) :
  Calls Tryz.prog 78 #[.iface 87 (.pointer (some ⟨g, 0, none⟩))] w (PlainOut w (fun q => ∃ B c, q = { pNul with kind := 4, sources := ⟨B, c, l⟩, text := tx })) := by
 refine go_in Tryz.func78 rfl Tryz.ntmps78 [.iface 87 (pt g 0)] fun a hE => ?_
 have hS := stp_in w
 have hS := stp_oldB hS 101 hb
 refine rg hE hS [nw 102] (fun p1 => kp [(2, pt (p1 0).g 0)]) (fun p1 => kP [(102, some (.blk (p1 0).g 56 zP))]) fun p1 a u hE hS => ?_
 refine wp_seq ?_
 refine rg hE hS [pu] (fun _ => kp [(26, .iface 87 (pt g 0))]) kP0 fun _ a u hE hS => wp_block ?_
 refine rg hE hS [pu, pu, pu] (fun _ => kp [(28, .bool false), (29, .pointer none)]) kP0 fun _ a u hE hS => iff hE ?_
 refine rg hE hS [pu, pu, pu] (fun _ => kp [(62, .bool false), (63, .pointer none)]) kP0 fun _ a u hE hS => iff hE ?_
 refine rg hE hS [pu, pu, pu] (fun _ => kp [(80, .bool false), (81, .pointer none)]) kP0 fun _ a u hE hS => iff hE ?_
 refine rg hE hS [pu, pu, pu] (fun _ => kp [(86, .bool true), (87, pt g 0)]) kP0 fun _ a u hE hS => ift hE ?_
 refine rg hE hS [pu] (fun _ => kp [(6, pt g 0)]) kP0 fun _ a u hE hS => ?_
 refine dgp hE hS [pu, pu, pu, lo 101 0, cu 50 [] [21] (fun y => .slice y.a l.length y.c) (fun y => [some (.row w.heap.size 22 1 (.slice y.a l.length y.c) l.length (l.flatMap u32c))]), pu, pu, pu, lo 101 1, pu, st 102] kp0 (fun p8 => kP [(21, some (.row w.heap.size 22 1 (.slice (p8 4).a l.length (p8 4).c) l.length (l.flatMap u32c))), (102, some (.blk (p1 0).g 56 #[.int .i64 4, .int .u32 0, .int .u32 0, .int .u64 0, .int .u32 0, .int .u32 0, .int .u32 0, .slice none 0 0, .slice none 0 0, .slice none 0 0, .slice (p8 4).a l.length (p8 4).c, .string tx, .int .u8 0, .slice none 0 0, .slice none 0 0, .slice none 0 0, .slice none 0 0, .int .u32 0, .slice none 0 0, .int .u32 0, .int .u16 0, .int .u16 0, .int .u32 0, .int .u8 0, .slice none 0 0, .slice none 0 0, .bool false, .int .u8 0, .int .u8 0, .int .u16 0]))]) (fun _ => ⟨kr (cu_rowP (P := Tryz.prog) (w0 := w) (ps := [none]) 50 #[.slice A (l.length : Nat) c] 21 22 1 l.length (l.flatMap u32c) (fun w4 hB hz => clone32 w4.heap.size A l.length c (l.flatMap u32c) w4 ((Reads.below hr hB).more hz) (u32c_oneP _) (Nat.le_refl _) (by omega))), trivial⟩) fun p8 a u hE hS => ?_
 refine wp_ret (bkR (thR ?_))
 have h2 := InRows.of_own (pcR (base := w.heap.size) (e := 22) (size := 1) (v := .slice (p8 4).a l.length (p8 4).c) (n := l.length) (xs := l.flatMap u32c) hS 21)
 exact retc hE hS Tryz.results78 102 (p1 0).g 56 ({ pNul with kind := 4, sources := ⟨(p8 4).a, (p8 4).c, l⟩, text := tx } : Pkt).cells ⟨({ pNul with kind := 4, sources := ⟨(p8 4).a, (p8 4).c, l⟩, text := tx } : Pkt), rfl, hS.below, ⟨⟨.nil, .nil, (fun x hx => by cases hx), .nil, .nil, .nil, .nil, (fun x hx => by cases hx), .nil, .nil⟩, h2, (fun x hx => by cases hx), .nil, .nil⟩, ⟨_, _, rfl⟩⟩ Tryz.underlying56

end Go.Proofs.YtmmfpgoodfgkbaaGreatDoor
