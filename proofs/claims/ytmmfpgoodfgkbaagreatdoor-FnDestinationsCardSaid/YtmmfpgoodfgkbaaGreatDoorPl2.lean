/-
  THE WALKS of the thin package's plain form of bitrates, descriptions and congestion feedback. Condition: the packet's block and its rows lie in memory.
-/
import Derived.Test.YtmmfpgoodfgkbaaGreatDoorPl
import Derived.Test.YtmmfpgoodfgkbaaGreatDoorGivenA
import Derived.Test.YtmmfpgoodfgkbaaGreatDoorUmP
import Derived.Test.YtmmfpgoodfgkbaaGreatDoorMDesc
namespace Go.Proofs.YtmmfpgoodfgkbaaGreatDoor
open Go Go.RowKit
set_option maxHeartbeats 4000000
set_option maxRecDepth 100000
set_option linter.unusedVariables false
set_option linter.unusedSimpArgs false

theorem pl_12 (s : Int) (f : Nat) (A : Option Addr) (c : Nat) (l : List Int) (g : Nat) (w : World) (hb : Blk w g 196 #[.int .u32 s, .float .f32 f, .slice A (l.length : Nat) c]) (hr : Reads w w.heap.size 1 A l.length (l.flatMap u32c)) (hl : l.length ≤ 1048576) :
  Calls Tryz.prog 78 #[.iface 94 (.pointer (some ⟨g, 0, none⟩))] w (PlainOut w (fun q => ∃ B c, q = { pNul with kind := 12, sender := s, bits := (f : Nat), sources := ⟨B, c, l⟩ })) := by
 refine go_in Tryz.func78 rfl Tryz.ntmps78 [.iface 94 (pt g 0)] fun a hE => ?_
 have hS := stp_in w
 have hS := stp_oldB hS 101 hb
 refine rg hE hS [nw 102] (fun p1 => kp [(2, pt (p1 0).g 0)]) (fun p1 => kP [(102, some (.blk (p1 0).g 56 zP))]) fun p1 a u hE hS => ?_
 refine wp_seq ?_
 refine rg hE hS [pu] (fun _ => kp [(26, .iface 94 (pt g 0))]) kP0 fun _ a u hE hS => wp_block ?_
 refine rg hE hS [pu, pu, pu] (fun _ => kp [(28, .bool false), (29, .pointer none)]) kP0 fun _ a u hE hS => iff hE ?_
 refine rg hE hS [pu, pu, pu] (fun _ => kp [(62, .bool false), (63, .pointer none)]) kP0 fun _ a u hE hS => iff hE ?_
 refine rg hE hS [pu, pu, pu] (fun _ => kp [(80, .bool false), (81, .pointer none)]) kP0 fun _ a u hE hS => iff hE ?_
 refine rg hE hS [pu, pu, pu] (fun _ => kp [(86, .bool false), (87, .pointer none)]) kP0 fun _ a u hE hS => iff hE ?_
 refine rg hE hS [pu, pu, pu] (fun _ => kp [(99, .bool false), (100, .pointer none)]) kP0 fun _ a u hE hS => iff hE ?_
 refine rg hE hS [pu, pu, pu] (fun _ => kp [(120, .bool false), (121, .pointer none)]) kP0 fun _ a u hE hS => iff hE ?_
 refine rg hE hS [pu, pu, pu] (fun _ => kp [(153, .bool false), (154, .pointer none)]) kP0 fun _ a u hE hS => iff hE ?_
 refine rg hE hS [pu, pu, pu] (fun _ => kp [(165, .bool false), (166, .pointer none)]) kP0 fun _ a u hE hS => iff hE ?_
 refine rg hE hS [pu, pu, pu] (fun _ => kp [(182, .bool false), (183, .pointer none)]) kP0 fun _ a u hE hS => iff hE ?_
 refine rg hE hS [pu, pu, pu] (fun _ => kp [(194, .bool false), (195, .pointer none)]) kP0 fun _ a u hE hS => iff hE ?_
 refine rg hE hS [pu, pu, pu] (fun _ => kp [(229, .bool false), (230, .pointer none)]) kP0 fun _ a u hE hS => iff hE ?_
 refine rg hE hS [pu, pu, pu] (fun _ => kp [(262, .bool true), (263, pt g 0)]) kP0 fun _ a u hE hS => ift hE ?_
 refine rg hE hS [pu] (fun _ => kp [(23, pt g 0)]) kP0 fun _ a u hE hS => ?_
 refine dgp hE hS [pu, pu, pu, lo 101 0, pu, pu, pu, lo 101 1, pu, pu, pu, pu, lo 101 2, cu 50 [] [21] (fun y => .slice y.a l.length y.c) (fun y => [some (.row w.heap.size 22 1 (.slice y.a l.length y.c) l.length (l.flatMap u32c))]), pu, st 102] kp0 (fun p16 => kP [(21, some (.row w.heap.size 22 1 (.slice (p16 13).a l.length (p16 13).c) l.length (l.flatMap u32c))), (102, some (.blk (p1 0).g 56 #[.int .i64 12, .int .u32 s, .int .u32 0, .int .u64 0, .int .u32 0, .int .u32 0, .int .u32 0, .slice none 0 0, .slice none 0 0, .slice none 0 0, .slice (p16 13).a l.length (p16 13).c, .string ByteArray.empty, .int .u8 0, .slice none 0 0, .slice none 0 0, .slice none 0 0, .slice none 0 0, .int .u32 (f : Nat), .slice none 0 0, .int .u32 0, .int .u16 0, .int .u16 0, .int .u32 0, .int .u8 0, .slice none 0 0, .slice none 0 0, .bool false, .int .u8 0, .int .u8 0, .int .u16 0]))]) (fun _ => ⟨kr (cu_rowP (P := Tryz.prog) (w0 := w) (ps := [none]) 50 #[.slice A (l.length : Nat) c] 21 22 1 l.length (l.flatMap u32c) (fun w4 hB hz => clone32 w4.heap.size A l.length c (l.flatMap u32c) w4 ((Reads.below hr hB).more hz) (u32c_oneP _) (Nat.le_refl _) (by omega))), trivial⟩) fun p16 a u hE hS => ?_
 refine wp_ret (bkR (thR ?_))
 have h2 := InRows.of_own (pcR (base := w.heap.size) (e := 22) (size := 1) (v := .slice (p16 13).a l.length (p16 13).c) (n := l.length) (xs := l.flatMap u32c) hS 21)
 exact retc hE hS Tryz.results78 102 (p1 0).g 56 ({ pNul with kind := 12, sender := s, bits := (f : Nat), sources := ⟨(p16 13).a, (p16 13).c, l⟩ } : Pkt).cells ⟨({ pNul with kind := 12, sender := s, bits := (f : Nat), sources := ⟨(p16 13).a, (p16 13).c, l⟩ } : Pkt), rfl, hS.below, ⟨⟨.nil, .nil, (fun x hx => by cases hx), .nil, .nil, .nil, .nil, (fun x hx => by cases hx), .nil, .nil⟩, h2, (fun x hx => by cases hx), .nil, .nil⟩, ⟨_, _, rfl⟩⟩ Tryz.underlying56

theorem chs_any (A : Option Addr) (c : Nat) (l : List Chunk) (g : Nat) (w : World) (hb : Blk w g 202 #[.slice A (l.length : Nat) c]) (hr : Reads w w.heap.size 2 A l.length (l.flatMap Chunk.cells)) (hi : ∀ x ∈ l, Reads w w.heap.size 2 x.items.A x.items.l.length (x.items.l.flatMap Item.cells)) (hl : l.length ≤ 1048576) (hil : ∀ x ∈ l, x.items.l.length ≤ 1048576) :
  Calls Tryz.prog 106 #[.pointer (some ⟨g, 0, none⟩)] w fun e w' => ∃ (A2 : Option Addr) (c2 : Nat) (l2 : List Chunk), e = .returned (.slice A2 (l2.length : Nat) c2) ∧ l2.length = l.length ∧ InRows w' w.heap.size w'.heap.size 2 A2 l2.length (l2.flatMap Chunk.cells) ∧ (∀ x ∈ l2, InRows w' w.heap.size w'.heap.size 2 x.items.A x.items.l.length (x.items.l.flatMap Item.cells)) ∧ l2.map Chunk.cln = l.map Chunk.cln ∧ Below w.heap.size w w' := by
 refine go_in Tryz.func106 rfl Tryz.ntmps106 [pt g 0] fun a hE => ?_
 have hS := stp_in w
 have hS := stp_oldB hS 101 hb
 refine rg hE hS [pu] (fun _ => kp [(2, .slice none 0 0)]) kP0 fun _ a u hE hS => ?_
 refine rg hE hS [pu] (fun _ => kp [(3, .slice none 0 0)]) kP0 fun _ a u hE hS => ?_
 refine wp_seq ?_
 refine rg hE hS [pu, pu, pu, lo 101 0, pu, pu] (fun _ => kn [(12, .slice A (l.length : Nat) c), (13, .int .i64 (l.length : Nat)), (14, .int .i64 0)] [2, 3]) (fun _ => kN [] [101]) fun _ a u hE hS => ?_
 have hS := stp_row0 hS 1 w.heap.size 105 2
 have hS := stp_items0 hS 4 w.heap.size
 refine range_up hE hS 14 l.length (fun k x => kd [14, 15, 43] [(3, .slice x.p.a x.n x.p.c)]) (fun k x => kP [(1, some (.row w.heap.size 105 2 (.slice x.p.a x.n x.p.c) x.n x.xs)), (4, some (ckItems w.heap.size x.y))]) (fun k (x : Lx (List Chunk)) => x.n = k ∧ x.xs = x.y.flatMap Chunk.cells ∧ x.y.map Chunk.cln = (l.take k).map Chunk.cln ∧ x.y.length = k) ⟨⟨0, 0, undef, none⟩, 0, [], []⟩ (by omega) ⟨rfl, rfl, rfl, rfl⟩ (fun k x a u hk hI hE hS K hK R hR => ?_) fun ⟨qq, m, xs, ll⟩ a u hI hE hS => ?_
 ·obtain ⟨hn, hx, hm, hll⟩ := hI
  have hS := stp_el hS 90 (el_at hr (fun _ _ => rfl) rfl (fun g hg => ⟨hg, id⟩) k hk (by omega))
  have hit := hi l[k] (List.getElem_mem _)
  have hin := hil l[k] (List.getElem_mem _)
  generalize hrk : l[k] = r at hS hit hin
  refine rgp hE hS [ie 90, le 90 0, nw 91, st 91] (fun p4 => kp [(5, pt (p4 2).g 0)]) (fun p4 => kP [(91, some (.blk (p4 2).g 224 (Chunk.cells r).toArray))]) (fun _ => ⟨kr (show k < l.length from hk), trivial⟩) fun p4 a u hE hS => ?_
  refine rg hE hS [pu, ld 91, pu, nw 93, st 93] (fun p5 => kp [(6, pt (p5 3).g 0)]) (fun p5 => kP [(93, some (.blk (p5 3).g 105 #[.int .u32 r.src, .slice none 0 0]))]) fun p5 a u hE hS => ?_
  refine wp_seq ?_
  refine rg hE hS [pu, ld 91, pu, pu] (fun _ => kp [(22, .slice r.items.A (r.items.l.length : Nat) r.items.c), (23, .int .i64 (r.items.l.length : Nat)), (24, .int .i64 0)]) kP0 fun _ a u hE hS => ?_
  have hS := stp_row0 hS 94 w.heap.size 108 2
  refine range_up hE hS 24 r.items.l.length (fun _ _ => kd [24, 25, 38] []) (fun j y => kP [(93, some (.blk (p5 3).g 105 #[.int .u32 r.src, .slice y.p.a y.n y.p.c])), (94, some (.row w.heap.size 108 2 (.slice y.p.a y.n y.p.c) y.n y.xs))]) (fun j (y : Lx Unit) => y.n = j ∧ y.xs = (r.items.l.take j).flatMap Item.cells) ⟨⟨0, 0, undef, none⟩, 0, [], ()⟩ (by omega) ⟨rfl, rfl⟩ (fun j y a u hj hI hE hS K2 hK2 R2 hR2 => ?_) fun ⟨qi, m, xs, _⟩ a u hI hE hS => ?_
  ·obtain ⟨hn2, hx2⟩ := hI
   have hS := stp_el hS 96 (el_at hit (fun _ _ => rfl) rfl (fun g hg => ⟨hg, id⟩) j hj (by omega))
   generalize hr2 : r.items.l[j] = q at hS
   refine rgp hE hS [ie 96, le 96 0, nw 97, st 97] (fun p7 => kp [(8, pt (p7 2).g 0)]) (fun p7 => kP [(97, some (.blk (p7 2).g 227 (Item.cells q).toArray))]) (fun _ => ⟨kr (show j < r.items.l.length from hj), trivial⟩) fun p7 a u hE hS => ?_
   refine rgE hE hS [pu, ld 93, pu, ld 97, pu, ld 97, pu, nw 98, ap 94 [98], pu, st 93] kp0 (fun p8 => kP [(94, some (.row w.heap.size 108 2 (.slice (p8 8).a (y.n + 1) (p8 8).c) (y.n + 1) (y.xs ++ Item.cells q))), (93, some (.blk (p5 3).g 105 #[.int .u32 r.src, .slice (p8 8).a (y.n + 1) (p8 8).c]))]) (fun _ => ⟨kr (show w.heap.size ≤ w.heap.size ∧ (y.n + 1) * 24 ≤ 140737488355328 ∧ ∀ u ∈ Item.cells q, u.oneCell' = true from ⟨Nat.le_refl _, by omega, by simp [Item.cells, Value.oneCell']⟩), trivial⟩) fun p8 a u hE hS => ?_
   exact hK2 ⟨(p8 8), y.n + 1, y.xs ++ Item.cells q, ()⟩ a u _ _ ⟨congrArg (· + 1) hn2, by rw [hx2, flat_take_succ _ _ _ hj, hr2]⟩ hE hS (by kernel_rfl)
  simp only [List.take_length] at hI
  obtain ⟨h1, h2⟩ := hI
  subst h1 h2
  refine rgE hE hS [pu, ld 93, nw 99, ap 1 [99], pu] (fun p9 => kn [(3, .slice (p9 3).a (x.n + 1) (p9 3).c)] [2, 12, 13, 14]) (fun p9 => kN [(1, some (.row w.heap.size 105 2 (.slice (p9 3).a (x.n + 1) (p9 3).c) (x.n + 1) (x.xs ++ Chunk.cells ({ r with items := ⟨qi.a, qi.c, r.items.l⟩ } : Chunk))))] [94, 90, 4, 101]) (fun _ => ⟨kr (show w.heap.size ≤ w.heap.size ∧ (x.n + 1) * 32 ≤ 140737488355328 ∧ ∀ u ∈ Chunk.cells ({ r with items := ⟨qi.a, qi.c, r.items.l⟩ } : Chunk), u.oneCell' = true from ⟨Nat.le_refl _, by omega, by simp [Chunk.cells, Sl.val, Value.oneCell']⟩), trivial⟩) fun p9 a u hE hS => ?_
  have hS := stp_items (B := w.heap.size) (l := x.y) hS 4 94 ({ r with items := ⟨qi.a, qi.c, r.items.l⟩ } : Chunk) (by decide)
  exact hK ⟨(p9 3), x.n + 1, x.xs ++ Chunk.cells ({ r with items := ⟨qi.a, qi.c, r.items.l⟩ } : Chunk), x.y ++ [({ r with items := ⟨qi.a, qi.c, r.items.l⟩ } : Chunk)]⟩ a u _ _ ⟨congrArg (· + 1) hn, by simp [hx], by rw [List.map_append, hm, List.take_succ_eq_append_getElem hk, List.map_append, hrk]; rfl, by simp [hll]⟩ hE hS (by kernel_rfl)
 simp only [List.take_length] at hI
 obtain ⟨h1, h2, hm, h4⟩ := hI
 rw [← h4] at h1
 subst h1 h2
 refine rg hE hS [pu, pu] (fun _ => kp [(2, .slice qq.a ll.length qq.c)]) kP0 fun _ a u hE hS => ?_
 refine wp_ret ?_
 exact ret1 hE Tryz.results106 (.slice qq.a ll.length qq.c) ⟨qq.a, qq.c, ll, rfl, h4, InRows.of_own (c := qq.c) (pcR (base := w.heap.size) (e := 105) hS 1), fun x hx => InRows.of_own (own_items (B := w.heap.size) (l := ll) hS 4 x hx), hm, hS.below⟩

theorem bks_any (A : Option Addr) (c : Nat) (l : List Blo) (g : Nat) (w : World) (hr : Reads w w.heap.size 3 A l.length (l.flatMap Blo.cells)) (hi : ∀ x ∈ l, Reads w w.heap.size 3 x.mets.A x.mets.l.length (x.mets.l.flatMap Met.cells)) (hl : l.length ≤ 1048576) (hil : ∀ x ∈ l, x.mets.l.length ≤ 1048576) :
  Calls Tryz.prog 107 #[.slice A (l.length : Nat) c] w fun e w' => ∃ (A2 : Option Addr) (c2 : Nat) (l2 : List Blo), e = .returned (.slice A2 (l2.length : Nat) c2) ∧ l2.length = l.length ∧ InRows w' w.heap.size w'.heap.size 3 A2 l2.length (l2.flatMap Blo.cells) ∧ (∀ x ∈ l2, InRows w' w.heap.size w'.heap.size 3 x.mets.A x.mets.l.length (x.mets.l.flatMap Met.cells)) ∧ l2.map Blo.cln = l.map Blo.cln ∧ Below w.heap.size w w' := by
 refine go_in Tryz.func107 rfl Tryz.ntmps107 [.slice A (l.length : Nat) c] fun a hE => ?_
 have hS := stp_in w
 refine rg hE hS [pu] (fun _ => kp [(2, .slice none 0 0)]) kP0 fun _ a u hE hS => ?_
 refine rg hE hS [pu] (fun _ => kp [(3, .slice none 0 0)]) kP0 fun _ a u hE hS => ?_
 refine wp_seq ?_
 refine rg hE hS [pu, pu, pu] (fun _ => kn [(9, .slice A (l.length : Nat) c), (10, .int .i64 (l.length : Nat)), (11, .int .i64 0)] [2, 3]) (fun _ => kN [] []) fun _ a u hE hS => ?_
 have hS := stp_row0 hS 1 w.heap.size 123 3
 have hS := stp_mets0 hS 4 w.heap.size
 refine range_up hE hS 11 l.length (fun k x => kd [11, 12, 44] [(3, .slice x.p.a x.n x.p.c)]) (fun k x => kP [(1, some (.row w.heap.size 123 3 (.slice x.p.a x.n x.p.c) x.n x.xs)), (4, some (ckMets w.heap.size x.y))]) (fun k (x : Lx (List Blo)) => x.n = k ∧ x.xs = x.y.flatMap Blo.cells ∧ x.y.map Blo.cln = (l.take k).map Blo.cln ∧ x.y.length = k) ⟨⟨0, 0, undef, none⟩, 0, [], []⟩ (by omega) ⟨rfl, rfl, rfl, rfl⟩ (fun k x a u hk hI hE hS K hK R hR => ?_) fun ⟨qq, m, xs, ll⟩ a u hI hE hS => ?_
 ·obtain ⟨hn, hx, hm, hll⟩ := hI
  have hS := stp_el hS 90 (el_at hr (fun _ _ => rfl) rfl (fun g hg => ⟨hg, id⟩) k hk (by omega))
  have hit := hi l[k] (List.getElem_mem _)
  have hin := hil l[k] (List.getElem_mem _)
  generalize hrk : l[k] = r at hS hit hin
  refine rgp hE hS [ie 90, le 90 0, nw 91, st 91] (fun p4 => kp [(5, pt (p4 2).g 0)]) (fun p4 => kP [(91, some (.blk (p4 2).g 230 (Blo.cells r).toArray))]) (fun _ => ⟨kr (show k < l.length from hk), trivial⟩) fun p4 a u hE hS => ?_
  refine rg hE hS [pu, ld 91, pu, ld 91, pu, nw 93, st 93] (fun p5 => kp [(6, pt (p5 5).g 0)]) (fun p5 => kP [(93, some (.blk (p5 5).g 123 #[.int .u32 r.media, .int .u16 r.first, .slice none 0 0]))]) fun p5 a u hE hS => ?_
  refine wp_seq ?_
  refine rg hE hS [pu, ld 91, pu, pu] (fun _ => kp [(21, .slice r.mets.A (r.mets.l.length : Nat) r.mets.c), (22, .int .i64 (r.mets.l.length : Nat)), (23, .int .i64 0)]) kP0 fun _ a u hE hS => ?_
  have hS := stp_row0 hS 94 w.heap.size 126 3
  refine range_up hE hS 23 r.mets.l.length (fun _ _ => kd [23, 24, 39] []) (fun j y => kP [(93, some (.blk (p5 5).g 123 #[.int .u32 r.media, .int .u16 r.first, .slice y.p.a y.n y.p.c])), (94, some (.row w.heap.size 126 3 (.slice y.p.a y.n y.p.c) y.n y.xs))]) (fun j (y : Lx Unit) => y.n = j ∧ y.xs = (r.mets.l.take j).flatMap Met.cells) ⟨⟨0, 0, undef, none⟩, 0, [], ()⟩ (by omega) ⟨rfl, rfl⟩ (fun j y a u hj hI hE hS K2 hK2 R2 hR2 => ?_) fun ⟨qi, m, xs, _⟩ a u hI hE hS => ?_
  ·obtain ⟨hn2, hx2⟩ := hI
   have hS := stp_el hS 96 (el_at hit (fun _ _ => rfl) rfl (fun g hg => ⟨hg, id⟩) j hj (by omega))
   generalize hr2 : r.mets.l[j] = q at hS
   refine rgp hE hS [ie 96, le 96 0, nw 97, st 97] (fun p7 => kp [(8, pt (p7 2).g 0)]) (fun p7 => kP [(97, some (.blk (p7 2).g 233 (Met.cells q).toArray))]) (fun _ => ⟨kr (show j < r.mets.l.length from hj), trivial⟩) fun p7 a u hE hS => ?_
   refine rgE hE hS [pu, ld 93, pu, ld 97, pu, ld 97, pu, ld 97, pu, nw 98, ap 94 [98], pu, st 93] kp0 (fun p8 => kP [(94, some (.row w.heap.size 126 3 (.slice (p8 10).a (y.n + 1) (p8 10).c) (y.n + 1) (y.xs ++ Met.cells q))), (93, some (.blk (p5 5).g 123 #[.int .u32 r.media, .int .u16 r.first, .slice (p8 10).a (y.n + 1) (p8 10).c]))]) (fun _ => ⟨kr (show w.heap.size ≤ w.heap.size ∧ (y.n + 1) * 4 ≤ 140737488355328 ∧ ∀ u ∈ Met.cells q, u.oneCell' = true from ⟨Nat.le_refl _, by omega, by simp [Met.cells, Value.oneCell']⟩), trivial⟩) fun p8 a u hE hS => ?_
   exact hK2 ⟨(p8 10), y.n + 1, y.xs ++ Met.cells q, ()⟩ a u _ _ ⟨congrArg (· + 1) hn2, by rw [hx2, flat_take_succ _ _ _ hj, hr2]⟩ hE hS (by kernel_rfl)
  simp only [List.take_length] at hI
  obtain ⟨h1, h2⟩ := hI
  subst h1 h2
  refine rgE hE hS [pu, ld 93, nw 99, ap 1 [99], pu] (fun p9 => kn [(3, .slice (p9 3).a (x.n + 1) (p9 3).c)] [2, 9, 10, 11]) (fun p9 => kN [(1, some (.row w.heap.size 123 3 (.slice (p9 3).a (x.n + 1) (p9 3).c) (x.n + 1) (x.xs ++ Blo.cells ({ r with mets := ⟨qi.a, qi.c, r.mets.l⟩ } : Blo))))] [94, 90, 4]) (fun _ => ⟨kr (show w.heap.size ≤ w.heap.size ∧ (x.n + 1) * 32 ≤ 140737488355328 ∧ ∀ u ∈ Blo.cells ({ r with mets := ⟨qi.a, qi.c, r.mets.l⟩ } : Blo), u.oneCell' = true from ⟨Nat.le_refl _, by omega, by simp [Blo.cells, Sl.val, Value.oneCell']⟩), trivial⟩) fun p9 a u hE hS => ?_
  have hS := stp_mets (B := w.heap.size) (l := x.y) hS 4 94 ({ r with mets := ⟨qi.a, qi.c, r.mets.l⟩ } : Blo) (by decide)
  exact hK ⟨(p9 3), x.n + 1, x.xs ++ Blo.cells ({ r with mets := ⟨qi.a, qi.c, r.mets.l⟩ } : Blo), x.y ++ [({ r with mets := ⟨qi.a, qi.c, r.mets.l⟩ } : Blo)]⟩ a u _ _ ⟨congrArg (· + 1) hn, by simp [hx], by rw [List.map_append, hm, List.take_succ_eq_append_getElem hk, List.map_append, hrk]; rfl, by simp [hll]⟩ hE hS (by kernel_rfl)
 simp only [List.take_length] at hI
 obtain ⟨h1, h2, hm, h4⟩ := hI
 rw [← h4] at h1
 subst h1 h2
 refine rg hE hS [pu, pu] (fun _ => kp [(2, .slice qq.a ll.length qq.c)]) kP0 fun _ a u hE hS => ?_
 refine wp_ret ?_
 exact ret1 hE Tryz.results107 (.slice qq.a ll.length qq.c) ⟨qq.a, qq.c, ll, rfl, h4, InRows.of_own (c := qq.c) (pcR (base := w.heap.size) (e := 123) hS 1), fun x hx => InRows.of_own (own_mets (B := w.heap.size) (l := ll) hS 4 x hx), hm, hS.below⟩

def nQ (x : Pay) : Pkt := dP (gV x.v 0)
def nE (x : Pay) : Nat := (intOf (gV x.v 1)).toNat
def ckNe (Pq : Option Addr → Nat → Pkt → Prop) (x : Pay) : Ck := ⟨fun y => x.g ≤ y ∧ y < nE x, fun w => (nQ x).NewX w x.g (nE x) ∧ Pq x.a x.c (nQ x), fun w w' hk h => ⟨h.1.st hk, h.2⟩⟩
abbrev cNe (Pq : Option Addr → Nat → Pkt → Prop) (x : Pay) : Pc := .ck (ckNe Pq x)
theorem cu_nestP {w0 : World} {ps : List (Option Pc)} (f : FuncId) (args : Array Value) (k : Nat) (N : Pkt → Nat) (Pq : Option Addr → Nat → Pkt → Prop)
  (h : ∀ w, Below w0.heap.size w0 w → w0.heap.size ≤ w.heap.size → Calls Tryz.prog f args w fun e w' => ∃ A c q, e = .returned (.slice A (N q) c) ∧ q.NewX w' w.heap.size w'.heap.size ∧ Pq A c q ∧ Below w.heap.size w w')
  (L : PL) (w : World) (_ : ps = ([] ++ [k]).map (lookP L)) (hS : Stp (fun _ => False) w0 w (restr ([] ++ [k]) (lookM (den (fun _ => False) w0 L)))) :
  Calls Tryz.prog f args w fun e w' => ∃ x : Pay, e = .returned (.slice x.a (N (nQ x)) x.c) ∧ Stp (blksOf (lookM (den (fun _ => False) w0 L)) [k]) w w' (lookM (den (fun _ => False) w0 (zipW [k] [some (cNe Pq x)]))) := by
 refine (h w hS.below hS.size).mono ?_
 rintro e w' ⟨A, c, q, rfl, hN, hP, hB⟩
 refine ⟨⟨w.heap.size, c, .agg #[vP q, .int .i64 (w'.heap.size : Nat)], A⟩, ?_, ?_⟩
 ·show Ending.returned (Value.slice A (N q) c) = Ending.returned (Value.slice A (N (dP (vP q))) c)
  rw [dP_v]
 ·refine stp_make (c' := cNe Pq ⟨w.heap.size, c, .agg #[vP q, .int .i64 (w'.heap.size : Nat)], A⟩) hB ?_ fun y hy => ⟨hy.2, hy.1⟩
  show (dP (vP q)).NewX w' w.heap.size w'.heap.size ∧ Pq A c (dP (vP q))
  rw [dP_v]
  exact ⟨hN, hP⟩

theorem pl_3 (A : Option Addr) (c : Nat) (l : List Chunk) (g : Nat) (w : World) (hb : Blk w g 202 #[.slice A (l.length : Nat) c]) (hr : Reads w w.heap.size 2 A l.length (l.flatMap Chunk.cells)) (hi : ∀ x ∈ l, Reads w w.heap.size 2 x.items.A x.items.l.length (x.items.l.flatMap Item.cells)) (hl : l.length ≤ 1048576) (hil : ∀ x ∈ l, x.items.l.length ≤ 1048576) :
  Calls Tryz.prog 78 #[.iface 86 (.pointer (some ⟨g, 0, none⟩))] w (PlainOut w (fun q => ∃ (B : Option Addr) (c : Nat) (l2 : List Chunk), l2.map Chunk.cln = l.map Chunk.cln ∧ q = { pNul with kind := 3, chunks := ⟨B, c, l2⟩ })) := by
 refine go_in Tryz.func78 rfl Tryz.ntmps78 [.iface 86 (pt g 0)] fun a hE => ?_
 have hS := stp_in w
 have hS := stp_oldB hS 101 hb
 refine rg hE hS [nw 102] (fun p1 => kp [(2, pt (p1 0).g 0)]) (fun p1 => kP [(102, some (.blk (p1 0).g 56 zP))]) fun p1 a u hE hS => ?_
 refine wp_seq ?_
 refine rg hE hS [pu] (fun _ => kp [(26, .iface 86 (pt g 0))]) kP0 fun _ a u hE hS => wp_block ?_
 refine rg hE hS [pu, pu, pu] (fun _ => kp [(28, .bool false), (29, .pointer none)]) kP0 fun _ a u hE hS => iff hE ?_
 refine rg hE hS [pu, pu, pu] (fun _ => kp [(62, .bool false), (63, .pointer none)]) kP0 fun _ a u hE hS => iff hE ?_
 refine rg hE hS [pu, pu, pu] (fun _ => kp [(80, .bool true), (81, pt g 0)]) kP0 fun _ a u hE hS => ift hE ?_
 refine rg hE hS [pu] (fun _ => kp [(5, pt g 0)]) kP0 fun _ a u hE hS => ?_
 refine rgp hE hS [pu, cu 106 [] [21] (fun x => .slice x.a (nQ x).chunks.l.length x.c) (fun x => [some (cNe (fun A2 c2 q => q = { pNul with chunks := ⟨A2, c2, q.chunks.l⟩ } ∧ q.chunks.l.map Chunk.cln = l.map Chunk.cln) x)]), pu, st 102] kp0 (fun p7 => kP [(21, some (.ck (ckNe (fun A2 c2 q => q = { pNul with chunks := ⟨A2, c2, q.chunks.l⟩ } ∧ q.chunks.l.map Chunk.cln = l.map Chunk.cln) (p7 1)))), (102, some (.blk (p1 0).g 56 #[.int .i64 3, .int .u32 0, .int .u32 0, .int .u64 0, .int .u32 0, .int .u32 0, .int .u32 0, .slice none 0 0, .slice none 0 0, .slice (p7 1).a (nQ (p7 1)).chunks.l.length (p7 1).c, .slice none 0 0, .string ByteArray.empty, .int .u8 0, .slice none 0 0, .slice none 0 0, .slice none 0 0, .slice none 0 0, .int .u32 0, .slice none 0 0, .int .u32 0, .int .u16 0, .int .u16 0, .int .u32 0, .int .u8 0, .slice none 0 0, .slice none 0 0, .bool false, .int .u8 0, .int .u8 0, .int .u16 0]))]) (fun _ => ⟨kr (cu_nestP (w0 := w) (ps := [none]) 106 #[.pointer (some ⟨g, 0, none⟩)] 21 (fun q => q.chunks.l.length) (fun A2 c2 q => q = { pNul with chunks := ⟨A2, c2, q.chunks.l⟩ } ∧ q.chunks.l.map Chunk.cln = l.map Chunk.cln) (fun w4 hB hz => (chs_any A c l g w4 ((hB.block g hb.lt).trans hb) ((Reads.below hr hB).more hz) (fun x hx => (Reads.below (hi x hx) hB).more hz) hl hil).mono fun e w5 ⟨A2, c2, l2, he, hl2, h1, h2, hm, hB5⟩ => ⟨A2, c2, { pNul with chunks := ⟨A2, c2, l2⟩ }, he, ⟨⟨.nil, h1, h2, .nil, .nil, .nil, .nil, (fun x hx => by cases hx), .nil, .nil⟩, .nil, (fun x hx => by cases hx), .nil, .nil⟩, ⟨rfl, hm⟩, hB5⟩)), trivial⟩) fun p7 a u hE hS => ?_
 refine wp_ret (bkR (thR ?_))
 obtain ⟨hN, hq, hm⟩ := (hS.ok 21 (ckNe (fun A2 c2 q => q = { pNul with chunks := ⟨A2, c2, q.chunks.l⟩ } ∧ q.chunks.l.map Chunk.cln = l.map Chunk.cln) (p7 1)) (by kernel_rfl))
 have hwd : ∀ y, (p7 1).g ≤ y ∧ y < nE (p7 1) → w.heap.size ≤ y ∧ y < u.heap.size := fun y hy => ⟨(hS.lt 21 (ckNe (fun A2 c2 q => q = { pNul with chunks := ⟨A2, c2, q.chunks.l⟩ } ∧ q.chunks.l.map Chunk.cln = l.map Chunk.cln) (p7 1)) (by kernel_rfl) y hy).2.resolve_right id, (hS.lt 21 (ckNe (fun A2 c2 q => q = { pNul with chunks := ⟨A2, c2, q.chunks.l⟩ } ∧ q.chunks.l.map Chunk.cln = l.map Chunk.cln) (p7 1)) (by kernel_rfl) y hy).1⟩
 have h1 := hN.new.chunks.wide hwd
 have h2 := fun x hx => (hN.new.items x hx).wide hwd
 rw [show (nQ (p7 1)).chunks.A = (p7 1).a from congrArg (fun q => q.chunks.A) hq] at h1
 exact retc hE hS Tryz.results78 102 (p1 0).g 56 ({ pNul with kind := 3, chunks := ⟨(p7 1).a, (p7 1).c, (nQ (p7 1)).chunks.l⟩ } : Pkt).cells ⟨({ pNul with kind := 3, chunks := ⟨(p7 1).a, (p7 1).c, (nQ (p7 1)).chunks.l⟩ } : Pkt), rfl, hS.below, ⟨⟨.nil, h1, h2, .nil, .nil, .nil, .nil, (fun x hx => by cases hx), .nil, .nil⟩, .nil, (fun x hx => by cases hx), .nil, .nil⟩, ⟨_, _, _, hm, rfl⟩⟩ Tryz.underlying56

theorem pl_8 (s t : Int) (A : Option Addr) (c : Nat) (l : List Blo) (g : Nat) (w : World) (hb : Blk w g 182 #[.int .u32 s, .slice A (l.length : Nat) c, .int .u32 t]) (hr : Reads w w.heap.size 3 A l.length (l.flatMap Blo.cells)) (hi : ∀ x ∈ l, Reads w w.heap.size 3 x.mets.A x.mets.l.length (x.mets.l.flatMap Met.cells)) (hl : l.length ≤ 1048576) (hil : ∀ x ∈ l, x.mets.l.length ≤ 1048576) :
  Calls Tryz.prog 78 #[.iface 90 (.pointer (some ⟨g, 0, none⟩))] w (PlainOut w (fun q => ∃ (B : Option Addr) (c : Nat) (l2 : List Blo), l2.map Blo.cln = l.map Blo.cln ∧ q = { pNul with kind := 8, sender := s, time := t, blocks := ⟨B, c, l2⟩ })) := by
 refine go_in Tryz.func78 rfl Tryz.ntmps78 [.iface 90 (pt g 0)] fun a hE => ?_
 have hS := stp_in w
 have hS := stp_oldB hS 101 hb
 refine rg hE hS [nw 102] (fun p1 => kp [(2, pt (p1 0).g 0)]) (fun p1 => kP [(102, some (.blk (p1 0).g 56 zP))]) fun p1 a u hE hS => ?_
 refine wp_seq ?_
 refine rg hE hS [pu] (fun _ => kp [(26, .iface 90 (pt g 0))]) kP0 fun _ a u hE hS => wp_block ?_
 refine rg hE hS [pu, pu, pu] (fun _ => kp [(28, .bool false), (29, .pointer none)]) kP0 fun _ a u hE hS => iff hE ?_
 refine rg hE hS [pu, pu, pu] (fun _ => kp [(62, .bool false), (63, .pointer none)]) kP0 fun _ a u hE hS => iff hE ?_
 refine rg hE hS [pu, pu, pu] (fun _ => kp [(80, .bool false), (81, .pointer none)]) kP0 fun _ a u hE hS => iff hE ?_
 refine rg hE hS [pu, pu, pu] (fun _ => kp [(86, .bool false), (87, .pointer none)]) kP0 fun _ a u hE hS => iff hE ?_
 refine rg hE hS [pu, pu, pu] (fun _ => kp [(99, .bool false), (100, .pointer none)]) kP0 fun _ a u hE hS => iff hE ?_
 refine rg hE hS [pu, pu, pu] (fun _ => kp [(120, .bool false), (121, .pointer none)]) kP0 fun _ a u hE hS => iff hE ?_
 refine rg hE hS [pu, pu, pu] (fun _ => kp [(153, .bool false), (154, .pointer none)]) kP0 fun _ a u hE hS => iff hE ?_
 refine rg hE hS [pu, pu, pu] (fun _ => kp [(165, .bool true), (166, pt g 0)]) kP0 fun _ a u hE hS => ift hE ?_
 refine rg hE hS [pu] (fun _ => kp [(13, pt g 0)]) kP0 fun _ a u hE hS => ?_
 refine dgp hE hS [pu, pu, pu, lo 101 0, pu, pu, pu, lo 101 1, cu 107 [] [21] (fun x => .slice x.a (nQ x).blocks.l.length x.c) (fun x => [some (cNe (fun A2 c2 q => q = { pNul with blocks := ⟨A2, c2, q.blocks.l⟩ } ∧ q.blocks.l.map Blo.cln = l.map Blo.cln) x)]), pu, pu, pu, lo 101 2, pu, st 102] kp0 (fun p12 => kP [(21, some (.ck (ckNe (fun A2 c2 q => q = { pNul with blocks := ⟨A2, c2, q.blocks.l⟩ } ∧ q.blocks.l.map Blo.cln = l.map Blo.cln) (p12 8)))), (102, some (.blk (p1 0).g 56 #[.int .i64 8, .int .u32 s, .int .u32 0, .int .u64 0, .int .u32 0, .int .u32 0, .int .u32 0, .slice none 0 0, .slice none 0 0, .slice none 0 0, .slice none 0 0, .string ByteArray.empty, .int .u8 0, .slice none 0 0, .slice none 0 0, .slice none 0 0, .slice none 0 0, .int .u32 0, .slice (p12 8).a (nQ (p12 8)).blocks.l.length (p12 8).c, .int .u32 t, .int .u16 0, .int .u16 0, .int .u32 0, .int .u8 0, .slice none 0 0, .slice none 0 0, .bool false, .int .u8 0, .int .u8 0, .int .u16 0]))]) (fun _ => ⟨kr (cu_nestP (w0 := w) (ps := [none]) 107 #[.slice A (l.length : Nat) c] 21 (fun q => q.blocks.l.length) (fun A2 c2 q => q = { pNul with blocks := ⟨A2, c2, q.blocks.l⟩ } ∧ q.blocks.l.map Blo.cln = l.map Blo.cln) (fun w4 hB hz => (bks_any A c l g w4 ((Reads.below hr hB).more hz) (fun x hx => (Reads.below (hi x hx) hB).more hz) hl hil).mono fun e w5 ⟨A2, c2, l2, he, hl2, h1, h2, hm, hB5⟩ => ⟨A2, c2, { pNul with blocks := ⟨A2, c2, l2⟩ }, he, ⟨⟨.nil, .nil, (fun x hx => by cases hx), .nil, .nil, .nil, h1, h2, .nil, .nil⟩, .nil, (fun x hx => by cases hx), .nil, .nil⟩, ⟨rfl, hm⟩, hB5⟩)), trivial⟩) fun p12 a u hE hS => ?_
 refine wp_ret (bkR (thR ?_))
 obtain ⟨hN, hq, hm⟩ := (hS.ok 21 (ckNe (fun A2 c2 q => q = { pNul with blocks := ⟨A2, c2, q.blocks.l⟩ } ∧ q.blocks.l.map Blo.cln = l.map Blo.cln) (p12 8)) (by kernel_rfl))
 have hwd : ∀ y, (p12 8).g ≤ y ∧ y < nE (p12 8) → w.heap.size ≤ y ∧ y < u.heap.size := fun y hy => ⟨(hS.lt 21 (ckNe (fun A2 c2 q => q = { pNul with blocks := ⟨A2, c2, q.blocks.l⟩ } ∧ q.blocks.l.map Blo.cln = l.map Blo.cln) (p12 8)) (by kernel_rfl) y hy).2.resolve_right id, (hS.lt 21 (ckNe (fun A2 c2 q => q = { pNul with blocks := ⟨A2, c2, q.blocks.l⟩ } ∧ q.blocks.l.map Blo.cln = l.map Blo.cln) (p12 8)) (by kernel_rfl) y hy).1⟩
 have h1 := hN.new.blocks.wide hwd
 have h2 := fun x hx => (hN.new.mets x hx).wide hwd
 rw [show (nQ (p12 8)).blocks.A = (p12 8).a from congrArg (fun q => q.blocks.A) hq] at h1
 exact retc hE hS Tryz.results78 102 (p1 0).g 56 ({ pNul with kind := 8, sender := s, time := t, blocks := ⟨(p12 8).a, (p12 8).c, (nQ (p12 8)).blocks.l⟩ } : Pkt).cells ⟨({ pNul with kind := 8, sender := s, time := t, blocks := ⟨(p12 8).a, (p12 8).c, (nQ (p12 8)).blocks.l⟩ } : Pkt), rfl, hS.below, ⟨⟨.nil, .nil, (fun x hx => by cases hx), .nil, .nil, .nil, h1, h2, .nil, .nil⟩, .nil, (fun x hx => by cases hx), .nil, .nil⟩, ⟨_, _, _, hm, rfl⟩⟩ Tryz.underlying56

end Go.Proofs.YtmmfpgoodfgkbaaGreatDoor
