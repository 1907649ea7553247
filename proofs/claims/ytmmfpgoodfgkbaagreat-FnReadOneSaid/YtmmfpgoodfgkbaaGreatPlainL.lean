/-
  THE WALK of the law's 'plain': a packet of the thin package as one of the reference, its lists in new memory. Condition: the packet lies in memory, its lists are not too long.
-/
import Derived.Test.YtmmfpgoodfgkbaaGreatGivenA
namespace Go.Proofs.YtmmfpgoodfgkbaaGreat
open Go Go.RowKit
set_option linter.unusedVariables false
set_option linter.unusedSimpArgs false

abbrev ckItemsP (B : Nat) (l : List Chunk) : Pc := .ck (ckRs B 94 2 (fun x : Chunk => x.items.val) (fun x => x.items.l.flatMap Item.cells) (fun x => x.items.l.length) l)
theorem stp_itemsP {olds : Nat → Prop} {w0 w : World} {L : PL} {B : Nat} {l : List Chunk} (h : Stp olds w0 w (lookM (den olds w0 L))) (k k2 : Nat) (x : Chunk) (hne : k ≠ k2) (hk : lookP L k = some (ckItemsP B l) := by kernel_rfl) (hk2 : lookP L k2 = some (.row B 94 2 x.items.val x.items.l.length (x.items.l.flatMap Item.cells)) := by kernel_rfl) : Stp olds w0 w (lookM (den olds w0 ((k, some (ckItemsP B (l ++ [x]))) :: (k2, none) :: L))) :=
  Stp.merge h k k2 x (by rw [lookM_den, hk]; rfl) (by rw [lookM_den, hk2]; rfl) hne
theorem own_itemsP {olds : Nat → Prop} {w0 w : World} {L : PL} {B : Nat} {l : List Chunk} (h : Stp olds w0 w (lookM (den olds w0 L))) (k : Nat) (x : Chunk) (hx : x ∈ l) (hk : lookP L k = some (ckItemsP B l) := by kernel_rfl) : w.ownsRow B 94 2 x.items.val x.items.l.length (x.items.l.flatMap Item.cells) := (show (Pc.den olds w0 (ckItemsP B l)).ok w from h.ok k _ (by rw [lookM_den, hk]; rfl)) x hx
theorem stp_items0P {olds : Nat → Prop} {w0 w : World} {L : PL} (h : Stp olds w0 w (lookM (den olds w0 L))) (k B : Nat) : Stp olds w0 w (lookM (den olds w0 ((k, some (ckItemsP B [])) :: L))) := ckRs_nil h k B 94 2 _ _ _
abbrev ckMetsP (B : Nat) (l : List Blo) : Pc := .ck (ckRs B 112 3 (fun x : Blo => x.mets.val) (fun x => x.mets.l.flatMap Met.cells) (fun x => x.mets.l.length) l)
theorem stp_metsP {olds : Nat → Prop} {w0 w : World} {L : PL} {B : Nat} {l : List Blo} (h : Stp olds w0 w (lookM (den olds w0 L))) (k k2 : Nat) (x : Blo) (hne : k ≠ k2) (hk : lookP L k = some (ckMetsP B l) := by kernel_rfl) (hk2 : lookP L k2 = some (.row B 112 3 x.mets.val x.mets.l.length (x.mets.l.flatMap Met.cells)) := by kernel_rfl) : Stp olds w0 w (lookM (den olds w0 ((k, some (ckMetsP B (l ++ [x]))) :: (k2, none) :: L))) :=
  Stp.merge h k k2 x (by rw [lookM_den, hk]; rfl) (by rw [lookM_den, hk2]; rfl) hne
theorem own_metsP {olds : Nat → Prop} {w0 w : World} {L : PL} {B : Nat} {l : List Blo} (h : Stp olds w0 w (lookM (den olds w0 L))) (k : Nat) (x : Blo) (hx : x ∈ l) (hk : lookP L k = some (ckMetsP B l) := by kernel_rfl) : w.ownsRow B 112 3 x.mets.val x.mets.l.length (x.mets.l.flatMap Met.cells) := (show (Pc.den olds w0 (ckMetsP B l)).ok w from h.ok k _ (by rw [lookM_den, hk]; rfl)) x hx
theorem stp_mets0P {olds : Nat → Prop} {w0 w : World} {L : PL} (h : Stp olds w0 w (lookM (den olds w0 L))) (k B : Nat) : Stp olds w0 w (lookM (den olds w0 ((k, some (ckMetsP B [])) :: L))) := ckRs_nil h k B 112 3 _ _ _
set_option maxHeartbeats 4000000 in
set_option maxRecDepth 100000 in
theorem plain_in (p : Pkt) (w : World) (h : p.Lies w w.heap.size) (hs : p.Short) :
    Calls Tryz.prog 20 #[.agg p.cells] w fun e w' => ∃ q : Pkt, Pkt.Same p q ∧ e = .returned (.agg q.cells) ∧ q.NewIn w' w.heap.size w'.heap.size ∧ (q.stats.l = p.stats.l ∧ q.deltas.l = p.deltas.l ∧ q.base = p.base ∧ q.count = p.count ∧ q.ref = p.ref ∧ q.fb = p.fb) ∧ Below w.heap.size w w' := by
  refine go_in Tryz.func20 rfl Tryz.ntmps20 [.agg p.cells] fun a hE => ?_
  have hS := stp_in w
  refine rg hE hS [nw 1, nw 2] (fun p1 => kp [(1, pt (p1 0).g 0), (2, pt (p1 1).g 0)]) (fun p1 => kP [(1, some (.blk (p1 0).g 53 p.cells)), (2, some (.blk (p1 1).g 38 #[.int .i64 0, .int .u32 0, .int .u32 0, .int .u64 0, .int .u32 0, .int .u32 0, .int .u32 0, .slice none 0 0, .slice none 0 0, .slice none 0 0, .slice none 0 0, .string ByteArray.empty, .int .u8 0, .slice none 0 0, .slice none 0 0, .slice none 0 0, .slice none 0 0, .int .u32 0, .slice none 0 0, .int .u32 0, .int .u16 0, .int .u16 0, .int .u32 0, .int .u8 0, .slice none 0 0, .slice none 0 0, .bool false, .int .u8 0, .int .u8 0, .int .u16 0]))]) fun p1 a u hE hS => ?_
  refine rg hE hS [pu, ld 1, pu, ld 1, pu, ld 1, pu, ld 1, pu, ld 1, pu, ld 1, pu, ld 1, pu, ld 1, pu, ld 1, pu, ld 1, pu, ld 1, pu, ld 1, pu, ld 1, pu, ld 1, pu, ld 1, pu, ld 1, pu, ld 1, pu, ld 1, pu, ld 1, pu, nw 3, st 3] (fun p2 => kn [(3, pt (p2 39).g 0)] [1, 2]) (fun p2 => kN [(3, some (.blk (p2 39).g 38 ((giv p (.slice none 0 0) (.slice none 0 0) (.slice none 0 0) (.slice none 0 0) (.slice none 0 0) (.slice none 0 0) (.slice none 0 0) (.slice none 0 0)))))] [1, 2]) fun p2 a u hE hS => ?_
  refine wp_seq ?_
  refine rg hE hS [pu, ld 1, pu, pu] (fun _ => kn [(66, .slice p.reports.A (p.reports.l.length : Nat) p.reports.c), (67, .int .i64 (p.reports.l.length : Nat)), (68, .int .i64 0)] [1, 2, 3]) (fun _ => kN [] [1, 2, 3]) fun _ a u hE hS => ?_
  have hS := stp_row0 hS 27 w.heap.size 85 7
  refine range_up hE hS 68 p.reports.l.length (fun _ _ => kd [68, 69, 78] []) (fun k x => kP [(3, some (.blk (p2 39).g 38 (giv p (.slice x.p.a x.n x.p.c) (.slice none 0 0) (.slice none 0 0) (.slice none 0 0) (.slice none 0 0) (.slice none 0 0) (.slice none 0 0) (.slice none 0 0)))), (27, some (.row w.heap.size 85 7 (.slice x.p.a x.n x.p.c) x.n x.xs))]) (fun k (x : Lx Unit) => x.n = k ∧ x.xs = (p.reports.l.take k).flatMap Rep.cells) ⟨⟨0, 0, undef, none⟩, 0, [], ()⟩ (by have := hs.reports; omega) ⟨rfl, rfl⟩ (fun k x a u hk hI hE hS K hK R hR => ?_) fun ⟨q7, m, xs, _⟩ a u hI hE hS => ?_
  · obtain ⟨hn, hx⟩ := hI
    have hb := hs.reports
    have hS := stp_el hS 90 (el_at h.reports (fun _ _ => rfl) rfl (fun g hg => ⟨hg, id⟩) k hk (by omega))
    generalize hr : p.reports.l[k] = r at hS
    refine rgp hE hS [ie 90, le 90 0, nw 91, st 91] (fun p4 => kp [(5, pt (p4 2).g 0)]) (fun p4 => kP [(91, some (.blk (p4 2).g 86 (Rep.cells r).toArray))]) (fun _ => ⟨kr (show k < p.reports.l.length from hk), trivial⟩) fun p4 a u hE hS => ?_
    refine rgE hE hS [pu, ld 3, ld 91, nw 92, ap 27 [92], pu, st 3] (fun _ => kp []) (fun p5 => kP [(27, some (.row w.heap.size 85 7 (.slice (p5 4).a (x.n + 1) (p5 4).c) (x.n + 1) (x.xs ++ Rep.cells r))), (3, some (.blk (p2 39).g 38 (giv p (.slice (p5 4).a (x.n + 1) (p5 4).c) (.slice none 0 0) (.slice none 0 0) (.slice none 0 0) (.slice none 0 0) (.slice none 0 0) (.slice none 0 0) (.slice none 0 0))))]) (fun _ => ⟨kr (show w.heap.size ≤ w.heap.size ∧ (x.n + 1) * 28 ≤ 140737488355328 ∧ ∀ u ∈ Rep.cells r, u.oneCell' = true from ⟨Nat.le_refl _, by omega, by simp [Rep.cells, Value.oneCell']⟩), trivial⟩) fun p5 a u hE hS => ?_
    exact hK ⟨(p5 4), x.n + 1, x.xs ++ Rep.cells r, ()⟩ a u _ _ ⟨congrArg (· + 1) hn, by rw [hx, flat_take_succ _ _ _ hk, hr]⟩ hE hS (by kernel_rfl)
  simp only [List.take_length] at hI
  obtain ⟨h1, h2⟩ := hI
  subst h1 h2
  refine wp_seq ?_
  refine rg hE hS [pu, ld 1, pu, pu] (fun _ => kn [(80, .slice p.chunks.A (p.chunks.l.length : Nat) p.chunks.c), (81, .int .i64 (p.chunks.l.length : Nat)), (82, .int .i64 0)] [1, 2, 3]) (fun _ => kN [] [27, 1, 2, 3]) fun _ a u hE hS => ?_
  have hS := stp_row0 hS 29 w.heap.size 89 2
  have hS := stp_items0P hS 59 w.heap.size
  refine range_up hE hS 82 p.chunks.l.length (fun _ _ => kd [82, 83, 109] []) (fun k x => kP [(3, some (.blk (p2 39).g 38 (giv p (.slice q7.a p.reports.l.length q7.c) (.slice x.p.a x.n x.p.c) (.slice none 0 0) (.slice none 0 0) (.slice none 0 0) (.slice none 0 0) (.slice none 0 0) (.slice none 0 0)))), (29, some (.row w.heap.size 89 2 (.slice x.p.a x.n x.p.c) x.n x.xs)), (59, some (ckItemsP w.heap.size x.y))]) (fun k (x : Lx (List Chunk)) => x.n = k ∧ x.xs = x.y.flatMap Chunk.cells ∧ x.y.map Chunk.bare = (p.chunks.l.take k).map Chunk.bare ∧ x.y.length = k) ⟨⟨0, 0, undef, none⟩, 0, [], []⟩ (by have := hs.chunks; omega) ⟨rfl, rfl, rfl, rfl⟩ (fun k x a u hk hI hE hS K hK R hR => ?_) fun ⟨q9, m, xs, l9⟩ a u hI hE hS => ?_
  · obtain ⟨hn, hx, hm, hl⟩ := hI
    have hb := hs.chunks
    have hS := stp_el hS 90 (el_at h.chunks (fun _ _ => rfl) rfl (fun g hg => ⟨hg, id⟩) k hk (by omega))
    have hit := h.items p.chunks.l[k] (List.getElem_mem _)
    have hin := hs.items p.chunks.l[k] (List.getElem_mem _)
    generalize hr : p.chunks.l[k] = r at hS hit hin
    refine rgp hE hS [ie 90, le 90 0, nw 91, st 91] (fun p7 => kp [(7, pt (p7 2).g 0)]) (fun p7 => kP [(91, some (.blk (p7 2).g 92 (Chunk.cells r).toArray))]) (fun _ => ⟨kr (show k < p.chunks.l.length from hk), trivial⟩) fun p7 a u hE hS => ?_
    refine rg hE hS [pu, ld 91, pu, nw 93, st 93] (fun p8 => kp [(8, pt (p8 3).g 0)]) (fun p8 => kP [(93, some (.blk (p8 3).g 89 #[.int .u32 r.src, .slice none 0 0]))]) fun p8 a u hE hS => ?_
    refine wp_seq ?_
    refine rg hE hS [pu, ld 91, pu, pu] (fun _ => kp [(90, .slice r.items.A (r.items.l.length : Nat) r.items.c), (91, .int .i64 (r.items.l.length : Nat)), (92, .int .i64 0)]) (fun _ => kP []) fun _ a u hE hS => ?_
    have hS := stp_row0 hS 94 w.heap.size 94 2
    refine range_up hE hS 92 r.items.l.length (fun _ _ => kd [92, 93, 102] []) (fun j y => kP [(93, some (.blk (p8 3).g 89 #[.int .u32 r.src, .slice y.p.a y.n y.p.c])), (94, some (.row w.heap.size 94 2 (.slice y.p.a y.n y.p.c) y.n y.xs))]) (fun j (y : Lx Unit) => y.n = j ∧ y.xs = (r.items.l.take j).flatMap Item.cells) ⟨⟨0, 0, undef, none⟩, 0, [], ()⟩ (by omega) ⟨rfl, rfl⟩ (fun j y a u hj hI hE hS K2 hK2 R2 hR2 => ?_) fun ⟨qi, m, xs, _⟩ a u hI hE hS => ?_
    · obtain ⟨hn2, hx2⟩ := hI
      have hS := stp_el hS 96 (el_at hit (fun _ _ => rfl) rfl (fun g hg => ⟨hg, id⟩) j hj (by omega))
      generalize hr2 : r.items.l[j] = q at hS
      refine rgp hE hS [ie 96, le 96 0, nw 97, st 97] (fun p10 => kp [(10, pt (p10 2).g 0)]) (fun p10 => kP [(97, some (.blk (p10 2).g 95 (Item.cells q).toArray))]) (fun _ => ⟨kr (show j < r.items.l.length from hj), trivial⟩) fun p10 a u hE hS => ?_
      refine rgE hE hS [pu, ld 93, ld 97, nw 98, ap 94 [98], pu, st 93] (fun _ => kp []) (fun p11 => kP [(94, some (.row w.heap.size 94 2 (.slice (p11 4).a (y.n + 1) (p11 4).c) (y.n + 1) (y.xs ++ Item.cells q))), (93, some (.blk (p8 3).g 89 #[.int .u32 r.src, .slice (p11 4).a (y.n + 1) (p11 4).c]))]) (fun _ => ⟨kr (show w.heap.size ≤ w.heap.size ∧ (y.n + 1) * 24 ≤ 140737488355328 ∧ ∀ u ∈ Item.cells q, u.oneCell' = true from ⟨Nat.le_refl _, by omega, by simp [Item.cells, Value.oneCell']⟩), trivial⟩) fun p11 a u hE hS => ?_
      exact hK2 ⟨(p11 4), y.n + 1, y.xs ++ Item.cells q, ()⟩ a u _ _ ⟨congrArg (· + 1) hn2, by rw [hx2, flat_take_succ _ _ _ hj, hr2]⟩ hE hS (by kernel_rfl)
    simp only [List.take_length] at hI
    obtain ⟨h1, h2⟩ := hI
    subst h1 h2
    refine rgE hE hS [pu, ld 3, ld 93, nw 99, ap 29 [99], pu, st 3] (fun _ => kn [] [1, 2, 3, 80, 81, 82]) (fun p12 => kN [(29, some (.row w.heap.size 89 2 (.slice (p12 4).a (x.n + 1) (p12 4).c) (x.n + 1) (x.xs ++ Chunk.cells ({ r with items := ⟨qi.a, qi.c, r.items.l⟩ } : Chunk)))), (3, some (.blk (p2 39).g 38 (giv p (.slice q7.a p.reports.l.length q7.c) (.slice (p12 4).a (x.n + 1) (p12 4).c) (.slice none 0 0) (.slice none 0 0) (.slice none 0 0) (.slice none 0 0) (.slice none 0 0) (.slice none 0 0))))] [94, 90, 59, 27, 1, 2]) (fun _ => ⟨kr (show w.heap.size ≤ w.heap.size ∧ (x.n + 1) * 32 ≤ 140737488355328 ∧ ∀ u ∈ Chunk.cells ({ r with items := ⟨qi.a, qi.c, r.items.l⟩ } : Chunk), u.oneCell' = true from ⟨Nat.le_refl _, by omega, by simp [Chunk.cells, Sl.val, Value.oneCell']⟩), trivial⟩) fun p12 a u hE hS => ?_
    have hS := stp_itemsP (B := w.heap.size) (l := x.y) hS 59 94 ({ r with items := ⟨qi.a, qi.c, r.items.l⟩ } : Chunk) (by decide)
    exact hK ⟨(p12 4), x.n + 1, x.xs ++ Chunk.cells ({ r with items := ⟨qi.a, qi.c, r.items.l⟩ } : Chunk), x.y ++ [({ r with items := ⟨qi.a, qi.c, r.items.l⟩ } : Chunk)]⟩ a u _ _ ⟨congrArg (· + 1) hn, by simp [hx], by rw [List.map_append, hm, List.take_succ_eq_append_getElem hk, List.map_append, hr]; rfl, by simp [hl]⟩ hE hS (by kernel_rfl)
  simp only [List.take_length] at hI
  obtain ⟨h1, h2, hm_chunks, h4⟩ := hI
  rw [← h4] at h1
  subst h1 h2
  refine wp_seq ?_
  refine rg hE hS [pu, ld 1, pu, pu] (fun _ => kn [(111, .slice p.pairs.A (p.pairs.l.length : Nat) p.pairs.c), (112, .int .i64 (p.pairs.l.length : Nat)), (113, .int .i64 0)] [1, 2, 3]) (fun _ => kN [] [59, 29, 27, 1, 2, 3]) fun _ a u hE hS => ?_
  have hS := stp_row0 hS 34 w.heap.size 97 2
  refine range_up hE hS 113 p.pairs.l.length (fun _ _ => kd [113, 114, 123] []) (fun k x => kP [(3, some (.blk (p2 39).g 38 (giv p (.slice q7.a p.reports.l.length q7.c) (.slice q9.a l9.length q9.c) (.slice x.p.a x.n x.p.c) (.slice none 0 0) (.slice none 0 0) (.slice none 0 0) (.slice none 0 0) (.slice none 0 0)))), (34, some (.row w.heap.size 97 2 (.slice x.p.a x.n x.p.c) x.n x.xs))]) (fun k (x : Lx Unit) => x.n = k ∧ x.xs = (p.pairs.l.take k).flatMap Pair.cells) ⟨⟨0, 0, undef, none⟩, 0, [], ()⟩ (by have := hs.pairs; omega) ⟨rfl, rfl⟩ (fun k x a u hk hI hE hS K hK R hR => ?_) fun ⟨q14, m, xs, _⟩ a u hI hE hS => ?_
  · obtain ⟨hn, hx⟩ := hI
    have hb := hs.pairs
    have hS := stp_el hS 90 (el_at h.pairs (fun _ _ => rfl) rfl (fun g hg => ⟨hg, id⟩) k hk (by omega))
    generalize hr : p.pairs.l[k] = r at hS
    refine rgp hE hS [ie 90, le 90 0, nw 91, st 91] (fun p14 => kp [(12, pt (p14 2).g 0)]) (fun p14 => kP [(91, some (.blk (p14 2).g 98 (Pair.cells r).toArray))]) (fun _ => ⟨kr (show k < p.pairs.l.length from hk), trivial⟩) fun p14 a u hE hS => ?_
    refine rgE hE hS [pu, ld 3, ld 91, nw 92, ap 34 [92], pu, st 3] (fun _ => kp []) (fun p15 => kP [(34, some (.row w.heap.size 97 2 (.slice (p15 4).a (x.n + 1) (p15 4).c) (x.n + 1) (x.xs ++ Pair.cells r))), (3, some (.blk (p2 39).g 38 (giv p (.slice q7.a p.reports.l.length q7.c) (.slice q9.a l9.length q9.c) (.slice (p15 4).a (x.n + 1) (p15 4).c) (.slice none 0 0) (.slice none 0 0) (.slice none 0 0) (.slice none 0 0) (.slice none 0 0))))]) (fun _ => ⟨kr (show w.heap.size ≤ w.heap.size ∧ (x.n + 1) * 4 ≤ 140737488355328 ∧ ∀ u ∈ Pair.cells r, u.oneCell' = true from ⟨Nat.le_refl _, by omega, by simp [Pair.cells, Value.oneCell']⟩), trivial⟩) fun p15 a u hE hS => ?_
    exact hK ⟨(p15 4), x.n + 1, x.xs ++ Pair.cells r, ()⟩ a u _ _ ⟨congrArg (· + 1) hn, by rw [hx, flat_take_succ _ _ _ hk, hr]⟩ hE hS (by kernel_rfl)
  simp only [List.take_length] at hI
  obtain ⟨h1, h2⟩ := hI
  subst h1 h2
  refine wp_seq ?_
  refine rg hE hS [pu, ld 1, pu, pu] (fun _ => kn [(125, .slice p.slices.A (p.slices.l.length : Nat) p.slices.c), (126, .int .i64 (p.slices.l.length : Nat)), (127, .int .i64 0)] [1, 2, 3]) (fun _ => kN [] [34, 59, 29, 27, 1, 2, 3]) fun _ a u hE hS => ?_
  have hS := stp_row0 hS 35 w.heap.size 100 3
  refine range_up hE hS 127 p.slices.l.length (fun _ _ => kd [127, 128, 137] []) (fun k x => kP [(3, some (.blk (p2 39).g 38 (giv p (.slice q7.a p.reports.l.length q7.c) (.slice q9.a l9.length q9.c) (.slice q14.a p.pairs.l.length q14.c) (.slice x.p.a x.n x.p.c) (.slice none 0 0) (.slice none 0 0) (.slice none 0 0) (.slice none 0 0)))), (35, some (.row w.heap.size 100 3 (.slice x.p.a x.n x.p.c) x.n x.xs))]) (fun k (x : Lx Unit) => x.n = k ∧ x.xs = (p.slices.l.take k).flatMap Slc.cells) ⟨⟨0, 0, undef, none⟩, 0, [], ()⟩ (by have := hs.slices; omega) ⟨rfl, rfl⟩ (fun k x a u hk hI hE hS K hK R hR => ?_) fun ⟨q15, m, xs, _⟩ a u hI hE hS => ?_
  · obtain ⟨hn, hx⟩ := hI
    have hb := hs.slices
    have hS := stp_el hS 90 (el_at h.slices (fun _ _ => rfl) rfl (fun g hg => ⟨hg, id⟩) k hk (by omega))
    generalize hr : p.slices.l[k] = r at hS
    refine rgp hE hS [ie 90, le 90 0, nw 91, st 91] (fun p17 => kp [(14, pt (p17 2).g 0)]) (fun p17 => kP [(91, some (.blk (p17 2).g 101 (Slc.cells r).toArray))]) (fun _ => ⟨kr (show k < p.slices.l.length from hk), trivial⟩) fun p17 a u hE hS => ?_
    refine rgE hE hS [pu, ld 3, ld 91, nw 92, ap 35 [92], pu, st 3] (fun _ => kp []) (fun p18 => kP [(35, some (.row w.heap.size 100 3 (.slice (p18 4).a (x.n + 1) (p18 4).c) (x.n + 1) (x.xs ++ Slc.cells r))), (3, some (.blk (p2 39).g 38 (giv p (.slice q7.a p.reports.l.length q7.c) (.slice q9.a l9.length q9.c) (.slice q14.a p.pairs.l.length q14.c) (.slice (p18 4).a (x.n + 1) (p18 4).c) (.slice none 0 0) (.slice none 0 0) (.slice none 0 0) (.slice none 0 0))))]) (fun _ => ⟨kr (show w.heap.size ≤ w.heap.size ∧ (x.n + 1) * 6 ≤ 140737488355328 ∧ ∀ u ∈ Slc.cells r, u.oneCell' = true from ⟨Nat.le_refl _, by omega, by simp [Slc.cells, Value.oneCell']⟩), trivial⟩) fun p18 a u hE hS => ?_
    exact hK ⟨(p18 4), x.n + 1, x.xs ++ Slc.cells r, ()⟩ a u _ _ ⟨congrArg (· + 1) hn, by rw [hx, flat_take_succ _ _ _ hk, hr]⟩ hE hS (by kernel_rfl)
  simp only [List.take_length] at hI
  obtain ⟨h1, h2⟩ := hI
  subst h1 h2
  refine wp_seq ?_
  refine rg hE hS [pu, ld 1, pu, pu] (fun _ => kn [(139, .slice p.entries.A (p.entries.l.length : Nat) p.entries.c), (140, .int .i64 (p.entries.l.length : Nat)), (141, .int .i64 0)] [1, 2, 3]) (fun _ => kN [] [35, 34, 59, 29, 27, 1, 2, 3]) fun _ a u hE hS => ?_
  have hS := stp_row0 hS 36 w.heap.size 103 2
  refine range_up hE hS 141 p.entries.l.length (fun _ _ => kd [141, 142, 151] []) (fun k x => kP [(3, some (.blk (p2 39).g 38 (giv p (.slice q7.a p.reports.l.length q7.c) (.slice q9.a l9.length q9.c) (.slice q14.a p.pairs.l.length q14.c) (.slice q15.a p.slices.l.length q15.c) (.slice x.p.a x.n x.p.c) (.slice none 0 0) (.slice none 0 0) (.slice none 0 0)))), (36, some (.row w.heap.size 103 2 (.slice x.p.a x.n x.p.c) x.n x.xs))]) (fun k (x : Lx Unit) => x.n = k ∧ x.xs = (p.entries.l.take k).flatMap Ent.cells) ⟨⟨0, 0, undef, none⟩, 0, [], ()⟩ (by have := hs.entries; omega) ⟨rfl, rfl⟩ (fun k x a u hk hI hE hS K hK R hR => ?_) fun ⟨q16, m, xs, _⟩ a u hI hE hS => ?_
  · obtain ⟨hn, hx⟩ := hI
    have hb := hs.entries
    have hS := stp_el hS 90 (el_at h.entries (fun _ _ => rfl) rfl (fun g hg => ⟨hg, id⟩) k hk (by omega))
    generalize hr : p.entries.l[k] = r at hS
    refine rgp hE hS [ie 90, le 90 0, nw 91, st 91] (fun p20 => kp [(16, pt (p20 2).g 0)]) (fun p20 => kP [(91, some (.blk (p20 2).g 104 (Ent.cells r).toArray))]) (fun _ => ⟨kr (show k < p.entries.l.length from hk), trivial⟩) fun p20 a u hE hS => ?_
    refine rgE hE hS [pu, ld 3, ld 91, nw 92, ap 36 [92], pu, st 3] (fun _ => kp []) (fun p21 => kP [(36, some (.row w.heap.size 103 2 (.slice (p21 4).a (x.n + 1) (p21 4).c) (x.n + 1) (x.xs ++ Ent.cells r))), (3, some (.blk (p2 39).g 38 (giv p (.slice q7.a p.reports.l.length q7.c) (.slice q9.a l9.length q9.c) (.slice q14.a p.pairs.l.length q14.c) (.slice q15.a p.slices.l.length q15.c) (.slice (p21 4).a (x.n + 1) (p21 4).c) (.slice none 0 0) (.slice none 0 0) (.slice none 0 0))))]) (fun _ => ⟨kr (show w.heap.size ≤ w.heap.size ∧ (x.n + 1) * 8 ≤ 140737488355328 ∧ ∀ u ∈ Ent.cells r, u.oneCell' = true from ⟨Nat.le_refl _, by omega, by simp [Ent.cells, Value.oneCell']⟩), trivial⟩) fun p21 a u hE hS => ?_
    exact hK ⟨(p21 4), x.n + 1, x.xs ++ Ent.cells r, ()⟩ a u _ _ ⟨congrArg (· + 1) hn, by rw [hx, flat_take_succ _ _ _ hk, hr]⟩ hE hS (by kernel_rfl)
  simp only [List.take_length] at hI
  obtain ⟨h1, h2⟩ := hI
  subst h1 h2
  refine wp_seq ?_
  refine rg hE hS [pu, ld 1, pu, pu] (fun _ => kn [(153, .slice p.blocks.A (p.blocks.l.length : Nat) p.blocks.c), (154, .int .i64 (p.blocks.l.length : Nat)), (155, .int .i64 0)] [1, 2, 3]) (fun _ => kN [] [36, 35, 34, 59, 29, 27, 1, 2, 3]) fun _ a u hE hS => ?_
  have hS := stp_row0 hS 38 w.heap.size 107 3
  have hS := stp_mets0P hS 68 w.heap.size
  refine range_up hE hS 155 p.blocks.l.length (fun _ _ => kd [155, 156, 184] []) (fun k x => kP [(3, some (.blk (p2 39).g 38 (giv p (.slice q7.a p.reports.l.length q7.c) (.slice q9.a l9.length q9.c) (.slice q14.a p.pairs.l.length q14.c) (.slice q15.a p.slices.l.length q15.c) (.slice q16.a p.entries.l.length q16.c) (.slice x.p.a x.n x.p.c) (.slice none 0 0) (.slice none 0 0)))), (38, some (.row w.heap.size 107 3 (.slice x.p.a x.n x.p.c) x.n x.xs)), (68, some (ckMetsP w.heap.size x.y))]) (fun k (x : Lx (List Blo)) => x.n = k ∧ x.xs = x.y.flatMap Blo.cells ∧ x.y.map Blo.bare = (p.blocks.l.take k).map Blo.bare ∧ x.y.length = k) ⟨⟨0, 0, undef, none⟩, 0, [], []⟩ (by have := hs.blocks; omega) ⟨rfl, rfl, rfl, rfl⟩ (fun k x a u hk hI hE hS K hK R hR => ?_) fun ⟨q18, m, xs, l18⟩ a u hI hE hS => ?_
  · obtain ⟨hn, hx, hm, hl⟩ := hI
    have hb := hs.blocks
    have hS := stp_el hS 90 (el_at h.blocks (fun _ _ => rfl) rfl (fun g hg => ⟨hg, id⟩) k hk (by omega))
    have hit := h.mets p.blocks.l[k] (List.getElem_mem _)
    have hin := hs.mets p.blocks.l[k] (List.getElem_mem _)
    generalize hr : p.blocks.l[k] = r at hS hit hin
    refine rgp hE hS [ie 90, le 90 0, nw 91, st 91] (fun p23 => kp [(18, pt (p23 2).g 0)]) (fun p23 => kP [(91, some (.blk (p23 2).g 110 (Blo.cells r).toArray))]) (fun _ => ⟨kr (show k < p.blocks.l.length from hk), trivial⟩) fun p23 a u hE hS => ?_
    refine rg hE hS [pu, ld 91, pu, ld 91, pu, nw 93, st 93] (fun p24 => kp [(19, pt (p24 5).g 0)]) (fun p24 => kP [(93, some (.blk (p24 5).g 107 #[.int .u32 r.media, .int .u16 r.first, .slice none 0 0]))]) fun p24 a u hE hS => ?_
    refine wp_seq ?_
    refine rg hE hS [pu, ld 91, pu, pu] (fun _ => kp [(165, .slice r.mets.A (r.mets.l.length : Nat) r.mets.c), (166, .int .i64 (r.mets.l.length : Nat)), (167, .int .i64 0)]) (fun _ => kP []) fun _ a u hE hS => ?_
    have hS := stp_row0 hS 94 w.heap.size 112 3
    refine range_up hE hS 167 r.mets.l.length (fun _ _ => kd [167, 168, 177] []) (fun j y => kP [(93, some (.blk (p24 5).g 107 #[.int .u32 r.media, .int .u16 r.first, .slice y.p.a y.n y.p.c])), (94, some (.row w.heap.size 112 3 (.slice y.p.a y.n y.p.c) y.n y.xs))]) (fun j (y : Lx Unit) => y.n = j ∧ y.xs = (r.mets.l.take j).flatMap Met.cells) ⟨⟨0, 0, undef, none⟩, 0, [], ()⟩ (by omega) ⟨rfl, rfl⟩ (fun j y a u hj hI hE hS K2 hK2 R2 hR2 => ?_) fun ⟨qi, m, xs, _⟩ a u hI hE hS => ?_
    · obtain ⟨hn2, hx2⟩ := hI
      have hS := stp_el hS 96 (el_at hit (fun _ _ => rfl) rfl (fun g hg => ⟨hg, id⟩) j hj (by omega))
      generalize hr2 : r.mets.l[j] = q at hS
      refine rgp hE hS [ie 96, le 96 0, nw 97, st 97] (fun p26 => kp [(21, pt (p26 2).g 0)]) (fun p26 => kP [(97, some (.blk (p26 2).g 113 (Met.cells q).toArray))]) (fun _ => ⟨kr (show j < r.mets.l.length from hj), trivial⟩) fun p26 a u hE hS => ?_
      refine rgE hE hS [pu, ld 93, ld 97, nw 98, ap 94 [98], pu, st 93] (fun _ => kp []) (fun p27 => kP [(94, some (.row w.heap.size 112 3 (.slice (p27 4).a (y.n + 1) (p27 4).c) (y.n + 1) (y.xs ++ Met.cells q))), (93, some (.blk (p24 5).g 107 #[.int .u32 r.media, .int .u16 r.first, .slice (p27 4).a (y.n + 1) (p27 4).c]))]) (fun _ => ⟨kr (show w.heap.size ≤ w.heap.size ∧ (y.n + 1) * 4 ≤ 140737488355328 ∧ ∀ u ∈ Met.cells q, u.oneCell' = true from ⟨Nat.le_refl _, by omega, by simp [Met.cells, Value.oneCell']⟩), trivial⟩) fun p27 a u hE hS => ?_
      exact hK2 ⟨(p27 4), y.n + 1, y.xs ++ Met.cells q, ()⟩ a u _ _ ⟨congrArg (· + 1) hn2, by rw [hx2, flat_take_succ _ _ _ hj, hr2]⟩ hE hS (by kernel_rfl)
    simp only [List.take_length] at hI
    obtain ⟨h1, h2⟩ := hI
    subst h1 h2
    refine rgE hE hS [pu, ld 3, ld 93, nw 99, ap 38 [99], pu, st 3] (fun _ => kn [] [1, 2, 3, 153, 154, 155]) (fun p28 => kN [(38, some (.row w.heap.size 107 3 (.slice (p28 4).a (x.n + 1) (p28 4).c) (x.n + 1) (x.xs ++ Blo.cells ({ r with mets := ⟨qi.a, qi.c, r.mets.l⟩ } : Blo)))), (3, some (.blk (p2 39).g 38 (giv p (.slice q7.a p.reports.l.length q7.c) (.slice q9.a l9.length q9.c) (.slice q14.a p.pairs.l.length q14.c) (.slice q15.a p.slices.l.length q15.c) (.slice q16.a p.entries.l.length q16.c) (.slice (p28 4).a (x.n + 1) (p28 4).c) (.slice none 0 0) (.slice none 0 0))))] [94, 90, 68, 36, 35, 34, 59, 29, 27, 1, 2]) (fun _ => ⟨kr (show w.heap.size ≤ w.heap.size ∧ (x.n + 1) * 32 ≤ 140737488355328 ∧ ∀ u ∈ Blo.cells ({ r with mets := ⟨qi.a, qi.c, r.mets.l⟩ } : Blo), u.oneCell' = true from ⟨Nat.le_refl _, by omega, by simp [Blo.cells, Sl.val, Value.oneCell']⟩), trivial⟩) fun p28 a u hE hS => ?_
    have hS := stp_metsP (B := w.heap.size) (l := x.y) hS 68 94 ({ r with mets := ⟨qi.a, qi.c, r.mets.l⟩ } : Blo) (by decide)
    exact hK ⟨(p28 4), x.n + 1, x.xs ++ Blo.cells ({ r with mets := ⟨qi.a, qi.c, r.mets.l⟩ } : Blo), x.y ++ [({ r with mets := ⟨qi.a, qi.c, r.mets.l⟩ } : Blo)]⟩ a u _ _ ⟨congrArg (· + 1) hn, by simp [hx], by rw [List.map_append, hm, List.take_succ_eq_append_getElem hk, List.map_append, hr]; rfl, by simp [hl]⟩ hE hS (by kernel_rfl)
  simp only [List.take_length] at hI
  obtain ⟨h1, h2, hm_blocks, h4⟩ := hI
  rw [← h4] at h1
  subst h1 h2
  refine wp_seq ?_
  refine rg hE hS [pu, ld 1, pu, pu] (fun _ => kn [(186, .slice p.stats.A (p.stats.l.length : Nat) p.stats.c), (187, .int .i64 (p.stats.l.length : Nat)), (188, .int .i64 0)] [1, 2, 3]) (fun _ => kN [] [68, 38, 36, 35, 34, 59, 29, 27, 1, 2, 3]) fun _ a u hE hS => ?_
  have hS := stp_row0 hS 44 w.heap.size 116 5
  refine range_up hE hS 188 p.stats.l.length (fun _ _ => kd [188, 189, 198] []) (fun k x => kP [(3, some (.blk (p2 39).g 38 (giv p (.slice q7.a p.reports.l.length q7.c) (.slice q9.a l9.length q9.c) (.slice q14.a p.pairs.l.length q14.c) (.slice q15.a p.slices.l.length q15.c) (.slice q16.a p.entries.l.length q16.c) (.slice q18.a l18.length q18.c) (.slice x.p.a x.n x.p.c) (.slice none 0 0)))), (44, some (.row w.heap.size 116 5 (.slice x.p.a x.n x.p.c) x.n x.xs))]) (fun k (x : Lx Unit) => x.n = k ∧ x.xs = (p.stats.l.take k).flatMap Sta.cells) ⟨⟨0, 0, undef, none⟩, 0, [], ()⟩ (by have := hs.stats; omega) ⟨rfl, rfl⟩ (fun k x a u hk hI hE hS K hK R hR => ?_) fun ⟨q24, m, xs, _⟩ a u hI hE hS => ?_
  · obtain ⟨hn, hx⟩ := hI
    have hb := hs.stats
    have hS := stp_el hS 90 (el_at h.stats (fun _ _ => rfl) rfl (fun g hg => ⟨hg, id⟩) k hk (by omega))
    generalize hr : p.stats.l[k] = r at hS
    refine rgp hE hS [ie 90, le 90 0, nw 91, st 91] (fun p30 => kp [(23, pt (p30 2).g 0)]) (fun p30 => kP [(91, some (.blk (p30 2).g 117 (Sta.cells r).toArray))]) (fun _ => ⟨kr (show k < p.stats.l.length from hk), trivial⟩) fun p30 a u hE hS => ?_
    refine rgE hE hS [pu, ld 3, ld 91, nw 92, ap 44 [92], pu, st 3] (fun _ => kp []) (fun p31 => kP [(44, some (.row w.heap.size 116 5 (.slice (p31 4).a (x.n + 1) (p31 4).c) (x.n + 1) (x.xs ++ Sta.cells r))), (3, some (.blk (p2 39).g 38 (giv p (.slice q7.a p.reports.l.length q7.c) (.slice q9.a l9.length q9.c) (.slice q14.a p.pairs.l.length q14.c) (.slice q15.a p.slices.l.length q15.c) (.slice q16.a p.entries.l.length q16.c) (.slice q18.a l18.length q18.c) (.slice (p31 4).a (x.n + 1) (p31 4).c) (.slice none 0 0))))]) (fun _ => ⟨kr (show w.heap.size ≤ w.heap.size ∧ (x.n + 1) * 32 ≤ 140737488355328 ∧ ∀ u ∈ Sta.cells r, u.oneCell' = true from ⟨Nat.le_refl _, by omega, by simp [Sta.cells, Sl.val, Value.oneCell']⟩), trivial⟩) fun p31 a u hE hS => ?_
    exact hK ⟨(p31 4), x.n + 1, x.xs ++ Sta.cells r, ()⟩ a u _ _ ⟨congrArg (· + 1) hn, by rw [hx, flat_take_succ _ _ _ hk, hr]⟩ hE hS (by kernel_rfl)
  simp only [List.take_length] at hI
  obtain ⟨h1, h2⟩ := hI
  subst h1 h2
  refine wp_seq ?_
  refine rg hE hS [pu, ld 1, pu, pu] (fun _ => kn [(200, .slice p.deltas.A (p.deltas.l.length : Nat) p.deltas.c), (201, .int .i64 (p.deltas.l.length : Nat)), (202, .int .i64 0)] [2, 3]) (fun _ => kN [] [44, 68, 38, 36, 35, 34, 59, 29, 27, 2, 3]) fun _ a u hE hS => ?_
  have hS := stp_row0 hS 45 w.heap.size 119 2
  refine range_up hE hS 202 p.deltas.l.length (fun _ _ => kd [202, 203, 212] []) (fun k x => kP [(3, some (.blk (p2 39).g 38 (giv p (.slice q7.a p.reports.l.length q7.c) (.slice q9.a l9.length q9.c) (.slice q14.a p.pairs.l.length q14.c) (.slice q15.a p.slices.l.length q15.c) (.slice q16.a p.entries.l.length q16.c) (.slice q18.a l18.length q18.c) (.slice q24.a p.stats.l.length q24.c) (.slice x.p.a x.n x.p.c)))), (45, some (.row w.heap.size 119 2 (.slice x.p.a x.n x.p.c) x.n x.xs))]) (fun k (x : Lx Unit) => x.n = k ∧ x.xs = (p.deltas.l.take k).flatMap Dlt.cells) ⟨⟨0, 0, undef, none⟩, 0, [], ()⟩ (by have := hs.deltas; omega) ⟨rfl, rfl⟩ (fun k x a u hk hI hE hS K hK R hR => ?_) fun ⟨q25, m, xs, _⟩ a u hI hE hS => ?_
  · obtain ⟨hn, hx⟩ := hI
    have hb := hs.deltas
    have hS := stp_el hS 90 (el_at h.deltas (fun _ _ => rfl) rfl (fun g hg => ⟨hg, id⟩) k hk (by omega))
    generalize hr : p.deltas.l[k] = r at hS
    refine rgp hE hS [ie 90, le 90 0, nw 91, st 91] (fun p33 => kp [(25, pt (p33 2).g 0)]) (fun p33 => kP [(91, some (.blk (p33 2).g 120 (Dlt.cells r).toArray))]) (fun _ => ⟨kr (show k < p.deltas.l.length from hk), trivial⟩) fun p33 a u hE hS => ?_
    refine rgE hE hS [pu, ld 3, ld 91, nw 92, ap 45 [92], pu, st 3] (fun _ => kp []) (fun p34 => kP [(45, some (.row w.heap.size 119 2 (.slice (p34 4).a (x.n + 1) (p34 4).c) (x.n + 1) (x.xs ++ Dlt.cells r))), (3, some (.blk (p2 39).g 38 (giv p (.slice q7.a p.reports.l.length q7.c) (.slice q9.a l9.length q9.c) (.slice q14.a p.pairs.l.length q14.c) (.slice q15.a p.slices.l.length q15.c) (.slice q16.a p.entries.l.length q16.c) (.slice q18.a l18.length q18.c) (.slice q24.a p.stats.l.length q24.c) (.slice (p34 4).a (x.n + 1) (p34 4).c))))]) (fun _ => ⟨kr (show w.heap.size ≤ w.heap.size ∧ (x.n + 1) * 16 ≤ 140737488355328 ∧ ∀ u ∈ Dlt.cells r, u.oneCell' = true from ⟨Nat.le_refl _, by omega, by simp [Dlt.cells, Value.oneCell']⟩), trivial⟩) fun p34 a u hE hS => ?_
    exact hK ⟨(p34 4), x.n + 1, x.xs ++ Dlt.cells r, ()⟩ a u _ _ ⟨congrArg (· + 1) hn, by rw [hx, flat_take_succ _ _ _ hk, hr]⟩ hE hS (by kernel_rfl)
  simp only [List.take_length] at hI
  obtain ⟨h1, h2⟩ := hI
  subst h1 h2
  refine rg hE hS [ld 3, st 2] (fun _ => kp []) (fun _ => kP [(2, some (.blk (p1 1).g 38 (giv p (.slice q7.a p.reports.l.length q7.c) (.slice q9.a l9.length q9.c) (.slice q14.a p.pairs.l.length q14.c) (.slice q15.a p.slices.l.length q15.c) (.slice q16.a p.entries.l.length q16.c) (.slice q18.a l18.length q18.c) (.slice q24.a p.stats.l.length q24.c) (.slice q25.a p.deltas.l.length q25.c))))]) fun _ a u hE hS => ?_
  refine wp_ret ?_
  exact retc hE hS Tryz.results20 2 (p1 1).g 38 (Pkt.cells (⟨p.kind, p.sender, p.media, p.ntp, p.rtp, p.packets, p.octets, ⟨q7.a, q7.c, p.reports.l⟩, p.ext, ⟨q9.a, q9.c, l9⟩, p.sources, p.text, p.sub, p.data, ⟨q14.a, q14.c, p.pairs.l⟩, ⟨q15.a, q15.c, p.slices.l⟩, ⟨q16.a, q16.c, p.entries.l⟩, p.bits, ⟨q18.a, q18.c, l18⟩, p.time, p.base, p.count, p.ref, p.fb, ⟨q24.a, q24.c, p.stats.l⟩, ⟨q25.a, q25.c, p.deltas.l⟩, p.hpad, p.hcount, p.htype, p.hlen⟩ : Pkt)) ⟨(⟨p.kind, p.sender, p.media, p.ntp, p.rtp, p.packets, p.octets, ⟨q7.a, q7.c, p.reports.l⟩, p.ext, ⟨q9.a, q9.c, l9⟩, p.sources, p.text, p.sub, p.data, ⟨q14.a, q14.c, p.pairs.l⟩, ⟨q15.a, q15.c, p.slices.l⟩, ⟨q16.a, q16.c, p.entries.l⟩, p.bits, ⟨q18.a, q18.c, l18⟩, p.time, p.base, p.count, p.ref, p.fb, ⟨q24.a, q24.c, p.stats.l⟩, ⟨q25.a, q25.c, p.deltas.l⟩, p.hpad, p.hcount, p.htype, p.hlen⟩ : Pkt), ⟨rfl, rfl, rfl, rfl, rfl, rfl, rfl, rfl, rfl, hm_chunks, rfl, rfl, rfl, rfl, rfl, rfl, rfl, rfl, hm_blocks, rfl⟩, rfl, ⟨InRows.of_own (c := q7.c) (pcR (base := w.heap.size) (e := 85) hS 27), InRows.of_own (c := q9.c) (pcR (base := w.heap.size) (e := 89) hS 29), fun x hx => InRows.of_own (own_itemsP (B := w.heap.size) (l := l9) hS 59 x hx), InRows.of_own (c := q14.c) (pcR (base := w.heap.size) (e := 97) hS 34), InRows.of_own (c := q15.c) (pcR (base := w.heap.size) (e := 100) hS 35), InRows.of_own (c := q16.c) (pcR (base := w.heap.size) (e := 103) hS 36), InRows.of_own (c := q18.c) (pcR (base := w.heap.size) (e := 107) hS 38), fun x hx => InRows.of_own (own_metsP (B := w.heap.size) (l := l18) hS 68 x hx), InRows.of_own (c := q24.c) (pcR (base := w.heap.size) (e := 116) hS 44), InRows.of_own (c := q25.c) (pcR (base := w.heap.size) (e := 119) hS 45)⟩, ⟨rfl, rfl, rfl, rfl, rfl, rfl⟩, hS.below⟩ Tryz.underlying38
end Go.Proofs.YtmmfpgoodfgkbaaGreat
