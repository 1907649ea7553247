/-
  THE WALK of the thin package's plain form of transport-wide feedback. Condition: the packet's block, its chunks, their lists and its deltas lie in memory.
-/
import Derived.Test.YtmmfpgoodfgkbaaGreatDoorUm13
import Derived.Test.YtmmfpgoodfgkbaaGreatDoorPl2
import Derived.Test.YtmmfpgoodfgkbaaGreatDoorMBl
import Derived.Test.YtmmfpgoodfgkbaaGreatDoorMClone
namespace Go.Proofs.YtmmfpgoodfgkbaaGreatDoor
open Go Go.RowKit
set_option maxHeartbeats 4000000
set_option maxRecDepth 100000
set_option linter.unusedVariables false
set_option linter.unusedSimpArgs false

theorem u16c_oneP (l : List Int) : ∀ u ∈ l.flatMap u16c, u.oneCell' = true := by
 intro u hu
 obtain ⟨x, _, hx⟩ := List.mem_flatMap.1 hu
 simp [u16c] at hx
 subst hx
 rfl
theorem el_blk {w : World} {g : Nat} {T : TypeId} {cs : Array Value} (hb : Blk w g T cs) : ElAt (fun _ => False) w (some ⟨g, 0, none⟩) 0 cs.toList :=
 ⟨g, 0, rfl, fun j v hj => by rw [Nat.add_zero, Nat.zero_add]; exact (hb.cell j).trans (by simpa using hj), fun _ => ⟨hb.lt, id⟩⟩
theorem Pkt.NewX.wide {q : Pkt} {w : World} {B C B' D : Nat} (h : q.NewX w B C) (hl : ∀ g, B ≤ g ∧ g < C → B' ≤ g ∧ g < D) : q.NewX w B' D :=
 ⟨⟨h.new.reports.wide hl, h.new.chunks.wide hl, fun x hx => (h.new.items x hx).wide hl, h.new.pairs.wide hl, h.new.slices.wide hl, h.new.entries.wide hl, h.new.blocks.wide hl, fun x hx => (h.new.mets x hx).wide hl, h.new.stats.wide hl, h.new.deltas.wide hl⟩, h.src.wide hl, fun x hx => (h.lists x hx).wide hl, h.ext.wide hl, h.data.wide hl⟩
theorem cu_plT {w0 : World} {ps : List (Option Pc)} (f : FuncId) (args : Array Value) (k : Nat) (R : Pkt → Prop)
  (h : ∀ w, Below w0.heap.size w0 w → w0.heap.size ≤ w.heap.size → Calls Tryz.prog f args w (PlainOut w R))
  (L : PL) (w : World) (_ : ps = ([] ++ [k]).map (lookP L)) (hS : Stp (fun _ => False) w0 w (restr ([] ++ [k]) (lookM (den (fun _ => False) w0 L)))) :
  Calls Tryz.prog f args w fun e w' => ∃ x : Pay, e = .returned (.agg (dP x.v).cells) ∧ Stp (blksOf (lookM (den (fun _ => False) w0 L)) [k]) w w' (lookM (den (fun _ => False) w0 (zipW [k] [some (.ck (ckQ R x))]))) := by
 refine (h w hS.below hS.size).mono ?_
 rintro e w' ⟨q, rfl, hB, hN, hR⟩
 refine ⟨⟨w.heap.size, w'.heap.size, vP q, none⟩, by rw [dP_v], ?_⟩
 exact stp_make (c' := .ck (ckQ R ⟨w.heap.size, w'.heap.size, vP q, none⟩)) hB ⟨by rw [dP_v]; exact hN, by rw [dP_v]; exact hR⟩ fun y hy => ⟨hy.2, hy.1⟩
theorem phdr_any (b : Bool) (c t l : Int) (w : World) : Calls Tryz.prog 23 #[.agg #[.bool b, .int .u8 c, .int .u8 t, .int .u16 l]] w fun e w' => e = .returned (.agg #[.bool b, .int .u8 c, .int .u8 t, .int .u16 l]) ∧ Below w.heap.size w w' := by
 refine go_in Tryz.func23 rfl Tryz.ntmps23 [.agg #[.bool b, .int .u8 c, .int .u8 t, .int .u16 l]] fun a hE => ?_
 have hS := stp_in w
 refine rg hE hS [nw 100, nw 102] (fun p1 => kp [(1, pt (p1 0).g 0), (2, pt (p1 1).g 0)]) (fun p1 => kP [(100, some (.blk (p1 0).g 83 #[.bool b, .int .u8 c, .int .u8 t, .int .u16 l])), (102, some (.blk (p1 1).g 44 #[.bool false, .int .u8 0, .int .u8 0, .int .u16 0]))]) fun p1 a u hE hS => ?_
 refine rg hE hS [pu, ld 100, pu, ld 100, pu, ld 100, pu, ld 100, pu, st 102] kp0 (fun _ => kP [(102, some (.blk (p1 1).g 44 #[.bool b, .int .u8 c, .int .u8 t, .int .u16 l]))]) fun _ a u hE hS => ?_
 refine wp_ret ?_
 exact retc hE hS Tryz.results23 102 (p1 1).g 44 #[.bool b, .int .u8 c, .int .u8 t, .int .u16 l] ⟨rfl, hS.below⟩ Tryz.underlying44

def cs13P (L : Nat) (sd md bs C rf fb : Int) (st dl : Value) : Array Value := #[.int .i64 13, .int .u32 sd, .int .u32 md, .int .u64 0, .int .u32 0, .int .u32 0, .int .u32 0, .slice none 0 0, .slice none 0 0, .slice none 0 0, .slice none 0 0, .string ByteArray.empty, .int .u8 0, .slice none 0 0, .slice none 0 0, .slice none 0 0, .slice none 0 0, .int .u32 0, .slice none 0 0, .int .u32 0, .int .u16 bs, .int .u16 C, .int .u32 rf, .int .u8 fb, st, dl, .bool false, .int .u8 (15 : Nat), .int .u8 205, .int .u16 (L : Nat)]
theorem plT_any (L : Nat) (sd md bs C rf fb : Int) (A A2 : Option Addr) (c1 c2 : Nat) (cvs : List (Nat × Sta)) (gs : List Nat) (ds : List Dlt) (g : Nat) (w : World) (hb : Blk w g 238 (cs13U L sd md bs C rf fb (.slice A (cvs.length : Nat) c1) (.slice A2 (gs.length : Nat) c2))) (hr1 : Reads w w.heap.size 1 A cvs.length (cvs.flatMap fun c => [cval c])) (hbk : ∀ c ∈ cvs, Blk w c.1 (cblk c).2.1 (cblk c).2.2) (hli : ∀ c ∈ cvs, Reads w w.heap.size 1 c.2.list.A c.2.list.l.length (c.2.list.l.flatMap u16c)) (hll : ∀ c ∈ cvs, c.2.list.l.length ≤ 1048576) (hsh : ∀ c ∈ cvs, (c.2.vec = true → c.2.sym = 0 ∧ c.2.run = 0) ∧ (c.2.vec = false → c.2.size = 0 ∧ c.2.list.l = [])) (hr2 : Reads w w.heap.size 1 A2 gs.length (gs.flatMap fun g => [.pointer (some ⟨g, 0, none⟩)])) (hgl : gs.length = ds.length) (hbd : ∀ (i gd : Nat) (d : Dlt), gs[i]? = some gd → ds[i]? = some d → Blk w gd 249 #[.int .u16 d.ty, .int .i64 d.d]) (hl1 : cvs.length ≤ 1048576) (hl2 : gs.length ≤ 1048576) :
  Calls Tryz.prog 108 #[.pointer (some ⟨g, 0, none⟩)] w (PlainOut w (fun q => ∃ (B : Option Addr) (c : Nat) (l2 : List Sta) (B2 : Option Addr) (c3 : Nat), l2.map Sta.cln = cvs.map (fun c => c.2.cln) ∧ q = { pNul with kind := 13, sender := sd, media := md, base := bs, count := C, ref := rf, fb := fb, hpad := false, hcount := 15, htype := 205, hlen := L, stats := ⟨B, c, l2⟩, deltas := ⟨B2, c3, ds⟩ })) := by
 refine go_in Tryz.func108 rfl Tryz.ntmps108 [pt g 0] fun a hE => ?_
 have hS := stp_in w
 have hS := stp_oldB hS 101 hb
 refine rg hE hS [nw 102] (fun p1 => kp [(2, pt (p1 0).g 0)]) (fun p1 => kP [(102, some (.blk (p1 0).g 56 zP))]) fun p1 a u hE hS => ?_
 refine dgp hE hS [pu, pu, pu, lo 101 0, cu 23 [] [] (fun _ => .agg #[.bool false, .int .u8 (15 : Nat), .int .u8 205, .int .u16 (L : Nat)]) (fun _ => []), pu, pu, pu, lo 101 4, pu, pu, pu, lo 101 5, pu, pu, pu, lo 101 6, pu, pu, pu, lo 101 7, pu, pu, pu, lo 101 8, pu, pu, pu, lo 101 9, pu, nw 103, st 103] (fun p2 => kp [(3, pt (p2 30).g 0)]) (fun p2 => kP [(103, some (.blk (p2 30).g 56 ((cs13P L sd md bs C rf fb (.slice none 0 0) (.slice none 0 0)))))]) (fun _ => ⟨kr (cu_nil (w0 := w) (olds := fun _ => False) 23 #[.agg #[.bool false, .int .u8 (15 : Nat), .int .u8 205, .int .u16 (L : Nat)]] (.agg #[.bool false, .int .u8 (15 : Nat), .int .u8 205, .int .u16 (L : Nat)]) (phdr_any _ _ _ _)), trivial⟩) fun p2 a u hE hS => ?_
 refine wp_seq ?_
 refine rg hE hS [pu, pu, pu, lo 101 10, pu, pu] (fun _ => kn [(43, .slice A (cvs.length : Nat) c1), (44, .int .i64 (cvs.length : Nat)), (45, .int .i64 0)] [0, 2, 3]) (fun _ => kN [] [103, 101, 102]) fun _ a u hE hS => ?_
 have hS := stp_row0 hS 1 w.heap.size 130 5
 have hS := stp_syms0 hS 3 w.heap.size
 refine range_up hE hS 45 cvs.length (fun _ _ => kd [45, 46, 85] []) (fun _ x => kP [(103, some (.blk (p2 30).g 56 ((cs13P L sd md bs C rf fb (.slice x.p.a x.n x.p.c) (.slice none 0 0))))), (1, some (.row w.heap.size 130 5 (.slice x.p.a x.n x.p.c) x.n x.xs)), (3, some (ckSyms w.heap.size x.y.2))]) (fun k (x : Lx (List Sta × List (Sl Int))) => x.n = k ∧ x.xs = x.y.1.flatMap Sta.cells ∧ x.y.1.map Sta.cln = (cvs.take k).map (fun c => c.2.cln) ∧ x.y.1.length = k ∧ (∀ s ∈ x.y.1, s.list.l = [] ∨ s.list ∈ x.y.2)) ⟨pay0, 0, [], [], []⟩ (by omega) (⟨rfl, rfl, rfl, rfl, fun c hc => (by cases hc)⟩) (fun k x a u hk hI hE hS K hK RK hRK => ?_) fun ⟨qq, n1, xs1, ll, rw⟩ a u hI hE hS => ?_
 ·obtain ⟨hk1, hk2, hk3, hk4, hk5⟩ := hI
  obtain ⟨xp, xn, xs, sl, rows⟩ := x
  simp only at hk1 hk2 hk3 hk4 hk5
  have hS := stp_el hS 90 (el_at hr1 (fun _ _ => rfl) rfl (fun g hg => ⟨hg, id⟩) k hk (by omega))
  have hcb := hbk cvs[k] (List.getElem_mem _)
  have hcl := hli cvs[k] (List.getElem_mem _)
  have hcs := hsh cvs[k] (List.getElem_mem _)
  have hcn := hll cvs[k] (List.getElem_mem _)
  obtain ⟨r, hrk⟩ : ∃ r, cvs[k] = r := ⟨_, rfl⟩
  rw [hrk] at hS hcb hcl hcs hcn
  obtain ⟨cg, vec, sym, sz, run, li⟩ := r
  simp only at hcl hcs hcn
  cases vec
  ·skip
   obtain ⟨rfl, hl0⟩ := hcs.2 rfl
   refine rgp hE hS [ie 90, le 90 0, pu] (fun _ => kp [(5, .iface 245 (pt cg 0))]) kP0 (fun _ => ⟨kr (show k < cvs.length from hk), trivial⟩) fun _ a u hE hS => ?_
   have hE := end_env (s := ⟨_, []⟩) (s' := ⟨[(0, pt g 0), (2, pt (p1 0).g 0), (3, pt (p2 30).g 0), (43, .slice A (cvs.length : Nat) c1), (44, .int .i64 (cvs.length : Nat)), (45, .int .i64 (k : Nat)), (5, .iface 245 (pt cg 0))], []⟩) (fst_snd (by kernel_rfl)) hE
   have hS := end_mem (s := ⟨[], _⟩) (s' := ⟨[], [(90, some (.el A (k * 1) ([.iface 245 (pt cg 0)]))), (3, some (ckSyms w.heap.size rows)), (1, some (.row w.heap.size 130 5 (.slice xp.a xn xp.c) xn xs)), (103, some (.blk (p2 30).g 56 ((cs13P L sd md bs C rf fb (.slice xp.a xn xp.c) (.slice none 0 0))))), (101, some (.old g 0 ((cs13U L sd md bs C rf fb (.slice A (cvs.length : Nat) c1) (.slice A2 (gs.length : Nat) c2)).toList))), (102, some (.blk (p1 0).g 56 zP))]⟩) (fst_snd (by kernel_rfl)) hS
   refine rg hE hS [pu] (fun _ => kp [(49, .iface 245 (pt cg 0))]) kP0 fun _ a u hE hS => wp_block ?_
   refine rg hE hS [pu, pu, pu] (fun _ => kp [(51, .bool false), (52, .pointer none)]) kP0 fun _ a u hE hS => iff hE ?_
   refine rg hE hS [pu, pu, pu] (fun _ => kp [(69, .bool true), (70, pt cg 0)]) kP0 fun _ a u hE hS => ift hE ?_
   refine rg hE hS [pu] (fun _ => kp [(7, pt cg 0)]) kP0 fun _ a u hE hS => ?_
   have hE := end_env (s := ⟨_, []⟩) (s' := ⟨[(0, pt g 0), (2, pt (p1 0).g 0), (3, pt (p2 30).g 0), (43, .slice A (cvs.length : Nat) c1), (44, .int .i64 (cvs.length : Nat)), (45, .int .i64 (k : Nat)), (7, pt cg 0)], []⟩) (fst_snd (by kernel_rfl)) hE
   have hS := end_mem (s := ⟨[], _⟩) (s' := ⟨[], [(90, some (.el A (k * 1) ([.iface 245 (pt cg 0)]))), (3, some (ckSyms w.heap.size rows)), (1, some (.row w.heap.size 130 5 (.slice xp.a xn xp.c) xn xs)), (103, some (.blk (p2 30).g 56 ((cs13P L sd md bs C rf fb (.slice xp.a xn xp.c) (.slice none 0 0))))), (101, some (.old g 0 ((cs13U L sd md bs C rf fb (.slice A (cvs.length : Nat) c1) (.slice A2 (gs.length : Nat) c2)).toList))), (102, some (.blk (p1 0).g 56 zP))]⟩) (fst_snd (by kernel_rfl)) hS
   have hS := stp_el hS 91 (el_blk hcb)
   refine dgE hE hS [pu, ld 103, pu, pu, pu, le 91 2, pu, pu, pu, le 91 3, pu, nw 92, ap 1 [92], pu, st 103] kp0 (fun p9 => kP [(103, some (.blk (p2 30).g 56 ((cs13P L sd md bs C rf fb (.slice (p9 12).a (xn + 1) (p9 12).c) (.slice none 0 0))))), (1, some (.row w.heap.size 130 5 (.slice (p9 12).a (xn + 1) (p9 12).c) (xn + 1) (xs ++ Sta.cells (⟨false, sym, 0, run, ⟨none, 0, []⟩⟩ : Sta))))]) (fun _ => ⟨kr (show w.heap.size ≤ w.heap.size ∧ (xn + 1) * 32 ≤ 140737488355328 ∧ ∀ u ∈ Sta.cells (⟨false, sym, 0, run, ⟨none, 0, []⟩⟩ : Sta), u.oneCell' = true from ⟨Nat.le_refl _, by omega, by intro u hu; simp [Sta.cells, Sl.val] at hu; rcases hu with rfl | rfl | rfl | rfl | rfl <;> rfl⟩), trivial⟩) fun p9 a u hE hS => ?_
   exact hK ⟨(p9 12), xn + 1, xs ++ Sta.cells (⟨false, sym, 0, run, ⟨none, 0, []⟩⟩ : Sta), sl ++ [(⟨false, sym, 0, run, ⟨none, 0, []⟩⟩ : Sta)], rows⟩ a u _ _ ⟨congrArg (· + 1) hk1, by show xs ++ _ = _; rw [hk2]; simp, by show (sl ++ [_]).map _ = _; rw [List.map_append, hk3, List.take_succ_eq_append_getElem hk, List.map_append, hrk]; simp [Sta.cln, hl0], by show (sl ++ [_]).length = _; simp [hk4], fun s hs => by
     rcases List.mem_append.1 hs with h | h
     ·exact (hk5 s h).imp id fun h => h
     ·rw [List.mem_singleton.1 h]; exact (.inl rfl)⟩ hE hS (by kernel_rfl)
  obtain ⟨rfl, rfl⟩ := hcs.1 rfl
  refine rgp hE hS [ie 90, le 90 0, pu] (fun _ => kp [(5, .iface 239 (pt cg 0))]) kP0 (fun _ => ⟨kr (show k < cvs.length from hk), trivial⟩) fun _ a u hE hS => ?_
  refine rg hE hS [pu] (fun _ => kp [(49, .iface 239 (pt cg 0))]) kP0 fun _ a u hE hS => wp_block ?_
  refine rg hE hS [pu, pu, pu] (fun _ => kp [(51, .bool true), (52, pt cg 0)]) kP0 fun _ a u hE hS => ?_
  have hE := end_env (s := ⟨_, []⟩) (s' := ⟨[(0, pt g 0), (2, pt (p1 0).g 0), (3, pt (p2 30).g 0), (43, .slice A (cvs.length : Nat) c1), (44, .int .i64 (cvs.length : Nat)), (45, .int .i64 (k : Nat)), (49, .iface 239 (pt cg 0)), (51, .bool true), (52, pt cg 0)], []⟩) (fst_snd (by kernel_rfl)) hE
  have hS := end_mem (s := ⟨[], _⟩) (s' := ⟨[], [(90, some (.el A (k * 1) ([.iface 239 (pt cg 0)]))), (3, some (ckSyms w.heap.size rows)), (1, some (.row w.heap.size 130 5 (.slice xp.a xn xp.c) xn xs)), (103, some (.blk (p2 30).g 56 ((cs13P L sd md bs C rf fb (.slice xp.a xn xp.c) (.slice none 0 0))))), (101, some (.old g 0 ((cs13U L sd md bs C rf fb (.slice A (cvs.length : Nat) c1) (.slice A2 (gs.length : Nat) c2)).toList))), (102, some (.blk (p1 0).g 56 zP))]⟩) (fst_snd (by kernel_rfl)) hS
  refine ift hE ?_
  refine rg hE hS [pu] (fun _ => kp [(6, pt cg 0)]) kP0 fun _ a u hE hS => ?_
  have hS := stp_el hS 91 (el_blk hcb)
  refine dgE hE hS [pu, ld 103, pu, pu, pu, le 91 2, pu, pu, pu, le 91 3, cu 98 [] [94] (fun y => .slice y.a li.l.length y.c) (fun y => [some (.row w.heap.size 32 1 (.slice y.a li.l.length y.c) li.l.length (li.l.flatMap u16c))]), pu, nw 92, ap 1 [92], pu, st 103] kp0 (fun p14 => kP [(103, some (.blk (p2 30).g 56 ((cs13P L sd md bs C rf fb (.slice (p14 13).a (xn + 1) (p14 13).c) (.slice none 0 0))))), (1, some (.row w.heap.size 130 5 (.slice (p14 13).a (xn + 1) (p14 13).c) (xn + 1) (xs ++ Sta.cells (⟨true, 0, sz, 0, ⟨(p14 10).a, (p14 10).c, li.l⟩⟩ : Sta)))), (94, some (.row w.heap.size 32 1 (.slice (p14 10).a li.l.length (p14 10).c) li.l.length (li.l.flatMap u16c)))]) (fun p14 => ⟨kr (cu_rowP (P := Tryz.prog) (w0 := w) (ps := [none]) 98 #[.slice li.A (li.l.length : Nat) li.c] 94 32 1 li.l.length (li.l.flatMap u16c) (fun w4 hB hz => clone16 w4.heap.size li.A li.l.length li.c (li.l.flatMap u16c) w4 ((Reads.below hcl hB).more hz) (u16c_oneP _) (Nat.le_refl _) (by omega))), kr (show w.heap.size ≤ w.heap.size ∧ (xn + 1) * 32 ≤ 140737488355328 ∧ ∀ u ∈ Sta.cells (⟨true, 0, sz, 0, ⟨(p14 10).a, (p14 10).c, li.l⟩⟩ : Sta), u.oneCell' = true from ⟨Nat.le_refl _, by omega, by intro u hu; simp [Sta.cells, Sl.val] at hu; rcases hu with rfl | rfl | rfl | rfl | rfl <;> rfl⟩), trivial⟩) fun p14 a u hE hS => ?_
  have hS := stp_syms (B := w.heap.size) (l := rows) hS 3 94 (⟨(p14 10).a, (p14 10).c, li.l⟩ : Sl Int) (by decide)
  exact hK ⟨(p14 13), xn + 1, xs ++ Sta.cells (⟨true, 0, sz, 0, ⟨(p14 10).a, (p14 10).c, li.l⟩⟩ : Sta), sl ++ [(⟨true, 0, sz, 0, ⟨(p14 10).a, (p14 10).c, li.l⟩⟩ : Sta)], rows ++ [⟨(p14 10).a, (p14 10).c, li.l⟩]⟩ a u _ _ ⟨congrArg (· + 1) hk1, by show xs ++ _ = _; rw [hk2]; simp, by show (sl ++ [_]).map _ = _; rw [List.map_append, hk3, List.take_succ_eq_append_getElem hk, List.map_append, hrk]; rfl, by show (sl ++ [_]).length = _; simp [hk4], fun s hs => by
    rcases List.mem_append.1 hs with h | h
    ·exact (hk5 s h).imp id fun h => List.mem_append_left _ h
    ·rw [List.mem_singleton.1 h]; exact (.inr (List.mem_append_right _ (List.mem_singleton.2 rfl)))⟩ hE hS (by kernel_rfl)
 simp only [List.take_length] at hI
 obtain ⟨h1, h2, hm, h4, h5⟩ := hI
 rw [← h4] at h1
 subst h1 h2
 refine wp_seq ?_
 refine rg hE hS [pu, pu, pu, lo 101 11, pu, pu] (fun _ => kn [(89, .slice A2 (gs.length : Nat) c2), (90, .int .i64 (gs.length : Nat)), (91, .int .i64 0)] [2, 3]) (fun _ => kN [] [3, 1, 103, 101, 102]) fun _ a u hE hS => ?_
 have hS := stp_row0 hS 2 w.heap.size 133 2
 refine range_up hE hS 91 gs.length (fun _ _ => kd [91, 92, 109] []) (fun _ x => kP [(103, some (.blk (p2 30).g 56 ((cs13P L sd md bs C rf fb (.slice qq.a ll.length qq.c) (.slice x.p.a x.n x.p.c))))), (2, some (.row w.heap.size 133 2 (.slice x.p.a x.n x.p.c) x.n x.xs))]) (fun i (x : Lx Unit) => x.n = i ∧ x.xs = (ds.take i).flatMap Dlt.cells) ⟨pay0, 0, [], ()⟩ (by omega) (⟨rfl, by simp⟩) (fun i x a u hi hI hE hS K3 hK3 RK3 hRK3 => ?_) fun ⟨vq, n2, xs2, _⟩ a u hI hE hS => ?_
 ·obtain ⟨hi1, hi2⟩ := hI
  obtain ⟨vp, vn, vs, _⟩ := x
  simp only at hi1 hi2
  have hS := stp_el hS 90 (el_at hr2 (fun _ _ => rfl) rfl (fun g hg => ⟨hg, id⟩) i hi (by omega))
  have hid : i < ds.length := by omega
  have hdb := hbd i gs[i] ds[i] (List.getElem?_eq_getElem hi) (List.getElem?_eq_getElem hid)
  obtain ⟨gd, hgd⟩ : ∃ r, gs[i] = r := ⟨_, rfl⟩
  obtain ⟨d, hdd⟩ : ∃ r, ds[i] = r := ⟨_, rfl⟩
  rw [hgd] at hS hdb
  rw [hdd] at hdb
  have hS := stp_el hS 91 (el_blk hdb)
  have hE := end_env (s := ⟨_, []⟩) (s' := ⟨[(2, pt (p1 0).g 0), (3, pt (p2 30).g 0), (89, .slice A2 (gs.length : Nat) c2), (90, .int .i64 (gs.length : Nat)), (91, .int .i64 (i : Nat))], []⟩) (fst_snd (by kernel_rfl)) hE
  have hS := end_mem (s := ⟨[], _⟩) (s' := ⟨[], [(91, some (.el (some ⟨gd, 0, none⟩) 0 ([.int .u16 d.ty, .int .i64 d.d]))), (90, some (.el A2 (i * 1) ([pt gd 0]))), (2, some (.row w.heap.size 133 2 (.slice vp.a vn vp.c) vn vs)), (3, some (ckSyms w.heap.size rw)), (1, some (.row w.heap.size 130 5 (.slice qq.a ll.length qq.c) ll.length (ll.flatMap Sta.cells))), (103, some (.blk (p2 30).g 56 ((cs13P L sd md bs C rf fb (.slice qq.a ll.length qq.c) (.slice vp.a vn vp.c))))), (101, some (.old g 0 ((cs13U L sd md bs C rf fb (.slice A (cvs.length : Nat) c1) (.slice A2 (gs.length : Nat) c2)).toList))), (102, some (.blk (p1 0).g 56 zP))]⟩) (fst_snd (by kernel_rfl)) hS
  refine rgp hE hS [ie 90, le 90 0, pu] (fun _ => kp [(9, pt gd 0)]) kP0 (fun _ => ⟨kr (show i < gs.length from hi), trivial⟩) fun _ a u hE hS => ?_
  refine dgE hE hS [pu, ld 103, pu, pu, pu, le 91 0, pu, pu, pu, le 91 1, pu, nw 92, ap 2 [92], pu, st 103] kp0 (fun p17 => kP [(103, some (.blk (p2 30).g 56 ((cs13P L sd md bs C rf fb (.slice qq.a ll.length qq.c) (.slice (p17 12).a (vn + 1) (p17 12).c))))), (2, some (.row w.heap.size 133 2 (.slice (p17 12).a (vn + 1) (p17 12).c) (vn + 1) (vs ++ Dlt.cells d)))]) (fun _ => ⟨kr (show w.heap.size ≤ w.heap.size ∧ (vn + 1) * 16 ≤ 140737488355328 ∧ ∀ u ∈ Dlt.cells d, u.oneCell' = true from ⟨Nat.le_refl _, by omega, by intro u hu; simp [Dlt.cells] at hu; rcases hu with rfl | rfl <;> rfl⟩), trivial⟩) fun p17 a u hE hS => ?_
  exact hK3 ⟨(p17 12), vn + 1, vs ++ Dlt.cells d, ()⟩ a u _ _ ⟨congrArg (· + 1) hi1, by show vs ++ _ = _; rw [hi2, List.take_succ_eq_append_getElem hid, List.flatMap_append, hdd]; simp⟩ hE hS (by kernel_rfl)
 obtain ⟨h6, h7⟩ := hI
 simp only at h6 h7
 rw [hgl, List.take_length] at h7
 subst h6 h7
 refine rg hE hS [ld 103, st 102] kp0 (fun _ => kP [(102, some (.blk (p1 0).g 56 ((cs13P L sd md bs C rf fb (.slice qq.a ll.length qq.c) (.slice vq.a gs.length vq.c)))))]) fun _ a u hE hS => ?_
 refine wp_ret ?_
 rw [hgl] at hS
 have hown := fun x hx => own_syms (B := w.heap.size) (l := rw) hS 3 x hx
 have h1 := InRows.of_own (pcR (base := w.heap.size) (e := 130) (size := 5) (v := .slice qq.a ll.length qq.c) (n := ll.length) (xs := ll.flatMap Sta.cells) hS 1)
 have h2 := InRows.of_own (pcR (base := w.heap.size) (e := 133) (size := 2) (v := .slice vq.a ds.length vq.c) (n := ds.length) (xs := ds.flatMap Dlt.cells) hS 2)
 exact retc hE hS Tryz.results108 102 (p1 0).g 56 ({ pNul with kind := 13, sender := sd, media := md, base := bs, count := C, ref := rf, fb := fb, hpad := false, hcount := 15, htype := 205, hlen := L, stats := ⟨qq.a, qq.c, ll⟩, deltas := ⟨vq.a, vq.c, ds⟩ } : Pkt).cells ⟨({ pNul with kind := 13, sender := sd, media := md, base := bs, count := C, ref := rf, fb := fb, hpad := false, hcount := 15, htype := 205, hlen := L, stats := ⟨qq.a, qq.c, ll⟩, deltas := ⟨vq.a, vq.c, ds⟩ } : Pkt), rfl, hS.below, ⟨⟨.nil, .nil, (fun x hx => by cases hx), .nil, .nil, .nil, .nil, (fun x hx => by cases hx), h1, h2⟩, .nil, (fun x hx => syms_in (h5 x hx) hown), .nil, .nil⟩, ⟨_, _, _, _, _, hm, rfl⟩⟩ Tryz.underlying56

theorem pl_13 (L : Nat) (sd md bs C rf fb : Int) (A A2 : Option Addr) (c1 c2 : Nat) (cvs : List (Nat × Sta)) (gs : List Nat) (ds : List Dlt) (g : Nat) (w : World) (hb : Blk w g 238 (cs13U L sd md bs C rf fb (.slice A (cvs.length : Nat) c1) (.slice A2 (gs.length : Nat) c2))) (hr1 : Reads w w.heap.size 1 A cvs.length (cvs.flatMap fun c => [cval c])) (hbk : ∀ c ∈ cvs, Blk w c.1 (cblk c).2.1 (cblk c).2.2) (hli : ∀ c ∈ cvs, Reads w w.heap.size 1 c.2.list.A c.2.list.l.length (c.2.list.l.flatMap u16c)) (hll : ∀ c ∈ cvs, c.2.list.l.length ≤ 1048576) (hsh : ∀ c ∈ cvs, (c.2.vec = true → c.2.sym = 0 ∧ c.2.run = 0) ∧ (c.2.vec = false → c.2.size = 0 ∧ c.2.list.l = [])) (hr2 : Reads w w.heap.size 1 A2 gs.length (gs.flatMap fun g => [.pointer (some ⟨g, 0, none⟩)])) (hgl : gs.length = ds.length) (hbd : ∀ (i gd : Nat) (d : Dlt), gs[i]? = some gd → ds[i]? = some d → Blk w gd 249 #[.int .u16 d.ty, .int .i64 d.d]) (hl1 : cvs.length ≤ 1048576) (hl2 : gs.length ≤ 1048576) :
  Calls Tryz.prog 78 #[.iface 197 (.pointer (some ⟨g, 0, none⟩))] w (PlainOut w (fun q => ∃ (B : Option Addr) (c : Nat) (l2 : List Sta) (B2 : Option Addr) (c3 : Nat), l2.map Sta.cln = cvs.map (fun c => c.2.cln) ∧ q = { pNul with kind := 13, sender := sd, media := md, base := bs, count := C, ref := rf, fb := fb, hpad := false, hcount := 15, htype := 205, hlen := L, stats := ⟨B, c, l2⟩, deltas := ⟨B2, c3, ds⟩ })) := by
 refine go_in Tryz.func78 rfl Tryz.ntmps78 [.iface 197 (pt g 0)] fun a hE => ?_
 have hS := stp_in w
 have hS := stp_oldB hS 101 hb
 refine rg hE hS [nw 102] (fun p1 => kp [(2, pt (p1 0).g 0)]) (fun p1 => kP [(102, some (.blk (p1 0).g 56 zP))]) fun p1 a u hE hS => ?_
 refine wp_seq ?_
 refine rg hE hS [pu] (fun _ => kp [(26, .iface 197 (pt g 0))]) kP0 fun _ a u hE hS => wp_block ?_
 refine rg hE hS [pu, pu, pu] (fun _ => kp [(28, .bool false), (29, .pointer none)]) kP0 fun _ a u hE hS => iff hE ?_
 refine rg hE hS [pu, pu, pu] (fun _ => kp [(62, .bool false), (63, .pointer none)]) kP0 fun _ a u hE hS => iff hE ?_
 refine rg hE hS [pu, pu, pu] (fun _ => kp [(80, .bool false), (81, .pointer none)]) kP0 fun _ a u hE hS => iff hE ?_
 refine rg hE hS [pu, pu, pu] (fun _ => kp [(86, .bool false), (87, .pointer none)]) kP0 fun _ a u hE hS => iff hE ?_
 refine rg hE hS [pu, pu, pu] (fun _ => kp [(99, .bool false), (100, .pointer none)]) kP0 fun _ a u hE hS => iff hE ?_
 refine rg hE hS [pu, pu, pu] (fun _ => kp [(120, .bool false), (121, .pointer none)]) kP0 fun _ a u hE hS => iff hE ?_
 refine rg hE hS [pu, pu, pu] (fun _ => kp [(153, .bool false), (154, .pointer none)]) kP0 fun _ a u hE hS => iff hE ?_
 refine rg hE hS [pu, pu, pu] (fun _ => kp [(165, .bool false), (166, .pointer none)]) kP0 fun _ a u hE hS => iff hE ?_
 refine rg hE hS [pu, pu, pu] (fun _ => kp [(182, .bool false), (183, .pointer none)]) kP0 fun _ a u hE hS => iff hE ?_
 refine rg hE hS [pu, pu, pu] (fun _ => kp [(194, .bool false), (195, .pointer none)]) kP0 fun _ a u hE hS => iff hE ?_
 refine rg hE hS [pu, pu, pu] (fun _ => kp [(229, .bool false), (230, .pointer none)]) kP0 fun _ a u hE hS => iff hE ?_
 refine rg hE hS [pu, pu, pu] (fun _ => kp [(262, .bool false), (263, .pointer none)]) kP0 fun _ a u hE hS => iff hE ?_
 refine rg hE hS [pu, pu, pu] (fun _ => kp [(280, .bool true), (281, pt g 0)]) kP0 fun _ a u hE hS => ift hE ?_
 refine rg hE hS [pu] (fun _ => kp [(24, pt g 0)]) kP0 fun _ a u hE hS => ?_
 refine rgp hE hS [pu, cu 108 [] [21] (fun x => .agg (dP x.v).cells) (fun x => [some (.ck (ckQ (fun q => ∃ (B : Option Addr) (c : Nat) (l2 : List Sta) (B2 : Option Addr) (c3 : Nat), l2.map Sta.cln = cvs.map (fun c => c.2.cln) ∧ q = { pNul with kind := 13, sender := sd, media := md, base := bs, count := C, ref := rf, fb := fb, hpad := false, hcount := 15, htype := 205, hlen := L, stats := ⟨B, c, l2⟩, deltas := ⟨B2, c3, ds⟩ }) x))]), st 102] kp0 (fun p17 => kP [(102, some (.blk (p1 0).g 56 ((dP (p17 1).v).cells))), (21, some (.ck (ckQ (fun q => ∃ (B : Option Addr) (c : Nat) (l2 : List Sta) (B2 : Option Addr) (c3 : Nat), l2.map Sta.cln = cvs.map (fun c => c.2.cln) ∧ q = { pNul with kind := 13, sender := sd, media := md, base := bs, count := C, ref := rf, fb := fb, hpad := false, hcount := 15, htype := 205, hlen := L, stats := ⟨B, c, l2⟩, deltas := ⟨B2, c3, ds⟩ }) (p17 1))))]) (fun _ => ⟨kr (cu_plT (w0 := w) (ps := [none]) 108 #[.pointer (some ⟨g, 0, none⟩)] 21 (fun q => ∃ (B : Option Addr) (c : Nat) (l2 : List Sta) (B2 : Option Addr) (c3 : Nat), l2.map Sta.cln = cvs.map (fun c => c.2.cln) ∧ q = { pNul with kind := 13, sender := sd, media := md, base := bs, count := C, ref := rf, fb := fb, hpad := false, hcount := 15, htype := 205, hlen := L, stats := ⟨B, c, l2⟩, deltas := ⟨B2, c3, ds⟩ }) (fun w4 hB hz => plT_any L sd md bs C rf fb A A2 c1 c2 cvs gs ds g w4 ((hB.block g hb.lt).trans hb) ((Reads.below hr1 hB).more hz) (fun c hc => (hB.block _ (hbk c hc).lt).trans (hbk c hc)) (fun c hc => (Reads.below (hli c hc) hB).more hz) hll hsh ((Reads.below hr2 hB).more hz) hgl (fun i gd d h1 h2 => (hB.block _ (hbd i gd d h1 h2).lt).trans (hbd i gd d h1 h2)) hl1 hl2)), trivial⟩) fun p17 a u hE hS => ?_
 refine wp_ret (bkR (thR ?_))
 have hq := hS.ok 21 (ckQ (fun q => ∃ (B : Option Addr) (c : Nat) (l2 : List Sta) (B2 : Option Addr) (c3 : Nat), l2.map Sta.cln = cvs.map (fun c => c.2.cln) ∧ q = { pNul with kind := 13, sender := sd, media := md, base := bs, count := C, ref := rf, fb := fb, hpad := false, hcount := 15, htype := 205, hlen := L, stats := ⟨B, c, l2⟩, deltas := ⟨B2, c3, ds⟩ }) (p17 1)) (by kernel_rfl)
 have hwd : ∀ y, (p17 1).g ≤ y ∧ y < (p17 1).c → w.heap.size ≤ y ∧ y < u.heap.size := fun y hy => ⟨(hS.lt 21 (ckQ (fun q => ∃ (B : Option Addr) (c : Nat) (l2 : List Sta) (B2 : Option Addr) (c3 : Nat), l2.map Sta.cln = cvs.map (fun c => c.2.cln) ∧ q = { pNul with kind := 13, sender := sd, media := md, base := bs, count := C, ref := rf, fb := fb, hpad := false, hcount := 15, htype := 205, hlen := L, stats := ⟨B, c, l2⟩, deltas := ⟨B2, c3, ds⟩ }) (p17 1)) (by kernel_rfl) y hy).2.resolve_right id, (hS.lt 21 (ckQ (fun q => ∃ (B : Option Addr) (c : Nat) (l2 : List Sta) (B2 : Option Addr) (c3 : Nat), l2.map Sta.cln = cvs.map (fun c => c.2.cln) ∧ q = { pNul with kind := 13, sender := sd, media := md, base := bs, count := C, ref := rf, fb := fb, hpad := false, hcount := 15, htype := 205, hlen := L, stats := ⟨B, c, l2⟩, deltas := ⟨B2, c3, ds⟩ }) (p17 1)) (by kernel_rfl) y hy).1⟩
 exact retc hE hS Tryz.results78 102 (p1 0).g 56 (dP (p17 1).v).cells ⟨(dP (p17 1).v), rfl, hS.below, (hq.1.wide hwd), hq.2⟩ Tryz.underlying56

end Go.Proofs.YtmmfpgoodfgkbaaGreatDoor
