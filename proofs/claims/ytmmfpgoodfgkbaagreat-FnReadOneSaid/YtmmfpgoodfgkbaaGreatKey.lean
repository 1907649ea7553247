/-
  THE WALK of the reference's Key: what text two equal packets share. Condition: the packet lies in memory; there is room.
-/
import Derived.Test.YtmmfpgoodfgkbaaGreatKeyN
import Derived.Test.YtmmfpgoodfgkbaaGreatRd
import Derived.Test.YtmmfpgoodfgkbaaGreatGivenA
namespace Go.Proofs.YtmmfpgoodfgkbaaGreat
open Go Go.RowKit
set_option linter.unusedVariables false
set_option linter.unusedSimpArgs false

def m64 (x : Int) : Int := x % 18446744073709551616
theorem flat_le {α : Type} (f : α → List Int) {l : List α} {k : Nat} (hk : k < l.length) : ((l.take k).flatMap f).length + (f l[k]).length ≤ (l.flatMap f).length := by
  conv => rhs; rw [← List.take_append_drop (k + 1) l, List.flatMap_append, List.take_succ_eq_append_getElem hk, List.flatMap_append]
  simp
def rtb {olds : Nat → Prop} {w0 : World} (k : Nat) : Step Tryz.prog olds w0 where
  rd := [k]
  wr := []
  skip := false
  must := false
  V i _ := match i.ps with
    | [some (.bytes _ _ l)] => .string (strB l)
    | _ => undef
  W _ _ := []
  chk i := match i.o.op, i.vals, i.ps with
    | .convert t t' _, [.slice A n c], [some (.bytes b v l)] => [(.n t, .n 25), (.n t', .n 9), (.v (.slice A n c), .v (.slice A l.length c)), (.v (.slice A n c), .v v)]
    | _, _, _ => no
  pre _ := True
  ok _ i L a w K Q hc hp hs hv hL hS hK := by
    obtain ⟨o, sem, vals, ps⟩ := i
    revert hc hK hs hv hL
    simp only
    split
    · rename_i t t' y A n c b v l ho
      intro hc hs hv hL hK
      have h1 := hc _ (List.mem_cons_self ..)
      have h2 := hc _ (List.mem_cons_of_mem _ (List.mem_cons_self ..))
      have h3 := hc _ (List.mem_cons_of_mem _ (List.mem_cons_of_mem _ (List.mem_cons_self ..)))
      have h5 := hc _ (List.mem_cons_of_mem _ (List.mem_cons_of_mem _ (List.mem_cons_of_mem _ (List.mem_singleton.2 rfl))))
      injection h1 with h1
      injection h2 with h2
      injection h3 with h3
      injection h3 with h3 h4
      injection h5 with h5
      subst h1 h2 h4 h5
      have hx : a.eval y = .slice A l.length c := by simpa [ho, Op.operands] using hv
      have hrow := hS.row k (one_pc (olds := olds) (w0 := w0) hL).2
      have hrun := conv_str (c := c) (reads_of_own hrow)
      refine exec_wp (w' := w) ?_ (hK pay0 w (stp_none w))
      simp only [execOp, ho, hx, Sem.run_bind, hrun, Result.andThen_ok, Sem.run_pure]
    · intro hc; exact no_false hc
theorem cu_keyF {olds : Nat → Prop} {w0 : World} (b : Bool) (L : PL) (w : World) (hps : [] = ([] ++ []).map (lookP L)) (hS : Stp olds w0 w (restr ([] ++ []) (lookM (den olds w0 L)))) :
    Calls Tryz.prog 48 #[.bool b] w fun e w' => ∃ x : Pay, e = .returned (.int .u64 (bif b then 1 else 0)) ∧ Stp (blksOf (lookM (den olds w0 L)) []) w w' (lookM (den olds w0 (zipW [] []))) :=
  (keyF_any b w).mono fun e w' ⟨he, hB⟩ => ⟨pay0, he, stp_of_below hB⟩
def kA1 (p : Pkt) : List Int := [] ++ n64 [(m64 p.kind), (m64 p.sender), (m64 p.media), p.ntp, (m64 p.rtp), (m64 p.packets), (m64 p.octets), (m64 (((p.reports.l.length : Nat) : Int)))]
def kRep (r : Rep) : List Int := n64 [(m64 r.ssrc), (m64 r.frac), (m64 r.lost), (m64 r.seq), (m64 r.jit), (m64 r.last), (m64 r.dly)]
def kA2 (p : Pkt) : List Int := kA1 p ++ p.reports.l.flatMap kRep
def kA3 (p : Pkt) : List Int := kA2 p ++ n64 [((strB p.ext.l).size : Int)] ++ sb (strB p.ext.l)
def kA4 (p : Pkt) : List Int := kA3 p ++ n64 [(m64 (((p.chunks.l.length : Nat) : Int)))]
def kItem (q : Item) : List Int := n64 [(m64 q.ty)] ++ n64 [(q.text.size : Int)] ++ sb q.text
def kChunk (r : Chunk) : List Int := n64 [(m64 r.src), (m64 (((r.items.l.length : Nat) : Int)))] ++ r.items.l.flatMap kItem
def kA5 (p : Pkt) : List Int := kA4 p ++ p.chunks.l.flatMap kChunk
def kA6 (p : Pkt) : List Int := kA5 p ++ n64 [(m64 (((p.sources.l.length : Nat) : Int)))]
def kNum (r : Int) : List Int := n64 [(m64 r)]
def kA7 (p : Pkt) : List Int := kA6 p ++ p.sources.l.flatMap kNum
def kA8 (p : Pkt) : List Int := kA7 p ++ n64 [(p.text.size : Int)] ++ sb p.text
def kA9 (p : Pkt) : List Int := kA8 p ++ n64 [(m64 p.sub)]
def kA10 (p : Pkt) : List Int := kA9 p ++ n64 [((strB p.data.l).size : Int)] ++ sb (strB p.data.l)
def kA11 (p : Pkt) : List Int := kA10 p ++ n64 [(m64 (((p.pairs.l.length : Nat) : Int)))]
def kPair (r : Pair) : List Int := n64 [(m64 r.id), (m64 r.mask)]
def kA12 (p : Pkt) : List Int := kA11 p ++ p.pairs.l.flatMap kPair
def kA13 (p : Pkt) : List Int := kA12 p ++ n64 [(m64 (((p.slices.l.length : Nat) : Int)))]
def kSlc (r : Slc) : List Int := n64 [(m64 r.first), (m64 r.number), (m64 r.pic)]
def kA14 (p : Pkt) : List Int := kA13 p ++ p.slices.l.flatMap kSlc
def kA15 (p : Pkt) : List Int := kA14 p ++ n64 [(m64 (((p.entries.l.length : Nat) : Int)))]
def kEnt (r : Ent) : List Int := n64 [(m64 r.ssrc), (m64 r.n)]
def kA16 (p : Pkt) : List Int := kA15 p ++ p.entries.l.flatMap kEnt
def kA17 (p : Pkt) : List Int := kA16 p ++ n64 [(m64 p.bits), (m64 (((p.blocks.l.length : Nat) : Int)))]
def kMet (q : Met) : List Int := n64 [(bif q.rcv then 1 else 0), (m64 q.ecn), (m64 q.off)]
def kBlo (r : Blo) : List Int := n64 [(m64 r.media), (m64 r.first), (m64 (((r.mets.l.length : Nat) : Int)))] ++ r.mets.l.flatMap kMet
def kA18 (p : Pkt) : List Int := kA17 p ++ p.blocks.l.flatMap kBlo
def kA19 (p : Pkt) : List Int := kA18 p ++ n64 [(m64 p.time), (m64 p.base), (m64 p.count), (m64 p.ref), (m64 p.fb), (m64 (((p.stats.l.length : Nat) : Int)))]
def kSta (r : Sta) : List Int := n64 [(bif r.vec then 1 else 0), (m64 r.sym), (m64 r.size), (m64 r.run), (m64 (((r.list.l.length : Nat) : Int)))] ++ r.list.l.flatMap kNum
def kA20 (p : Pkt) : List Int := kA19 p ++ p.stats.l.flatMap kSta
def kA21 (p : Pkt) : List Int := kA20 p ++ n64 [(m64 (((p.deltas.l.length : Nat) : Int)))]
def kDlt (r : Dlt) : List Int := n64 [(m64 r.ty), (m64 r.d)]
def kA22 (p : Pkt) : List Int := kA21 p ++ p.deltas.l.flatMap kDlt
def keyB (p : Pkt) : List Int := kA22 p
theorem le_kA22 (p : Pkt) : (kA22 p).length ≤ (keyB p).length := Nat.le_refl _
theorem le_kA21 (p : Pkt) : (kA21 p).length ≤ (keyB p).length := Nat.le_trans (by rw [kA22]; simp only [List.length_append]; omega) (le_kA22 p)
theorem le_kA20 (p : Pkt) : (kA20 p).length ≤ (keyB p).length := Nat.le_trans (by rw [kA21]; simp only [List.length_append]; omega) (le_kA21 p)
theorem le_kA19 (p : Pkt) : (kA19 p).length ≤ (keyB p).length := Nat.le_trans (by rw [kA20]; simp only [List.length_append]; omega) (le_kA20 p)
theorem le_kA18 (p : Pkt) : (kA18 p).length ≤ (keyB p).length := Nat.le_trans (by rw [kA19]; simp only [List.length_append]; omega) (le_kA19 p)
theorem le_kA17 (p : Pkt) : (kA17 p).length ≤ (keyB p).length := Nat.le_trans (by rw [kA18]; simp only [List.length_append]; omega) (le_kA18 p)
theorem le_kA16 (p : Pkt) : (kA16 p).length ≤ (keyB p).length := Nat.le_trans (by rw [kA17]; simp only [List.length_append]; omega) (le_kA17 p)
theorem le_kA15 (p : Pkt) : (kA15 p).length ≤ (keyB p).length := Nat.le_trans (by rw [kA16]; simp only [List.length_append]; omega) (le_kA16 p)
theorem le_kA14 (p : Pkt) : (kA14 p).length ≤ (keyB p).length := Nat.le_trans (by rw [kA15]; simp only [List.length_append]; omega) (le_kA15 p)
theorem le_kA13 (p : Pkt) : (kA13 p).length ≤ (keyB p).length := Nat.le_trans (by rw [kA14]; simp only [List.length_append]; omega) (le_kA14 p)
theorem le_kA12 (p : Pkt) : (kA12 p).length ≤ (keyB p).length := Nat.le_trans (by rw [kA13]; simp only [List.length_append]; omega) (le_kA13 p)
theorem le_kA11 (p : Pkt) : (kA11 p).length ≤ (keyB p).length := Nat.le_trans (by rw [kA12]; simp only [List.length_append]; omega) (le_kA12 p)
theorem le_kA10 (p : Pkt) : (kA10 p).length ≤ (keyB p).length := Nat.le_trans (by rw [kA11]; simp only [List.length_append]; omega) (le_kA11 p)
theorem le_kA9 (p : Pkt) : (kA9 p).length ≤ (keyB p).length := Nat.le_trans (by rw [kA10]; simp only [List.length_append]; omega) (le_kA10 p)
theorem le_kA8 (p : Pkt) : (kA8 p).length ≤ (keyB p).length := Nat.le_trans (by rw [kA9]; simp only [List.length_append]; omega) (le_kA9 p)
theorem le_kA7 (p : Pkt) : (kA7 p).length ≤ (keyB p).length := Nat.le_trans (by rw [kA8]; simp only [List.length_append]; omega) (le_kA8 p)
theorem le_kA6 (p : Pkt) : (kA6 p).length ≤ (keyB p).length := Nat.le_trans (by rw [kA7]; simp only [List.length_append]; omega) (le_kA7 p)
theorem le_kA5 (p : Pkt) : (kA5 p).length ≤ (keyB p).length := Nat.le_trans (by rw [kA6]; simp only [List.length_append]; omega) (le_kA6 p)
theorem le_kA4 (p : Pkt) : (kA4 p).length ≤ (keyB p).length := Nat.le_trans (by rw [kA5]; simp only [List.length_append]; omega) (le_kA5 p)
theorem le_kA3 (p : Pkt) : (kA3 p).length ≤ (keyB p).length := Nat.le_trans (by rw [kA4]; simp only [List.length_append]; omega) (le_kA4 p)
theorem le_kA2 (p : Pkt) : (kA2 p).length ≤ (keyB p).length := Nat.le_trans (by rw [kA3]; simp only [List.length_append]; omega) (le_kA3 p)
theorem le_kA1 (p : Pkt) : (kA1 p).length ≤ (keyB p).length := Nat.le_trans (by rw [kA2]; simp only [List.length_append]; omega) (le_kA2 p)
set_option maxHeartbeats 40000000 in
set_option maxRecDepth 100000 in
theorem key_any (p : Pkt) (w : World) (h : p.Lies w w.heap.size) (hs : p.Short) (hsl : ∀ x ∈ p.stats.l, x.list.l.length ≤ 2147483647) (hbe : Byts p.ext.l) (hbd : Byts p.data.l) (hK : (keyB p).length ≤ 549755813888) :
    Calls Tryz.prog 19 #[.agg p.cells] w fun e w' => e = .returned (.string (strB (keyB p))) ∧ Below w.heap.size w w' := by
  refine go_in Tryz.func19 rfl Tryz.ntmps19 [.agg p.cells] fun a hE => ?_
  have hS := stp_in w
  refine rg hE hS [nw 100, pu] (fun p1 => kp [(1, pt (p1 0).g 0), (2, .string ByteArray.empty)]) (fun p1 => kP [(100, some (.blk (p1 0).g 38 p.cells))]) fun p1 a u hE hS => ?_
  refine rg hE hS [nw 102] (fun p2 => kp [(3, pt (p2 0).g 0)]) (fun p2 => kP [(102, some (.blk (p2 0).g 25 #[.slice none 0 0]))]) fun p2 a u hE hS => ?_
  have hS := stp_bytes0 hS 1 w.heap.size
  have hS := stp_ry hS 61 (B := w.heap.size) (n := p.ext.l.length) (by have := h.ext; unfold Sl.Lies at this; rwa [u8c_flat] at this) (fun x hx => ⟨hx, id⟩) hbe
  have hS := stp_ry hS 62 (B := w.heap.size) (n := p.data.l.length) (by have := h.data; unfold Sl.Lies at this; rwa [u8c_flat] at this) (fun x hx => ⟨hx, id⟩) hbd
  refine rg hE hS [pu, nw 104, st 104] (fun p3 => kp [(4, pt (p3 1).g 0)]) (fun p3 => kP [(104, some (.blk (p3 1).g 142 #[.func (.func 46) #[] #[pt (p2 0).g 0]]))]) fun p3 a u hE hS => ?_
  refine rg hE hS [pu, pu] (fun _ => kp [(5, .func (.func 47) #[] #[pt (p3 1).g 0, pt (p2 0).g 0])]) (fun _ => kP []) fun _ a u hE hS => ?_
  refine rg hE hS [pu] (fun _ => kp [(6, .func (.func 48) #[] #[])]) (fun _ => kP []) fun _ a u hE hS => ?_
  refine rgp hE hS [ld 104, pu, ld 100, pu, pu, ld 100, pu, pu, ld 100, pu, pu, ld 100, pu, ld 100, pu, pu, ld 100, pu, pu, ld 100, pu, pu, ld 100, pu, pu, nw 92, cu 46 [] [92, 102, 1] (fun _ => .tuple #[]) (fun x => [none, some (.blk (p2 0).g 25 #[.slice x.a (([]) ++ n64 [(m64 p.kind), (m64 p.sender), (m64 p.media), p.ntp, (m64 p.rtp), (m64 p.packets), (m64 p.octets), (m64 (((p.reports.l.length : Nat) : Int)))]).length x.c]), some (.bytes w.heap.size (.slice x.a (([]) ++ n64 [(m64 p.kind), (m64 p.sender), (m64 p.media), p.ntp, (m64 p.rtp), (m64 p.packets), (m64 p.octets), (m64 (((p.reports.l.length : Nat) : Int)))]).length x.c) (([]) ++ n64 [(m64 p.kind), (m64 p.sender), (m64 p.media), p.ntp, (m64 p.rtp), (m64 p.packets), (m64 p.octets), (m64 (((p.reports.l.length : Nat) : Int)))]))])] (fun _ => kp []) (fun p6 => kP [(102, some (.blk (p2 0).g 25 #[.slice (p6 26).a (([]) ++ n64 [(m64 p.kind), (m64 p.sender), (m64 p.media), p.ntp, (m64 p.rtp), (m64 p.packets), (m64 p.octets), (m64 (((p.reports.l.length : Nat) : Int)))]).length (p6 26).c])), (1, some (.bytes w.heap.size (.slice (p6 26).a (([]) ++ n64 [(m64 p.kind), (m64 p.sender), (m64 p.media), p.ntp, (m64 p.rtp), (m64 p.packets), (m64 p.octets), (m64 (((p.reports.l.length : Nat) : Int)))]).length (p6 26).c) (([]) ++ n64 [(m64 p.kind), (m64 p.sender), (m64 p.media), p.ntp, (m64 p.rtp), (m64 p.packets), (m64 p.octets), (m64 (((p.reports.l.length : Nat) : Int)))])))]) (fun p6 => ⟨kr (cu_keyN (olds := (fun _ => False)) (w0 := w) [(m64 p.kind), (m64 p.sender), (m64 p.media), p.ntp, (m64 p.rtp), (m64 p.packets), (m64 p.octets), (m64 (((p.reports.l.length : Nat) : Int)))] 8 (p6 25).g (p2 0).g w.heap.size none 0 ([]) rfl (Nat.le_refl _) (by have hle := le_kA1 p; simp only [kA1, List.length_append, n64_len, sb_len, List.length_cons, List.length_nil] at hle ⊢; omega)), trivial⟩) fun p6 a u hE hS => ?_
  obtain ⟨y1, hy1⟩ : ∃ y : List Int, y = ([]) ++ n64 [(m64 p.kind), (m64 p.sender), (m64 p.media), p.ntp, (m64 p.rtp), (m64 p.packets), (m64 p.octets), (m64 (((p.reports.l.length : Nat) : Int)))] := ⟨_, rfl⟩
  rw [← hy1] at hS
  have e1 : y1 = kA1 p := by rw [hy1]; rfl
  clear hy1
  refine wp_seq ?_
  refine rg hE hS [pu, ld 100, pu, pu] (fun _ => kn [(61, .slice p.reports.A (p.reports.l.length : Nat) p.reports.c), (62, .int .i64 (p.reports.l.length : Nat)), (63, .int .i64 0)] [1, 2, 3, 4, 5, 6]) (fun _ => kN [] [102, 1, 104, 62, 61, 100]) fun _ a u hE hS => ?_
  refine range_up hE hS 63 p.reports.l.length (fun _ _ => kd [63, 64, 91] []) (fun _ x => kP [(102, some (.blk (p2 0).g 25 #[.slice x.p.a x.y.length x.p.c])), (1, some (.bytes w.heap.size (.slice x.p.a x.y.length x.p.c) x.y))]) (fun k (x : Lx (List Int)) => x.n = 0 ∧ x.y = y1 ++ (p.reports.l.take k).flatMap kRep) ⟨⟨0, (p6 26).c, undef, (p6 26).a⟩, 0, [], y1⟩ (by have := hs.reports; omega) (⟨rfl, by simp⟩) (fun k x a u hk hI hE hS K hK RK hRK => ?_) fun ⟨qq0, n1, xs1, yy0⟩ a u hI hE hS => ?_
  · obtain ⟨hk1, hk2⟩ := hI
    obtain ⟨xp, _, _, y0⟩ := x
    simp only at hk2
    have hle : y0.length + (kRep p.reports.l[k]).length ≤ (keyB p).length := by
      have h1 := le_kA2 p
      have h2 := flat_le kRep hk
      have h3 := congrArg List.length hk2
      have h4 := congrArg List.length e1
      simp only [kA2, List.length_append] at h1 h3 h4
      omega
    have hS := stp_el hS 90 (el_at h.reports (fun _ _ => rfl) rfl (fun g hg => ⟨hg, id⟩) k hk (by omega))
    generalize hrk : p.reports.l[k] = r at hS hle
    refine rgp hE hS [ie 90, le 90 0, nw 91, st 91] (fun p8 => kp [(8, pt (p8 2).g 0)]) (fun p8 => kP [(91, some (.blk (p8 2).g 85 (Rep.cells r).toArray))]) (fun _ => ⟨kr (show k < p.reports.l.length from hk), trivial⟩) fun p8 a u hE hS => ?_
    refine rgE hE hS [ld 104, pu, ld 91, pu, pu, ld 91, pu, pu, ld 91, pu, pu, ld 91, pu, pu, ld 91, pu, pu, ld 91, pu, pu, ld 91, pu, nw 92, cu 46 [] [92, 102, 1] (fun _ => .tuple #[]) (fun x => [none, some (.blk (p2 0).g 25 #[.slice x.a (y0 ++ n64 [(m64 r.ssrc), (m64 r.frac), (m64 r.lost), (m64 r.seq), (m64 r.jit), (m64 r.last), (m64 r.dly)]).length x.c]), some (.bytes w.heap.size (.slice x.a (y0 ++ n64 [(m64 r.ssrc), (m64 r.frac), (m64 r.lost), (m64 r.seq), (m64 r.jit), (m64 r.last), (m64 r.dly)]).length x.c) (y0 ++ n64 [(m64 r.ssrc), (m64 r.frac), (m64 r.lost), (m64 r.seq), (m64 r.jit), (m64 r.last), (m64 r.dly)]))])] (fun _ => kp []) (fun p9 => kP [(102, some (.blk (p2 0).g 25 #[.slice (p9 23).a (y0 ++ n64 [(m64 r.ssrc), (m64 r.frac), (m64 r.lost), (m64 r.seq), (m64 r.jit), (m64 r.last), (m64 r.dly)]).length (p9 23).c])), (1, some (.bytes w.heap.size (.slice (p9 23).a (y0 ++ n64 [(m64 r.ssrc), (m64 r.frac), (m64 r.lost), (m64 r.seq), (m64 r.jit), (m64 r.last), (m64 r.dly)]).length (p9 23).c) (y0 ++ n64 [(m64 r.ssrc), (m64 r.frac), (m64 r.lost), (m64 r.seq), (m64 r.jit), (m64 r.last), (m64 r.dly)])))]) (fun p9 => ⟨kr (cu_keyN (olds := (fun _ => False)) (w0 := w) [(m64 r.ssrc), (m64 r.frac), (m64 r.lost), (m64 r.seq), (m64 r.jit), (m64 r.last), (m64 r.dly)] 7 (p9 22).g (p2 0).g w.heap.size xp.a xp.c y0 rfl (Nat.le_refl _) (by simp only [kRep, List.length_append, n64_len, sb_len, List.length_cons, List.length_nil] at hle ⊢; omega)), trivial⟩) fun p9 a u hE hS => ?_
    exact hK ⟨(p9 23), 0, [], y0 ++ n64 [(m64 r.ssrc), (m64 r.frac), (m64 r.lost), (m64 r.seq), (m64 r.jit), (m64 r.last), (m64 r.dly)]⟩ a u _ _ ⟨rfl, by rw [List.take_succ_eq_append_getElem hk, List.flatMap_append, List.flatMap_cons, List.flatMap_nil, List.append_nil, ← List.append_assoc, hrk]; rw [← hk2]; rfl⟩ hE hS (by kernel_rfl)
  simp only [List.take_length] at hI
  obtain ⟨h1, h2⟩ := hI
  have e2 : yy0 = kA2 p := by rw [show yy0 = _ from h2, e1]; rfl
  clear h1 h2
  refine rgp hE hS [pu, pu, ld 100, rt 61, cu 47 [] [104, 102, 1] (fun _ => .tuple #[]) (fun x => [some (.blk (p3 1).g 142 #[.func (.func 46) #[] #[pt (p2 0).g 0]]), some (.blk (p2 0).g 25 #[.slice x.a (yy0 ++ n64 [((strB p.ext.l).size : Int)] ++ sb (strB p.ext.l)).length x.c]), some (.bytes w.heap.size (.slice x.a (yy0 ++ n64 [((strB p.ext.l).size : Int)] ++ sb (strB p.ext.l)).length x.c) (yy0 ++ n64 [((strB p.ext.l).size : Int)] ++ sb (strB p.ext.l)))])] (fun _ => kp []) (fun p10 => kP [(102, some (.blk (p2 0).g 25 #[.slice (p10 4).a (yy0 ++ n64 [((strB p.ext.l).size : Int)] ++ sb (strB p.ext.l)).length (p10 4).c])), (1, some (.bytes w.heap.size (.slice (p10 4).a (yy0 ++ n64 [((strB p.ext.l).size : Int)] ++ sb (strB p.ext.l)).length (p10 4).c) (yy0 ++ n64 [((strB p.ext.l).size : Int)] ++ sb (strB p.ext.l))))]) (fun _ => ⟨kr (cu_keyT (olds := fun _ => False) (w0 := w) (strB p.ext.l) (p3 1).g (p2 0).g w.heap.size qq0.a qq0.c yy0 (Nat.le_refl _) (by have hle := le_kA3 p; have h4 := congrArg List.length e2; simp only [kA3, List.length_append, n64_len, sb_len, List.length_cons, List.length_nil] at hle ⊢; omega)), trivial⟩) fun p10 a u hE hS => ?_
  obtain ⟨y3, hy3⟩ : ∃ y : List Int, y = yy0 ++ n64 [((strB p.ext.l).size : Int)] ++ sb (strB p.ext.l) := ⟨_, rfl⟩
  rw [← hy3] at hS
  have e3 : y3 = kA3 p := by rw [hy3, e2]; rfl
  clear hy3
  refine rgp hE hS [ld 104, pu, ld 100, pu, pu, nw 92, cu 46 [] [92, 102, 1] (fun _ => .tuple #[]) (fun x => [none, some (.blk (p2 0).g 25 #[.slice x.a (y3 ++ n64 [(m64 (((p.chunks.l.length : Nat) : Int)))]).length x.c]), some (.bytes w.heap.size (.slice x.a (y3 ++ n64 [(m64 (((p.chunks.l.length : Nat) : Int)))]).length x.c) (y3 ++ n64 [(m64 (((p.chunks.l.length : Nat) : Int)))]))])] (fun _ => kp []) (fun p11 => kP [(102, some (.blk (p2 0).g 25 #[.slice (p11 6).a (y3 ++ n64 [(m64 (((p.chunks.l.length : Nat) : Int)))]).length (p11 6).c])), (1, some (.bytes w.heap.size (.slice (p11 6).a (y3 ++ n64 [(m64 (((p.chunks.l.length : Nat) : Int)))]).length (p11 6).c) (y3 ++ n64 [(m64 (((p.chunks.l.length : Nat) : Int)))])))]) (fun p11 => ⟨kr (cu_keyN (olds := (fun _ => False)) (w0 := w) [(m64 (((p.chunks.l.length : Nat) : Int)))] 1 (p11 5).g (p2 0).g w.heap.size (p10 4).a (p10 4).c y3 rfl (Nat.le_refl _) (by have hle := le_kA4 p; have h4 := congrArg List.length e3; simp only [kA4, List.length_append, n64_len, sb_len, List.length_cons, List.length_nil] at hle ⊢; omega)), trivial⟩) fun p11 a u hE hS => ?_
  obtain ⟨y4, hy4⟩ : ∃ y : List Int, y = y3 ++ n64 [(m64 (((p.chunks.l.length : Nat) : Int)))] := ⟨_, rfl⟩
  rw [← hy4] at hS
  have e4 : y4 = kA4 p := by rw [hy4, e3]; rfl
  clear hy4
  refine wp_seq ?_
  refine rg hE hS [pu, ld 100, pu, pu] (fun _ => kn [(105, .slice p.chunks.A (p.chunks.l.length : Nat) p.chunks.c), (106, .int .i64 (p.chunks.l.length : Nat)), (107, .int .i64 0)] [1, 2, 3, 4, 5, 6]) (fun _ => kN [] [102, 1, 104, 62, 61, 100]) fun _ a u hE hS => ?_
  refine range_up hE hS 107 p.chunks.l.length (fun _ _ => kd [107, 108, 139] []) (fun _ x => kP [(102, some (.blk (p2 0).g 25 #[.slice x.p.a x.y.length x.p.c])), (1, some (.bytes w.heap.size (.slice x.p.a x.y.length x.p.c) x.y))]) (fun k (x : Lx (List Int)) => x.n = 0 ∧ x.y = y4 ++ (p.chunks.l.take k).flatMap kChunk) ⟨⟨0, (p11 6).c, undef, (p11 6).a⟩, 0, [], y4⟩ (by have := hs.chunks; omega) (⟨rfl, by simp⟩) (fun k x a u hk hI hE hS K hK RK hRK => ?_) fun ⟨qq2, n1, xs1, yy2⟩ a u hI hE hS => ?_
  · obtain ⟨hk1, hk2⟩ := hI
    obtain ⟨xp, _, _, y0⟩ := x
    simp only at hk2
    have hle : y0.length + (kChunk p.chunks.l[k]).length ≤ (keyB p).length := by
      have h1 := le_kA5 p
      have h2 := flat_le kChunk hk
      have h3 := congrArg List.length hk2
      have h4 := congrArg List.length e4
      simp only [kA5, List.length_append] at h1 h3 h4
      omega
    have hS := stp_el hS 90 (el_at h.chunks (fun _ _ => rfl) rfl (fun g hg => ⟨hg, id⟩) k hk (by omega))
    have hin := h.items p.chunks.l[k] (List.getElem_mem _)
    have hns := hs.items p.chunks.l[k] (List.getElem_mem _)
    generalize hrk : p.chunks.l[k] = r at hS hle hin hns
    refine rgp hE hS [ie 90, le 90 0, nw 91, st 91] (fun p13 => kp [(10, pt (p13 2).g 0)]) (fun p13 => kP [(91, some (.blk (p13 2).g 89 (Chunk.cells r).toArray))]) (fun _ => ⟨kr (show k < p.chunks.l.length from hk), trivial⟩) fun p13 a u hE hS => ?_
    refine rgp hE hS [ld 104, pu, ld 91, pu, pu, ld 91, pu, pu, nw 92, cu 46 [] [92, 102, 1] (fun _ => .tuple #[]) (fun x => [none, some (.blk (p2 0).g 25 #[.slice x.a (y0 ++ n64 [(m64 r.src), (m64 (((r.items.l.length : Nat) : Int)))]).length x.c]), some (.bytes w.heap.size (.slice x.a (y0 ++ n64 [(m64 r.src), (m64 (((r.items.l.length : Nat) : Int)))]).length x.c) (y0 ++ n64 [(m64 r.src), (m64 (((r.items.l.length : Nat) : Int)))]))])] (fun _ => kp []) (fun p14 => kP [(102, some (.blk (p2 0).g 25 #[.slice (p14 9).a (y0 ++ n64 [(m64 r.src), (m64 (((r.items.l.length : Nat) : Int)))]).length (p14 9).c])), (1, some (.bytes w.heap.size (.slice (p14 9).a (y0 ++ n64 [(m64 r.src), (m64 (((r.items.l.length : Nat) : Int)))]).length (p14 9).c) (y0 ++ n64 [(m64 r.src), (m64 (((r.items.l.length : Nat) : Int)))])))]) (fun p14 => ⟨kr (cu_keyN (olds := (fun _ => False)) (w0 := w) [(m64 r.src), (m64 (((r.items.l.length : Nat) : Int)))] 2 (p14 8).g (p2 0).g w.heap.size xp.a xp.c y0 rfl (Nat.le_refl _) (by simp only [kChunk, List.length_append, n64_len, sb_len, List.length_cons, List.length_nil] at hle ⊢; omega)), trivial⟩) fun p14 a u hE hS => ?_
    refine rg hE hS [pu, ld 91, pu, pu] (fun _ => kn [(122, .slice r.items.A (r.items.l.length : Nat) r.items.c), (123, .int .i64 (r.items.l.length : Nat)), (124, .int .i64 0)] [1, 2, 3, 4, 5, 6, 105, 106, 107]) (fun _ => kN [] [102, 1, 90, 104, 62, 61, 100]) fun _ a u hE hS => ?_
    refine range_up hE hS 124 r.items.l.length (fun _ _ => kd [124, 125, 138] []) (fun _ y => kP [(102, some (.blk (p2 0).g 25 #[.slice y.p.a y.y.length y.p.c])), (1, some (.bytes w.heap.size (.slice y.p.a y.y.length y.p.c) y.y))]) (fun j (y : Lx (List Int)) => y.n = 0 ∧ y.y = (y0 ++ n64 [(m64 r.src), (m64 (((r.items.l.length : Nat) : Int)))]) ++ (r.items.l.take j).flatMap kItem) ⟨⟨0, (p14 9).c, undef, (p14 9).a⟩, 0, [], (y0 ++ n64 [(m64 r.src), (m64 (((r.items.l.length : Nat) : Int)))])⟩ (by omega) (⟨rfl, by simp⟩) (fun j y a u hj hI hE hS K2 hK2 RK2 hRK2 => ?_) fun ⟨q2, _, _, z2⟩ a u hI2 hE hS => ?_
    · obtain ⟨hj1, hj2⟩ := hI
      obtain ⟨yp, _, _, z0⟩ := y
      simp only at hj2
      have hli : z0.length + (kItem r.items.l[j]).length ≤ (keyB p).length := by
        have h2 := flat_le kItem hj
        have h3 := congrArg List.length hj2
        simp only [kChunk, List.length_append, n64_len, sb_len, List.length_cons, List.length_nil] at hle h3
        omega
      have hS := stp_el hS 95 (el_at hin (fun _ _ => rfl) rfl (fun g hg => ⟨hg, id⟩) j hj (by omega))
      generalize hrj : r.items.l[j] = q at hS hli
      refine rgp hE hS [ie 95, le 95 0, nw 96, st 96] (fun p16 => kp [(12, pt (p16 2).g 0)]) (fun p16 => kP [(96, some (.blk (p16 2).g 94 (Item.cells q).toArray))]) (fun _ => ⟨kr (show j < r.items.l.length from hj), trivial⟩) fun p16 a u hE hS => ?_
      refine rgp hE hS [ld 104, pu, ld 96, pu, nw 92, cu 46 [] [92, 102, 1] (fun _ => .tuple #[]) (fun x => [none, some (.blk (p2 0).g 25 #[.slice x.a (z0 ++ n64 [(m64 q.ty)]).length x.c]), some (.bytes w.heap.size (.slice x.a (z0 ++ n64 [(m64 q.ty)]).length x.c) (z0 ++ n64 [(m64 q.ty)]))])] (fun _ => kp []) (fun p17 => kP [(102, some (.blk (p2 0).g 25 #[.slice (p17 5).a (z0 ++ n64 [(m64 q.ty)]).length (p17 5).c])), (1, some (.bytes w.heap.size (.slice (p17 5).a (z0 ++ n64 [(m64 q.ty)]).length (p17 5).c) (z0 ++ n64 [(m64 q.ty)])))]) (fun p17 => ⟨kr (cu_keyN (olds := (fun _ => False)) (w0 := w) [(m64 q.ty)] 1 (p17 4).g (p2 0).g w.heap.size yp.a yp.c z0 rfl (Nat.le_refl _) (by simp only [kItem, List.length_append, n64_len, sb_len, List.length_cons, List.length_nil] at hli ⊢; omega)), trivial⟩) fun p17 a u hE hS => ?_
      refine rgE hE hS [pu, pu, ld 96, cu 47 [] [104, 102, 1] (fun _ => .tuple #[]) (fun x => [some (.blk (p3 1).g 142 #[.func (.func 46) #[] #[pt (p2 0).g 0]]), some (.blk (p2 0).g 25 #[.slice x.a ((z0 ++ n64 [(m64 q.ty)]) ++ n64 [(q.text.size : Int)] ++ sb q.text).length x.c]), some (.bytes w.heap.size (.slice x.a ((z0 ++ n64 [(m64 q.ty)]) ++ n64 [(q.text.size : Int)] ++ sb q.text).length x.c) ((z0 ++ n64 [(m64 q.ty)]) ++ n64 [(q.text.size : Int)] ++ sb q.text))])] (fun _ => kp []) (fun p18 => kP [(102, some (.blk (p2 0).g 25 #[.slice (p18 3).a (z0 ++ n64 [(m64 q.ty)] ++ n64 [(q.text.size : Int)] ++ sb q.text).length (p18 3).c])), (1, some (.bytes w.heap.size (.slice (p18 3).a (z0 ++ n64 [(m64 q.ty)] ++ n64 [(q.text.size : Int)] ++ sb q.text).length (p18 3).c) (z0 ++ n64 [(m64 q.ty)] ++ n64 [(q.text.size : Int)] ++ sb q.text)))]) (fun _ => ⟨kr (cu_keyT (olds := fun _ => False) (w0 := w) q.text (p3 1).g (p2 0).g w.heap.size (p17 5).a (p17 5).c (z0 ++ n64 [(m64 q.ty)]) (Nat.le_refl _) (by simp only [kItem, List.length_append, n64_len, sb_len, List.length_cons, List.length_nil] at hli ⊢; omega)), trivial⟩) fun p18 a u hE hS => ?_
      exact hK2 ⟨(p18 3), 0, [], z0 ++ n64 [(m64 q.ty)] ++ n64 [(q.text.size : Int)] ++ sb q.text⟩ a u _ _ ⟨rfl, by rw [List.take_succ_eq_append_getElem hj, List.flatMap_append, List.flatMap_cons, List.flatMap_nil, List.append_nil, ← List.append_assoc, hrj]; rw [← hj2]; first | rfl | simp only [kItem, List.append_assoc]⟩ hE hS (by kernel_rfl)
    simp only [List.take_length] at hI2
    obtain ⟨_, h2⟩ := hI2
    subst h2
    exact hK ⟨q2, 0, [], y0 ++ n64 [(m64 r.src), (m64 (((r.items.l.length : Nat) : Int)))] ++ r.items.l.flatMap kItem⟩ a u _ _ ⟨rfl, by rw [List.take_succ_eq_append_getElem hk, List.flatMap_append, List.flatMap_cons, List.flatMap_nil, List.append_nil, ← List.append_assoc, hrk]; rw [← hk2]; first | rfl | simp only [kChunk, List.append_assoc]⟩ hE hS (by kernel_rfl)
  simp only [List.take_length] at hI
  obtain ⟨h1, h2⟩ := hI
  have e5 : yy2 = kA5 p := by rw [show yy2 = _ from h2, e4]; rfl
  clear h1 h2
  refine rgp hE hS [ld 104, pu, ld 100, pu, pu, nw 92, cu 46 [] [92, 102, 1] (fun _ => .tuple #[]) (fun x => [none, some (.blk (p2 0).g 25 #[.slice x.a (yy2 ++ n64 [(m64 (((p.sources.l.length : Nat) : Int)))]).length x.c]), some (.bytes w.heap.size (.slice x.a (yy2 ++ n64 [(m64 (((p.sources.l.length : Nat) : Int)))]).length x.c) (yy2 ++ n64 [(m64 (((p.sources.l.length : Nat) : Int)))]))])] (fun _ => kp []) (fun p19 => kP [(102, some (.blk (p2 0).g 25 #[.slice (p19 6).a (yy2 ++ n64 [(m64 (((p.sources.l.length : Nat) : Int)))]).length (p19 6).c])), (1, some (.bytes w.heap.size (.slice (p19 6).a (yy2 ++ n64 [(m64 (((p.sources.l.length : Nat) : Int)))]).length (p19 6).c) (yy2 ++ n64 [(m64 (((p.sources.l.length : Nat) : Int)))])))]) (fun p19 => ⟨kr (cu_keyN (olds := (fun _ => False)) (w0 := w) [(m64 (((p.sources.l.length : Nat) : Int)))] 1 (p19 5).g (p2 0).g w.heap.size qq2.a qq2.c yy2 rfl (Nat.le_refl _) (by have hle := le_kA6 p; have h4 := congrArg List.length e5; simp only [kA6, List.length_append, n64_len, sb_len, List.length_cons, List.length_nil] at hle ⊢; omega)), trivial⟩) fun p19 a u hE hS => ?_
  obtain ⟨y6, hy6⟩ : ∃ y : List Int, y = yy2 ++ n64 [(m64 (((p.sources.l.length : Nat) : Int)))] := ⟨_, rfl⟩
  rw [← hy6] at hS
  have e6 : y6 = kA6 p := by rw [hy6, e5]; rfl
  clear hy6
  refine wp_seq ?_
  refine rg hE hS [pu, ld 100, pu, pu] (fun _ => kn [(148, .slice p.sources.A (p.sources.l.length : Nat) p.sources.c), (149, .int .i64 (p.sources.l.length : Nat)), (150, .int .i64 0)] [1, 2, 3, 4, 5, 6]) (fun _ => kN [] [102, 1, 104, 62, 61, 100]) fun _ a u hE hS => ?_
  refine range_up hE hS 150 p.sources.l.length (fun _ _ => kd [150, 151, 159] []) (fun _ x => kP [(102, some (.blk (p2 0).g 25 #[.slice x.p.a x.y.length x.p.c])), (1, some (.bytes w.heap.size (.slice x.p.a x.y.length x.p.c) x.y))]) (fun k (x : Lx (List Int)) => x.n = 0 ∧ x.y = y6 ++ (p.sources.l.take k).flatMap kNum) ⟨⟨0, (p19 6).c, undef, (p19 6).a⟩, 0, [], y6⟩ (by have := hs.sources; omega) (⟨rfl, by simp⟩) (fun k x a u hk hI hE hS K hK RK hRK => ?_) fun ⟨qq6, n1, xs1, yy6⟩ a u hI hE hS => ?_
  · obtain ⟨hk1, hk2⟩ := hI
    obtain ⟨xp, _, _, y0⟩ := x
    simp only at hk2
    have hle : y0.length + (kNum p.sources.l[k]).length ≤ (keyB p).length := by
      have h1 := le_kA7 p
      have h2 := flat_le kNum hk
      have h3 := congrArg List.length hk2
      have h4 := congrArg List.length e6
      simp only [kA7, List.length_append] at h1 h3 h4
      omega
    have hS := stp_el hS 90 (el_at h.sources (fun _ _ => rfl) rfl (fun g hg => ⟨hg, id⟩) k hk (by omega))
    generalize hrk : p.sources.l[k] = r at hS hle
    refine rgp hE hS [ie 90, le 90 0, pu] (fun _ => kp [(14, .int .u32 r)]) (fun _ => kP []) (fun _ => ⟨kr (show k < p.sources.l.length from hk), trivial⟩) fun _ a u hE hS => ?_
    refine rgE hE hS [ld 104, pu, pu, nw 92, cu 46 [] [92, 102, 1] (fun _ => .tuple #[]) (fun x => [none, some (.blk (p2 0).g 25 #[.slice x.a (y0 ++ n64 [(m64 r)]).length x.c]), some (.bytes w.heap.size (.slice x.a (y0 ++ n64 [(m64 r)]).length x.c) (y0 ++ n64 [(m64 r)]))])] (fun _ => kp []) (fun p22 => kP [(102, some (.blk (p2 0).g 25 #[.slice (p22 4).a (y0 ++ n64 [(m64 r)]).length (p22 4).c])), (1, some (.bytes w.heap.size (.slice (p22 4).a (y0 ++ n64 [(m64 r)]).length (p22 4).c) (y0 ++ n64 [(m64 r)])))]) (fun p22 => ⟨kr (cu_keyN (olds := (fun _ => False)) (w0 := w) [(m64 r)] 1 (p22 3).g (p2 0).g w.heap.size xp.a xp.c y0 rfl (Nat.le_refl _) (by simp only [kNum, List.length_append, n64_len, sb_len, List.length_cons, List.length_nil] at hle ⊢; omega)), trivial⟩) fun p22 a u hE hS => ?_
    exact hK ⟨(p22 4), 0, [], y0 ++ n64 [(m64 r)]⟩ a u _ _ ⟨rfl, by rw [List.take_succ_eq_append_getElem hk, List.flatMap_append, List.flatMap_cons, List.flatMap_nil, List.append_nil, ← List.append_assoc, hrk]; rw [← hk2]; rfl⟩ hE hS (by kernel_rfl)
  simp only [List.take_length] at hI
  obtain ⟨h1, h2⟩ := hI
  have e7 : yy6 = kA7 p := by rw [show yy6 = _ from h2, e6]; rfl
  clear h1 h2
  refine rgp hE hS [pu, pu, ld 100, cu 47 [] [104, 102, 1] (fun _ => .tuple #[]) (fun x => [some (.blk (p3 1).g 142 #[.func (.func 46) #[] #[pt (p2 0).g 0]]), some (.blk (p2 0).g 25 #[.slice x.a (yy6 ++ n64 [(p.text.size : Int)] ++ sb p.text).length x.c]), some (.bytes w.heap.size (.slice x.a (yy6 ++ n64 [(p.text.size : Int)] ++ sb p.text).length x.c) (yy6 ++ n64 [(p.text.size : Int)] ++ sb p.text))])] (fun _ => kp []) (fun p23 => kP [(102, some (.blk (p2 0).g 25 #[.slice (p23 3).a (yy6 ++ n64 [(p.text.size : Int)] ++ sb p.text).length (p23 3).c])), (1, some (.bytes w.heap.size (.slice (p23 3).a (yy6 ++ n64 [(p.text.size : Int)] ++ sb p.text).length (p23 3).c) (yy6 ++ n64 [(p.text.size : Int)] ++ sb p.text)))]) (fun _ => ⟨kr (cu_keyT (olds := fun _ => False) (w0 := w) p.text (p3 1).g (p2 0).g w.heap.size qq6.a qq6.c yy6 (Nat.le_refl _) (by have hle := le_kA8 p; have h4 := congrArg List.length e7; simp only [kA8, List.length_append, n64_len, sb_len, List.length_cons, List.length_nil] at hle ⊢; omega)), trivial⟩) fun p23 a u hE hS => ?_
  obtain ⟨y8, hy8⟩ : ∃ y : List Int, y = yy6 ++ n64 [(p.text.size : Int)] ++ sb p.text := ⟨_, rfl⟩
  rw [← hy8] at hS
  have e8 : y8 = kA8 p := by rw [hy8, e7]; rfl
  clear hy8
  refine rgp hE hS [ld 104, pu, ld 100, pu, nw 92, cu 46 [] [92, 102, 1] (fun _ => .tuple #[]) (fun x => [none, some (.blk (p2 0).g 25 #[.slice x.a (y8 ++ n64 [(m64 p.sub)]).length x.c]), some (.bytes w.heap.size (.slice x.a (y8 ++ n64 [(m64 p.sub)]).length x.c) (y8 ++ n64 [(m64 p.sub)]))])] (fun _ => kp []) (fun p24 => kP [(102, some (.blk (p2 0).g 25 #[.slice (p24 5).a (y8 ++ n64 [(m64 p.sub)]).length (p24 5).c])), (1, some (.bytes w.heap.size (.slice (p24 5).a (y8 ++ n64 [(m64 p.sub)]).length (p24 5).c) (y8 ++ n64 [(m64 p.sub)])))]) (fun p24 => ⟨kr (cu_keyN (olds := (fun _ => False)) (w0 := w) [(m64 p.sub)] 1 (p24 4).g (p2 0).g w.heap.size (p23 3).a (p23 3).c y8 rfl (Nat.le_refl _) (by have hle := le_kA9 p; have h4 := congrArg List.length e8; simp only [kA9, List.length_append, n64_len, sb_len, List.length_cons, List.length_nil] at hle ⊢; omega)), trivial⟩) fun p24 a u hE hS => ?_
  obtain ⟨y9, hy9⟩ : ∃ y : List Int, y = y8 ++ n64 [(m64 p.sub)] := ⟨_, rfl⟩
  rw [← hy9] at hS
  have e9 : y9 = kA9 p := by rw [hy9, e8]; rfl
  clear hy9
  refine rgp hE hS [pu, pu, ld 100, rt 62, cu 47 [] [104, 102, 1] (fun _ => .tuple #[]) (fun x => [some (.blk (p3 1).g 142 #[.func (.func 46) #[] #[pt (p2 0).g 0]]), some (.blk (p2 0).g 25 #[.slice x.a (y9 ++ n64 [((strB p.data.l).size : Int)] ++ sb (strB p.data.l)).length x.c]), some (.bytes w.heap.size (.slice x.a (y9 ++ n64 [((strB p.data.l).size : Int)] ++ sb (strB p.data.l)).length x.c) (y9 ++ n64 [((strB p.data.l).size : Int)] ++ sb (strB p.data.l)))])] (fun _ => kp []) (fun p25 => kP [(102, some (.blk (p2 0).g 25 #[.slice (p25 4).a (y9 ++ n64 [((strB p.data.l).size : Int)] ++ sb (strB p.data.l)).length (p25 4).c])), (1, some (.bytes w.heap.size (.slice (p25 4).a (y9 ++ n64 [((strB p.data.l).size : Int)] ++ sb (strB p.data.l)).length (p25 4).c) (y9 ++ n64 [((strB p.data.l).size : Int)] ++ sb (strB p.data.l))))]) (fun _ => ⟨kr (cu_keyT (olds := fun _ => False) (w0 := w) (strB p.data.l) (p3 1).g (p2 0).g w.heap.size (p24 5).a (p24 5).c y9 (Nat.le_refl _) (by have hle := le_kA10 p; have h4 := congrArg List.length e9; simp only [kA10, List.length_append, n64_len, sb_len, List.length_cons, List.length_nil] at hle ⊢; omega)), trivial⟩) fun p25 a u hE hS => ?_
  obtain ⟨y10, hy10⟩ : ∃ y : List Int, y = y9 ++ n64 [((strB p.data.l).size : Int)] ++ sb (strB p.data.l) := ⟨_, rfl⟩
  rw [← hy10] at hS
  have e10 : y10 = kA10 p := by rw [hy10, e9]; rfl
  clear hy10
  refine rgp hE hS [ld 104, pu, ld 100, pu, pu, nw 92, cu 46 [] [92, 102, 1] (fun _ => .tuple #[]) (fun x => [none, some (.blk (p2 0).g 25 #[.slice x.a (y10 ++ n64 [(m64 (((p.pairs.l.length : Nat) : Int)))]).length x.c]), some (.bytes w.heap.size (.slice x.a (y10 ++ n64 [(m64 (((p.pairs.l.length : Nat) : Int)))]).length x.c) (y10 ++ n64 [(m64 (((p.pairs.l.length : Nat) : Int)))]))])] (fun _ => kp []) (fun p26 => kP [(102, some (.blk (p2 0).g 25 #[.slice (p26 6).a (y10 ++ n64 [(m64 (((p.pairs.l.length : Nat) : Int)))]).length (p26 6).c])), (1, some (.bytes w.heap.size (.slice (p26 6).a (y10 ++ n64 [(m64 (((p.pairs.l.length : Nat) : Int)))]).length (p26 6).c) (y10 ++ n64 [(m64 (((p.pairs.l.length : Nat) : Int)))])))]) (fun p26 => ⟨kr (cu_keyN (olds := (fun _ => False)) (w0 := w) [(m64 (((p.pairs.l.length : Nat) : Int)))] 1 (p26 5).g (p2 0).g w.heap.size (p25 4).a (p25 4).c y10 rfl (Nat.le_refl _) (by have hle := le_kA11 p; have h4 := congrArg List.length e10; simp only [kA11, List.length_append, n64_len, sb_len, List.length_cons, List.length_nil] at hle ⊢; omega)), trivial⟩) fun p26 a u hE hS => ?_
  obtain ⟨y11, hy11⟩ : ∃ y : List Int, y = y10 ++ n64 [(m64 (((p.pairs.l.length : Nat) : Int)))] := ⟨_, rfl⟩
  rw [← hy11] at hS
  have e11 : y11 = kA11 p := by rw [hy11, e10]; rfl
  clear hy11
  refine wp_seq ?_
  refine rg hE hS [pu, ld 100, pu, pu] (fun _ => kn [(183, .slice p.pairs.A (p.pairs.l.length : Nat) p.pairs.c), (184, .int .i64 (p.pairs.l.length : Nat)), (185, .int .i64 0)] [1, 2, 3, 4, 6]) (fun _ => kN [] [102, 1, 104, 62, 61, 100]) fun _ a u hE hS => ?_
  refine range_up hE hS 185 p.pairs.l.length (fun _ _ => kd [185, 186, 198] []) (fun _ x => kP [(102, some (.blk (p2 0).g 25 #[.slice x.p.a x.y.length x.p.c])), (1, some (.bytes w.heap.size (.slice x.p.a x.y.length x.p.c) x.y))]) (fun k (x : Lx (List Int)) => x.n = 0 ∧ x.y = y11 ++ (p.pairs.l.take k).flatMap kPair) ⟨⟨0, (p26 6).c, undef, (p26 6).a⟩, 0, [], y11⟩ (by have := hs.pairs; omega) (⟨rfl, by simp⟩) (fun k x a u hk hI hE hS K hK RK hRK => ?_) fun ⟨qq8, n1, xs1, yy8⟩ a u hI hE hS => ?_
  · obtain ⟨hk1, hk2⟩ := hI
    obtain ⟨xp, _, _, y0⟩ := x
    simp only at hk2
    have hle : y0.length + (kPair p.pairs.l[k]).length ≤ (keyB p).length := by
      have h1 := le_kA12 p
      have h2 := flat_le kPair hk
      have h3 := congrArg List.length hk2
      have h4 := congrArg List.length e11
      simp only [kA12, List.length_append] at h1 h3 h4
      omega
    have hS := stp_el hS 90 (el_at h.pairs (fun _ _ => rfl) rfl (fun g hg => ⟨hg, id⟩) k hk (by omega))
    generalize hrk : p.pairs.l[k] = r at hS hle
    refine rgp hE hS [ie 90, le 90 0, nw 91, st 91] (fun p28 => kp [(16, pt (p28 2).g 0)]) (fun p28 => kP [(91, some (.blk (p28 2).g 97 (Pair.cells r).toArray))]) (fun _ => ⟨kr (show k < p.pairs.l.length from hk), trivial⟩) fun p28 a u hE hS => ?_
    refine rgE hE hS [ld 104, pu, ld 91, pu, pu, ld 91, pu, nw 92, cu 46 [] [92, 102, 1] (fun _ => .tuple #[]) (fun x => [none, some (.blk (p2 0).g 25 #[.slice x.a (y0 ++ n64 [(m64 r.id), (m64 r.mask)]).length x.c]), some (.bytes w.heap.size (.slice x.a (y0 ++ n64 [(m64 r.id), (m64 r.mask)]).length x.c) (y0 ++ n64 [(m64 r.id), (m64 r.mask)]))])] (fun _ => kp []) (fun p29 => kP [(102, some (.blk (p2 0).g 25 #[.slice (p29 8).a (y0 ++ n64 [(m64 r.id), (m64 r.mask)]).length (p29 8).c])), (1, some (.bytes w.heap.size (.slice (p29 8).a (y0 ++ n64 [(m64 r.id), (m64 r.mask)]).length (p29 8).c) (y0 ++ n64 [(m64 r.id), (m64 r.mask)])))]) (fun p29 => ⟨kr (cu_keyN (olds := (fun _ => False)) (w0 := w) [(m64 r.id), (m64 r.mask)] 2 (p29 7).g (p2 0).g w.heap.size xp.a xp.c y0 rfl (Nat.le_refl _) (by simp only [kPair, List.length_append, n64_len, sb_len, List.length_cons, List.length_nil] at hle ⊢; omega)), trivial⟩) fun p29 a u hE hS => ?_
    exact hK ⟨(p29 8), 0, [], y0 ++ n64 [(m64 r.id), (m64 r.mask)]⟩ a u _ _ ⟨rfl, by rw [List.take_succ_eq_append_getElem hk, List.flatMap_append, List.flatMap_cons, List.flatMap_nil, List.append_nil, ← List.append_assoc, hrk]; rw [← hk2]; rfl⟩ hE hS (by kernel_rfl)
  simp only [List.take_length] at hI
  obtain ⟨h1, h2⟩ := hI
  have e12 : yy8 = kA12 p := by rw [show yy8 = _ from h2, e11]; rfl
  clear h1 h2
  refine rgp hE hS [ld 104, pu, ld 100, pu, pu, nw 92, cu 46 [] [92, 102, 1] (fun _ => .tuple #[]) (fun x => [none, some (.blk (p2 0).g 25 #[.slice x.a (yy8 ++ n64 [(m64 (((p.slices.l.length : Nat) : Int)))]).length x.c]), some (.bytes w.heap.size (.slice x.a (yy8 ++ n64 [(m64 (((p.slices.l.length : Nat) : Int)))]).length x.c) (yy8 ++ n64 [(m64 (((p.slices.l.length : Nat) : Int)))]))])] (fun _ => kp []) (fun p30 => kP [(102, some (.blk (p2 0).g 25 #[.slice (p30 6).a (yy8 ++ n64 [(m64 (((p.slices.l.length : Nat) : Int)))]).length (p30 6).c])), (1, some (.bytes w.heap.size (.slice (p30 6).a (yy8 ++ n64 [(m64 (((p.slices.l.length : Nat) : Int)))]).length (p30 6).c) (yy8 ++ n64 [(m64 (((p.slices.l.length : Nat) : Int)))])))]) (fun p30 => ⟨kr (cu_keyN (olds := (fun _ => False)) (w0 := w) [(m64 (((p.slices.l.length : Nat) : Int)))] 1 (p30 5).g (p2 0).g w.heap.size qq8.a qq8.c yy8 rfl (Nat.le_refl _) (by have hle := le_kA13 p; have h4 := congrArg List.length e12; simp only [kA13, List.length_append, n64_len, sb_len, List.length_cons, List.length_nil] at hle ⊢; omega)), trivial⟩) fun p30 a u hE hS => ?_
  obtain ⟨y13, hy13⟩ : ∃ y : List Int, y = yy8 ++ n64 [(m64 (((p.slices.l.length : Nat) : Int)))] := ⟨_, rfl⟩
  rw [← hy13] at hS
  have e13 : y13 = kA13 p := by rw [hy13, e12]; rfl
  clear hy13
  refine wp_seq ?_
  refine rg hE hS [pu, ld 100, pu, pu] (fun _ => kn [(207, .slice p.slices.A (p.slices.l.length : Nat) p.slices.c), (208, .int .i64 (p.slices.l.length : Nat)), (209, .int .i64 0)] [1, 2, 3, 4, 6]) (fun _ => kN [] [102, 1, 104, 62, 61, 100]) fun _ a u hE hS => ?_
  refine range_up hE hS 209 p.slices.l.length (fun _ _ => kd [209, 210, 225] []) (fun _ x => kP [(102, some (.blk (p2 0).g 25 #[.slice x.p.a x.y.length x.p.c])), (1, some (.bytes w.heap.size (.slice x.p.a x.y.length x.p.c) x.y))]) (fun k (x : Lx (List Int)) => x.n = 0 ∧ x.y = y13 ++ (p.slices.l.take k).flatMap kSlc) ⟨⟨0, (p30 6).c, undef, (p30 6).a⟩, 0, [], y13⟩ (by have := hs.slices; omega) (⟨rfl, by simp⟩) (fun k x a u hk hI hE hS K hK RK hRK => ?_) fun ⟨qq10, n1, xs1, yy10⟩ a u hI hE hS => ?_
  · obtain ⟨hk1, hk2⟩ := hI
    obtain ⟨xp, _, _, y0⟩ := x
    simp only at hk2
    have hle : y0.length + (kSlc p.slices.l[k]).length ≤ (keyB p).length := by
      have h1 := le_kA14 p
      have h2 := flat_le kSlc hk
      have h3 := congrArg List.length hk2
      have h4 := congrArg List.length e13
      simp only [kA14, List.length_append] at h1 h3 h4
      omega
    have hS := stp_el hS 90 (el_at h.slices (fun _ _ => rfl) rfl (fun g hg => ⟨hg, id⟩) k hk (by omega))
    generalize hrk : p.slices.l[k] = r at hS hle
    refine rgp hE hS [ie 90, le 90 0, nw 91, st 91] (fun p32 => kp [(18, pt (p32 2).g 0)]) (fun p32 => kP [(91, some (.blk (p32 2).g 100 (Slc.cells r).toArray))]) (fun _ => ⟨kr (show k < p.slices.l.length from hk), trivial⟩) fun p32 a u hE hS => ?_
    refine rgE hE hS [ld 104, pu, ld 91, pu, pu, ld 91, pu, pu, ld 91, pu, nw 92, cu 46 [] [92, 102, 1] (fun _ => .tuple #[]) (fun x => [none, some (.blk (p2 0).g 25 #[.slice x.a (y0 ++ n64 [(m64 r.first), (m64 r.number), (m64 r.pic)]).length x.c]), some (.bytes w.heap.size (.slice x.a (y0 ++ n64 [(m64 r.first), (m64 r.number), (m64 r.pic)]).length x.c) (y0 ++ n64 [(m64 r.first), (m64 r.number), (m64 r.pic)]))])] (fun _ => kp []) (fun p33 => kP [(102, some (.blk (p2 0).g 25 #[.slice (p33 11).a (y0 ++ n64 [(m64 r.first), (m64 r.number), (m64 r.pic)]).length (p33 11).c])), (1, some (.bytes w.heap.size (.slice (p33 11).a (y0 ++ n64 [(m64 r.first), (m64 r.number), (m64 r.pic)]).length (p33 11).c) (y0 ++ n64 [(m64 r.first), (m64 r.number), (m64 r.pic)])))]) (fun p33 => ⟨kr (cu_keyN (olds := (fun _ => False)) (w0 := w) [(m64 r.first), (m64 r.number), (m64 r.pic)] 3 (p33 10).g (p2 0).g w.heap.size xp.a xp.c y0 rfl (Nat.le_refl _) (by simp only [kSlc, List.length_append, n64_len, sb_len, List.length_cons, List.length_nil] at hle ⊢; omega)), trivial⟩) fun p33 a u hE hS => ?_
    exact hK ⟨(p33 11), 0, [], y0 ++ n64 [(m64 r.first), (m64 r.number), (m64 r.pic)]⟩ a u _ _ ⟨rfl, by rw [List.take_succ_eq_append_getElem hk, List.flatMap_append, List.flatMap_cons, List.flatMap_nil, List.append_nil, ← List.append_assoc, hrk]; rw [← hk2]; rfl⟩ hE hS (by kernel_rfl)
  simp only [List.take_length] at hI
  obtain ⟨h1, h2⟩ := hI
  have e14 : yy10 = kA14 p := by rw [show yy10 = _ from h2, e13]; rfl
  clear h1 h2
  refine rgp hE hS [ld 104, pu, ld 100, pu, pu, nw 92, cu 46 [] [92, 102, 1] (fun _ => .tuple #[]) (fun x => [none, some (.blk (p2 0).g 25 #[.slice x.a (yy10 ++ n64 [(m64 (((p.entries.l.length : Nat) : Int)))]).length x.c]), some (.bytes w.heap.size (.slice x.a (yy10 ++ n64 [(m64 (((p.entries.l.length : Nat) : Int)))]).length x.c) (yy10 ++ n64 [(m64 (((p.entries.l.length : Nat) : Int)))]))])] (fun _ => kp []) (fun p34 => kP [(102, some (.blk (p2 0).g 25 #[.slice (p34 6).a (yy10 ++ n64 [(m64 (((p.entries.l.length : Nat) : Int)))]).length (p34 6).c])), (1, some (.bytes w.heap.size (.slice (p34 6).a (yy10 ++ n64 [(m64 (((p.entries.l.length : Nat) : Int)))]).length (p34 6).c) (yy10 ++ n64 [(m64 (((p.entries.l.length : Nat) : Int)))])))]) (fun p34 => ⟨kr (cu_keyN (olds := (fun _ => False)) (w0 := w) [(m64 (((p.entries.l.length : Nat) : Int)))] 1 (p34 5).g (p2 0).g w.heap.size qq10.a qq10.c yy10 rfl (Nat.le_refl _) (by have hle := le_kA15 p; have h4 := congrArg List.length e14; simp only [kA15, List.length_append, n64_len, sb_len, List.length_cons, List.length_nil] at hle ⊢; omega)), trivial⟩) fun p34 a u hE hS => ?_
  obtain ⟨y15, hy15⟩ : ∃ y : List Int, y = yy10 ++ n64 [(m64 (((p.entries.l.length : Nat) : Int)))] := ⟨_, rfl⟩
  rw [← hy15] at hS
  have e15 : y15 = kA15 p := by rw [hy15, e14]; rfl
  clear hy15
  refine wp_seq ?_
  refine rg hE hS [pu, ld 100, pu, pu] (fun _ => kn [(234, .slice p.entries.A (p.entries.l.length : Nat) p.entries.c), (235, .int .i64 (p.entries.l.length : Nat)), (236, .int .i64 0)] [1, 2, 3, 4, 6]) (fun _ => kN [] [102, 1, 104, 62, 61, 100]) fun _ a u hE hS => ?_
  refine range_up hE hS 236 p.entries.l.length (fun _ _ => kd [236, 237, 249] []) (fun _ x => kP [(102, some (.blk (p2 0).g 25 #[.slice x.p.a x.y.length x.p.c])), (1, some (.bytes w.heap.size (.slice x.p.a x.y.length x.p.c) x.y))]) (fun k (x : Lx (List Int)) => x.n = 0 ∧ x.y = y15 ++ (p.entries.l.take k).flatMap kEnt) ⟨⟨0, (p34 6).c, undef, (p34 6).a⟩, 0, [], y15⟩ (by have := hs.entries; omega) (⟨rfl, by simp⟩) (fun k x a u hk hI hE hS K hK RK hRK => ?_) fun ⟨qq12, n1, xs1, yy12⟩ a u hI hE hS => ?_
  · obtain ⟨hk1, hk2⟩ := hI
    obtain ⟨xp, _, _, y0⟩ := x
    simp only at hk2
    have hle : y0.length + (kEnt p.entries.l[k]).length ≤ (keyB p).length := by
      have h1 := le_kA16 p
      have h2 := flat_le kEnt hk
      have h3 := congrArg List.length hk2
      have h4 := congrArg List.length e15
      simp only [kA16, List.length_append] at h1 h3 h4
      omega
    have hS := stp_el hS 90 (el_at h.entries (fun _ _ => rfl) rfl (fun g hg => ⟨hg, id⟩) k hk (by omega))
    generalize hrk : p.entries.l[k] = r at hS hle
    refine rgp hE hS [ie 90, le 90 0, nw 91, st 91] (fun p36 => kp [(20, pt (p36 2).g 0)]) (fun p36 => kP [(91, some (.blk (p36 2).g 103 (Ent.cells r).toArray))]) (fun _ => ⟨kr (show k < p.entries.l.length from hk), trivial⟩) fun p36 a u hE hS => ?_
    refine rgE hE hS [ld 104, pu, ld 91, pu, pu, ld 91, pu, nw 92, cu 46 [] [92, 102, 1] (fun _ => .tuple #[]) (fun x => [none, some (.blk (p2 0).g 25 #[.slice x.a (y0 ++ n64 [(m64 r.ssrc), (m64 r.n)]).length x.c]), some (.bytes w.heap.size (.slice x.a (y0 ++ n64 [(m64 r.ssrc), (m64 r.n)]).length x.c) (y0 ++ n64 [(m64 r.ssrc), (m64 r.n)]))])] (fun _ => kp []) (fun p37 => kP [(102, some (.blk (p2 0).g 25 #[.slice (p37 8).a (y0 ++ n64 [(m64 r.ssrc), (m64 r.n)]).length (p37 8).c])), (1, some (.bytes w.heap.size (.slice (p37 8).a (y0 ++ n64 [(m64 r.ssrc), (m64 r.n)]).length (p37 8).c) (y0 ++ n64 [(m64 r.ssrc), (m64 r.n)])))]) (fun p37 => ⟨kr (cu_keyN (olds := (fun _ => False)) (w0 := w) [(m64 r.ssrc), (m64 r.n)] 2 (p37 7).g (p2 0).g w.heap.size xp.a xp.c y0 rfl (Nat.le_refl _) (by simp only [kEnt, List.length_append, n64_len, sb_len, List.length_cons, List.length_nil] at hle ⊢; omega)), trivial⟩) fun p37 a u hE hS => ?_
    exact hK ⟨(p37 8), 0, [], y0 ++ n64 [(m64 r.ssrc), (m64 r.n)]⟩ a u _ _ ⟨rfl, by rw [List.take_succ_eq_append_getElem hk, List.flatMap_append, List.flatMap_cons, List.flatMap_nil, List.append_nil, ← List.append_assoc, hrk]; rw [← hk2]; rfl⟩ hE hS (by kernel_rfl)
  simp only [List.take_length] at hI
  obtain ⟨h1, h2⟩ := hI
  have e16 : yy12 = kA16 p := by rw [show yy12 = _ from h2, e15]; rfl
  clear h1 h2
  refine rgp hE hS [ld 104, pu, ld 100, pu, pu, ld 100, pu, pu, nw 92, cu 46 [] [92, 102, 1] (fun _ => .tuple #[]) (fun x => [none, some (.blk (p2 0).g 25 #[.slice x.a (yy12 ++ n64 [(m64 p.bits), (m64 (((p.blocks.l.length : Nat) : Int)))]).length x.c]), some (.bytes w.heap.size (.slice x.a (yy12 ++ n64 [(m64 p.bits), (m64 (((p.blocks.l.length : Nat) : Int)))]).length x.c) (yy12 ++ n64 [(m64 p.bits), (m64 (((p.blocks.l.length : Nat) : Int)))]))])] (fun _ => kp []) (fun p38 => kP [(102, some (.blk (p2 0).g 25 #[.slice (p38 9).a (yy12 ++ n64 [(m64 p.bits), (m64 (((p.blocks.l.length : Nat) : Int)))]).length (p38 9).c])), (1, some (.bytes w.heap.size (.slice (p38 9).a (yy12 ++ n64 [(m64 p.bits), (m64 (((p.blocks.l.length : Nat) : Int)))]).length (p38 9).c) (yy12 ++ n64 [(m64 p.bits), (m64 (((p.blocks.l.length : Nat) : Int)))])))]) (fun p38 => ⟨kr (cu_keyN (olds := (fun _ => False)) (w0 := w) [(m64 p.bits), (m64 (((p.blocks.l.length : Nat) : Int)))] 2 (p38 8).g (p2 0).g w.heap.size qq12.a qq12.c yy12 rfl (Nat.le_refl _) (by have hle := le_kA17 p; have h4 := congrArg List.length e16; simp only [kA17, List.length_append, n64_len, sb_len, List.length_cons, List.length_nil] at hle ⊢; omega)), trivial⟩) fun p38 a u hE hS => ?_
  obtain ⟨y17, hy17⟩ : ∃ y : List Int, y = yy12 ++ n64 [(m64 p.bits), (m64 (((p.blocks.l.length : Nat) : Int)))] := ⟨_, rfl⟩
  rw [← hy17] at hS
  have e17 : y17 = kA17 p := by rw [hy17, e16]; rfl
  clear hy17
  refine wp_seq ?_
  refine rg hE hS [pu, ld 100, pu, pu] (fun _ => kn [(261, .slice p.blocks.A (p.blocks.l.length : Nat) p.blocks.c), (262, .int .i64 (p.blocks.l.length : Nat)), (263, .int .i64 0)] [1, 2, 3, 4, 6]) (fun _ => kN [] [102, 1, 104, 62, 61, 100]) fun _ a u hE hS => ?_
  refine range_up hE hS 263 p.blocks.l.length (fun _ _ => kd [263, 264, 301] []) (fun _ x => kP [(102, some (.blk (p2 0).g 25 #[.slice x.p.a x.y.length x.p.c])), (1, some (.bytes w.heap.size (.slice x.p.a x.y.length x.p.c) x.y))]) (fun k (x : Lx (List Int)) => x.n = 0 ∧ x.y = y17 ++ (p.blocks.l.take k).flatMap kBlo) ⟨⟨0, (p38 9).c, undef, (p38 9).a⟩, 0, [], y17⟩ (by have := hs.blocks; omega) (⟨rfl, by simp⟩) (fun k x a u hk hI hE hS K hK RK hRK => ?_) fun ⟨qq14, n1, xs1, yy14⟩ a u hI hE hS => ?_
  · obtain ⟨hk1, hk2⟩ := hI
    obtain ⟨xp, _, _, y0⟩ := x
    simp only at hk2
    have hle : y0.length + (kBlo p.blocks.l[k]).length ≤ (keyB p).length := by
      have h1 := le_kA18 p
      have h2 := flat_le kBlo hk
      have h3 := congrArg List.length hk2
      have h4 := congrArg List.length e17
      simp only [kA18, List.length_append] at h1 h3 h4
      omega
    have hS := stp_el hS 90 (el_at h.blocks (fun _ _ => rfl) rfl (fun g hg => ⟨hg, id⟩) k hk (by omega))
    have hin := h.mets p.blocks.l[k] (List.getElem_mem _)
    have hns := hs.mets p.blocks.l[k] (List.getElem_mem _)
    generalize hrk : p.blocks.l[k] = r at hS hle hin hns
    refine rgp hE hS [ie 90, le 90 0, nw 91, st 91] (fun p40 => kp [(22, pt (p40 2).g 0)]) (fun p40 => kP [(91, some (.blk (p40 2).g 107 (Blo.cells r).toArray))]) (fun _ => ⟨kr (show k < p.blocks.l.length from hk), trivial⟩) fun p40 a u hE hS => ?_
    refine rgp hE hS [ld 104, pu, ld 91, pu, pu, ld 91, pu, pu, ld 91, pu, pu, nw 92, cu 46 [] [92, 102, 1] (fun _ => .tuple #[]) (fun x => [none, some (.blk (p2 0).g 25 #[.slice x.a (y0 ++ n64 [(m64 r.media), (m64 r.first), (m64 (((r.mets.l.length : Nat) : Int)))]).length x.c]), some (.bytes w.heap.size (.slice x.a (y0 ++ n64 [(m64 r.media), (m64 r.first), (m64 (((r.mets.l.length : Nat) : Int)))]).length x.c) (y0 ++ n64 [(m64 r.media), (m64 r.first), (m64 (((r.mets.l.length : Nat) : Int)))]))])] (fun _ => kp []) (fun p41 => kP [(102, some (.blk (p2 0).g 25 #[.slice (p41 12).a (y0 ++ n64 [(m64 r.media), (m64 r.first), (m64 (((r.mets.l.length : Nat) : Int)))]).length (p41 12).c])), (1, some (.bytes w.heap.size (.slice (p41 12).a (y0 ++ n64 [(m64 r.media), (m64 r.first), (m64 (((r.mets.l.length : Nat) : Int)))]).length (p41 12).c) (y0 ++ n64 [(m64 r.media), (m64 r.first), (m64 (((r.mets.l.length : Nat) : Int)))])))]) (fun p41 => ⟨kr (cu_keyN (olds := (fun _ => False)) (w0 := w) [(m64 r.media), (m64 r.first), (m64 (((r.mets.l.length : Nat) : Int)))] 3 (p41 11).g (p2 0).g w.heap.size xp.a xp.c y0 rfl (Nat.le_refl _) (by simp only [kBlo, List.length_append, n64_len, sb_len, List.length_cons, List.length_nil] at hle ⊢; omega)), trivial⟩) fun p41 a u hE hS => ?_
    refine rg hE hS [pu, ld 91, pu, pu] (fun _ => kn [(281, .slice r.mets.A (r.mets.l.length : Nat) r.mets.c), (282, .int .i64 (r.mets.l.length : Nat)), (283, .int .i64 0)] [1, 2, 3, 4, 6, 261, 262, 263]) (fun _ => kN [] [102, 1, 90, 104, 62, 61, 100]) fun _ a u hE hS => ?_
    refine range_up hE hS 283 r.mets.l.length (fun _ _ => kd [283, 284, 300] []) (fun _ y => kP [(102, some (.blk (p2 0).g 25 #[.slice y.p.a y.y.length y.p.c])), (1, some (.bytes w.heap.size (.slice y.p.a y.y.length y.p.c) y.y))]) (fun j (y : Lx (List Int)) => y.n = 0 ∧ y.y = (y0 ++ n64 [(m64 r.media), (m64 r.first), (m64 (((r.mets.l.length : Nat) : Int)))]) ++ (r.mets.l.take j).flatMap kMet) ⟨⟨0, (p41 12).c, undef, (p41 12).a⟩, 0, [], (y0 ++ n64 [(m64 r.media), (m64 r.first), (m64 (((r.mets.l.length : Nat) : Int)))])⟩ (by omega) (⟨rfl, by simp⟩) (fun j y a u hj hI hE hS K2 hK2 RK2 hRK2 => ?_) fun ⟨q2, _, _, z2⟩ a u hI2 hE hS => ?_
    · obtain ⟨hj1, hj2⟩ := hI
      obtain ⟨yp, _, _, z0⟩ := y
      simp only at hj2
      have hli : z0.length + (kMet r.mets.l[j]).length ≤ (keyB p).length := by
        have h2 := flat_le kMet hj
        have h3 := congrArg List.length hj2
        simp only [kBlo, List.length_append, n64_len, sb_len, List.length_cons, List.length_nil] at hle h3
        omega
      have hS := stp_el hS 95 (el_at hin (fun _ _ => rfl) rfl (fun g hg => ⟨hg, id⟩) j hj (by omega))
      generalize hrj : r.mets.l[j] = q at hS hli
      refine rgp hE hS [ie 95, le 95 0, nw 96, st 96] (fun p43 => kp [(24, pt (p43 2).g 0)]) (fun p43 => kP [(96, some (.blk (p43 2).g 112 (Met.cells q).toArray))]) (fun _ => ⟨kr (show j < r.mets.l.length from hj), trivial⟩) fun p43 a u hE hS => ?_
      refine dgE hE hS [ld 104, pu, pu, ld 96, cu 48 [] [] (fun _ => .int .u64 (bif q.rcv then 1 else 0)) (fun _ => []), pu, ld 96, pu, pu, ld 96, pu, nw 92, cu 46 [] [92, 102, 1] (fun _ => .tuple #[]) (fun x => [none, some (.blk (p2 0).g 25 #[.slice x.a (z0 ++ n64 [(bif q.rcv then 1 else 0), (m64 q.ecn), (m64 q.off)]).length x.c]), some (.bytes w.heap.size (.slice x.a (z0 ++ n64 [(bif q.rcv then 1 else 0), (m64 q.ecn), (m64 q.off)]).length x.c) (z0 ++ n64 [(bif q.rcv then 1 else 0), (m64 q.ecn), (m64 q.off)]))])] (fun _ => kp []) (fun p44 => kP [(102, some (.blk (p2 0).g 25 #[.slice (p44 12).a (z0 ++ n64 [(bif q.rcv then 1 else 0), (m64 q.ecn), (m64 q.off)]).length (p44 12).c])), (1, some (.bytes w.heap.size (.slice (p44 12).a (z0 ++ n64 [(bif q.rcv then 1 else 0), (m64 q.ecn), (m64 q.off)]).length (p44 12).c) (z0 ++ n64 [(bif q.rcv then 1 else 0), (m64 q.ecn), (m64 q.off)])))]) (fun p44 => ⟨kr (cu_keyF (w0 := w) (olds := fun _ => False) q.rcv), kr (cu_keyN (olds := (fun _ => False)) (w0 := w) [(bif q.rcv then 1 else 0), (m64 q.ecn), (m64 q.off)] 3 (p44 11).g (p2 0).g w.heap.size yp.a yp.c z0 rfl (Nat.le_refl _) (by simp only [kMet, List.length_append, n64_len, sb_len, List.length_cons, List.length_nil] at hli ⊢; omega)), trivial⟩) fun p44 a u hE hS => ?_
      exact hK2 ⟨(p44 12), 0, [], z0 ++ n64 [(bif q.rcv then 1 else 0), (m64 q.ecn), (m64 q.off)]⟩ a u _ _ ⟨rfl, by rw [List.take_succ_eq_append_getElem hj, List.flatMap_append, List.flatMap_cons, List.flatMap_nil, List.append_nil, ← List.append_assoc, hrj]; rw [← hj2]; first | rfl | simp only [kMet, List.append_assoc]⟩ hE hS (by kernel_rfl)
    simp only [List.take_length] at hI2
    obtain ⟨_, h2⟩ := hI2
    subst h2
    exact hK ⟨q2, 0, [], y0 ++ n64 [(m64 r.media), (m64 r.first), (m64 (((r.mets.l.length : Nat) : Int)))] ++ r.mets.l.flatMap kMet⟩ a u _ _ ⟨rfl, by rw [List.take_succ_eq_append_getElem hk, List.flatMap_append, List.flatMap_cons, List.flatMap_nil, List.append_nil, ← List.append_assoc, hrk]; rw [← hk2]; first | rfl | simp only [kBlo, List.append_assoc]⟩ hE hS (by kernel_rfl)
  simp only [List.take_length] at hI
  obtain ⟨h1, h2⟩ := hI
  have e18 : yy14 = kA18 p := by rw [show yy14 = _ from h2, e17]; rfl
  clear h1 h2
  refine rgp hE hS [ld 104, pu, ld 100, pu, pu, ld 100, pu, pu, ld 100, pu, pu, ld 100, pu, pu, ld 100, pu, pu, ld 100, pu, pu, nw 92, cu 46 [] [92, 102, 1] (fun _ => .tuple #[]) (fun x => [none, some (.blk (p2 0).g 25 #[.slice x.a (yy14 ++ n64 [(m64 p.time), (m64 p.base), (m64 p.count), (m64 p.ref), (m64 p.fb), (m64 (((p.stats.l.length : Nat) : Int)))]).length x.c]), some (.bytes w.heap.size (.slice x.a (yy14 ++ n64 [(m64 p.time), (m64 p.base), (m64 p.count), (m64 p.ref), (m64 p.fb), (m64 (((p.stats.l.length : Nat) : Int)))]).length x.c) (yy14 ++ n64 [(m64 p.time), (m64 p.base), (m64 p.count), (m64 p.ref), (m64 p.fb), (m64 (((p.stats.l.length : Nat) : Int)))]))])] (fun _ => kp []) (fun p45 => kP [(102, some (.blk (p2 0).g 25 #[.slice (p45 21).a (yy14 ++ n64 [(m64 p.time), (m64 p.base), (m64 p.count), (m64 p.ref), (m64 p.fb), (m64 (((p.stats.l.length : Nat) : Int)))]).length (p45 21).c])), (1, some (.bytes w.heap.size (.slice (p45 21).a (yy14 ++ n64 [(m64 p.time), (m64 p.base), (m64 p.count), (m64 p.ref), (m64 p.fb), (m64 (((p.stats.l.length : Nat) : Int)))]).length (p45 21).c) (yy14 ++ n64 [(m64 p.time), (m64 p.base), (m64 p.count), (m64 p.ref), (m64 p.fb), (m64 (((p.stats.l.length : Nat) : Int)))])))]) (fun p45 => ⟨kr (cu_keyN (olds := (fun _ => False)) (w0 := w) [(m64 p.time), (m64 p.base), (m64 p.count), (m64 p.ref), (m64 p.fb), (m64 (((p.stats.l.length : Nat) : Int)))] 6 (p45 20).g (p2 0).g w.heap.size qq14.a qq14.c yy14 rfl (Nat.le_refl _) (by have hle := le_kA19 p; have h4 := congrArg List.length e18; simp only [kA19, List.length_append, n64_len, sb_len, List.length_cons, List.length_nil] at hle ⊢; omega)), trivial⟩) fun p45 a u hE hS => ?_
  obtain ⟨y19, hy19⟩ : ∃ y : List Int, y = yy14 ++ n64 [(m64 p.time), (m64 p.base), (m64 p.count), (m64 p.ref), (m64 p.fb), (m64 (((p.stats.l.length : Nat) : Int)))] := ⟨_, rfl⟩
  rw [← hy19] at hS
  have e19 : y19 = kA19 p := by rw [hy19, e18]; rfl
  clear hy19
  refine wp_seq ?_
  refine rg hE hS [pu, ld 100, pu, pu] (fun _ => kn [(325, .slice p.stats.A (p.stats.l.length : Nat) p.stats.c), (326, .int .i64 (p.stats.l.length : Nat)), (327, .int .i64 0)] [1, 2, 3, 4, 6]) (fun _ => kN [] [102, 1, 104, 62, 61, 100]) fun _ a u hE hS => ?_
  refine range_up hE hS 327 p.stats.l.length (fun _ _ => kd [327, 328, 364] []) (fun _ x => kP [(102, some (.blk (p2 0).g 25 #[.slice x.p.a x.y.length x.p.c])), (1, some (.bytes w.heap.size (.slice x.p.a x.y.length x.p.c) x.y))]) (fun k (x : Lx (List Int)) => x.n = 0 ∧ x.y = y19 ++ (p.stats.l.take k).flatMap kSta) ⟨⟨0, (p45 21).c, undef, (p45 21).a⟩, 0, [], y19⟩ (by have := hs.stats; omega) (⟨rfl, by simp⟩) (fun k x a u hk hI hE hS K hK RK hRK => ?_) fun ⟨qq18, n1, xs1, yy18⟩ a u hI hE hS => ?_
  · obtain ⟨hk1, hk2⟩ := hI
    obtain ⟨xp, _, _, y0⟩ := x
    simp only at hk2
    have hle : y0.length + (kSta p.stats.l[k]).length ≤ (keyB p).length := by
      have h1 := le_kA20 p
      have h2 := flat_le kSta hk
      have h3 := congrArg List.length hk2
      have h4 := congrArg List.length e19
      simp only [kA20, List.length_append] at h1 h3 h4
      omega
    have hS := stp_el hS 90 (el_at h.stats (fun _ _ => rfl) rfl (fun g hg => ⟨hg, id⟩) k hk (by omega))
    have hin := h.lists p.stats.l[k] (List.getElem_mem _)
    have hns := hsl p.stats.l[k] (List.getElem_mem _)
    generalize hrk : p.stats.l[k] = r at hS hle hin hns
    refine rgp hE hS [ie 90, le 90 0, nw 91, st 91] (fun p47 => kp [(26, pt (p47 2).g 0)]) (fun p47 => kP [(91, some (.blk (p47 2).g 116 (Sta.cells r).toArray))]) (fun _ => ⟨kr (show k < p.stats.l.length from hk), trivial⟩) fun p47 a u hE hS => ?_
    refine dgp hE hS [ld 104, pu, pu, ld 91, cu 48 [] [] (fun _ => .int .u64 (bif r.vec then 1 else 0)) (fun _ => []), pu, ld 91, pu, pu, ld 91, pu, pu, ld 91, pu, pu, ld 91, pu, pu, nw 92, cu 46 [] [92, 102, 1] (fun _ => .tuple #[]) (fun x => [none, some (.blk (p2 0).g 25 #[.slice x.a (y0 ++ n64 [(bif r.vec then 1 else 0), (m64 r.sym), (m64 r.size), (m64 r.run), (m64 (((r.list.l.length : Nat) : Int)))]).length x.c]), some (.bytes w.heap.size (.slice x.a (y0 ++ n64 [(bif r.vec then 1 else 0), (m64 r.sym), (m64 r.size), (m64 r.run), (m64 (((r.list.l.length : Nat) : Int)))]).length x.c) (y0 ++ n64 [(bif r.vec then 1 else 0), (m64 r.sym), (m64 r.size), (m64 r.run), (m64 (((r.list.l.length : Nat) : Int)))]))])] (fun _ => kp []) (fun p48 => kP [(102, some (.blk (p2 0).g 25 #[.slice (p48 19).a (y0 ++ n64 [(bif r.vec then 1 else 0), (m64 r.sym), (m64 r.size), (m64 r.run), (m64 (((r.list.l.length : Nat) : Int)))]).length (p48 19).c])), (1, some (.bytes w.heap.size (.slice (p48 19).a (y0 ++ n64 [(bif r.vec then 1 else 0), (m64 r.sym), (m64 r.size), (m64 r.run), (m64 (((r.list.l.length : Nat) : Int)))]).length (p48 19).c) (y0 ++ n64 [(bif r.vec then 1 else 0), (m64 r.sym), (m64 r.size), (m64 r.run), (m64 (((r.list.l.length : Nat) : Int)))])))]) (fun p48 => ⟨kr (cu_keyF (w0 := w) (olds := fun _ => False) r.vec), kr (cu_keyN (olds := (fun _ => False)) (w0 := w) [(bif r.vec then 1 else 0), (m64 r.sym), (m64 r.size), (m64 r.run), (m64 (((r.list.l.length : Nat) : Int)))] 5 (p48 18).g (p2 0).g w.heap.size xp.a xp.c y0 rfl (Nat.le_refl _) (by simp only [kSta, List.length_append, n64_len, sb_len, List.length_cons, List.length_nil] at hle ⊢; omega)), trivial⟩) fun p48 a u hE hS => ?_
    refine rg hE hS [pu, ld 91, pu, pu] (fun _ => kn [(352, .slice r.list.A (r.list.l.length : Nat) r.list.c), (353, .int .i64 (r.list.l.length : Nat)), (354, .int .i64 0)] [1, 2, 3, 4, 6, 325, 326, 327]) (fun _ => kN [] [102, 1, 90, 104, 62, 61, 100]) fun _ a u hE hS => ?_
    refine range_up hE hS 354 r.list.l.length (fun _ _ => kd [354, 355, 363] []) (fun _ y => kP [(102, some (.blk (p2 0).g 25 #[.slice y.p.a y.y.length y.p.c])), (1, some (.bytes w.heap.size (.slice y.p.a y.y.length y.p.c) y.y))]) (fun j (y : Lx (List Int)) => y.n = 0 ∧ y.y = (y0 ++ n64 [(bif r.vec then 1 else 0), (m64 r.sym), (m64 r.size), (m64 r.run), (m64 (((r.list.l.length : Nat) : Int)))]) ++ (r.list.l.take j).flatMap kNum) ⟨⟨0, (p48 19).c, undef, (p48 19).a⟩, 0, [], (y0 ++ n64 [(bif r.vec then 1 else 0), (m64 r.sym), (m64 r.size), (m64 r.run), (m64 (((r.list.l.length : Nat) : Int)))])⟩ (by omega) (⟨rfl, by simp⟩) (fun j y a u hj hI hE hS K2 hK2 RK2 hRK2 => ?_) fun ⟨q2, _, _, z2⟩ a u hI2 hE hS => ?_
    · obtain ⟨hj1, hj2⟩ := hI
      obtain ⟨yp, _, _, z0⟩ := y
      simp only at hj2
      have hli : z0.length + (kNum r.list.l[j]).length ≤ (keyB p).length := by
        have h2 := flat_le kNum hj
        have h3 := congrArg List.length hj2
        simp only [kSta, List.length_append, n64_len, sb_len, List.length_cons, List.length_nil] at hle h3
        omega
      have hS := stp_el hS 95 (el_at hin (fun _ _ => rfl) rfl (fun g hg => ⟨hg, id⟩) j hj (by omega))
      generalize hrj : r.list.l[j] = q at hS hli
      refine rgp hE hS [ie 95, le 95 0, pu] (fun _ => kp [(28, .int .u16 q)]) (fun _ => kP []) (fun _ => ⟨kr (show j < r.list.l.length from hj), trivial⟩) fun _ a u hE hS => ?_
      refine rgE hE hS [ld 104, pu, pu, nw 92, cu 46 [] [92, 102, 1] (fun _ => .tuple #[]) (fun x => [none, some (.blk (p2 0).g 25 #[.slice x.a (z0 ++ n64 [(m64 q)]).length x.c]), some (.bytes w.heap.size (.slice x.a (z0 ++ n64 [(m64 q)]).length x.c) (z0 ++ n64 [(m64 q)]))])] (fun _ => kp []) (fun p51 => kP [(102, some (.blk (p2 0).g 25 #[.slice (p51 4).a (z0 ++ n64 [(m64 q)]).length (p51 4).c])), (1, some (.bytes w.heap.size (.slice (p51 4).a (z0 ++ n64 [(m64 q)]).length (p51 4).c) (z0 ++ n64 [(m64 q)])))]) (fun p51 => ⟨kr (cu_keyN (olds := (fun _ => False)) (w0 := w) [(m64 q)] 1 (p51 3).g (p2 0).g w.heap.size yp.a yp.c z0 rfl (Nat.le_refl _) (by simp only [kNum, List.length_append, n64_len, sb_len, List.length_cons, List.length_nil] at hli ⊢; omega)), trivial⟩) fun p51 a u hE hS => ?_
      exact hK2 ⟨(p51 4), 0, [], z0 ++ n64 [(m64 q)]⟩ a u _ _ ⟨rfl, by rw [List.take_succ_eq_append_getElem hj, List.flatMap_append, List.flatMap_cons, List.flatMap_nil, List.append_nil, ← List.append_assoc, hrj]; rw [← hj2]; first | rfl | simp only [kNum, List.append_assoc]⟩ hE hS (by kernel_rfl)
    simp only [List.take_length] at hI2
    obtain ⟨_, h2⟩ := hI2
    subst h2
    exact hK ⟨q2, 0, [], y0 ++ n64 [(bif r.vec then 1 else 0), (m64 r.sym), (m64 r.size), (m64 r.run), (m64 (((r.list.l.length : Nat) : Int)))] ++ r.list.l.flatMap kNum⟩ a u _ _ ⟨rfl, by rw [List.take_succ_eq_append_getElem hk, List.flatMap_append, List.flatMap_cons, List.flatMap_nil, List.append_nil, ← List.append_assoc, hrk]; rw [← hk2]; first | rfl | simp only [kSta, List.append_assoc]⟩ hE hS (by kernel_rfl)
  simp only [List.take_length] at hI
  obtain ⟨h1, h2⟩ := hI
  have e20 : yy18 = kA20 p := by rw [show yy18 = _ from h2, e19]; rfl
  clear h1 h2
  refine rgp hE hS [ld 104, pu, ld 100, pu, pu, nw 92, cu 46 [] [92, 102, 1] (fun _ => .tuple #[]) (fun x => [none, some (.blk (p2 0).g 25 #[.slice x.a (yy18 ++ n64 [(m64 (((p.deltas.l.length : Nat) : Int)))]).length x.c]), some (.bytes w.heap.size (.slice x.a (yy18 ++ n64 [(m64 (((p.deltas.l.length : Nat) : Int)))]).length x.c) (yy18 ++ n64 [(m64 (((p.deltas.l.length : Nat) : Int)))]))])] (fun _ => kp []) (fun p52 => kP [(102, some (.blk (p2 0).g 25 #[.slice (p52 6).a (yy18 ++ n64 [(m64 (((p.deltas.l.length : Nat) : Int)))]).length (p52 6).c])), (1, some (.bytes w.heap.size (.slice (p52 6).a (yy18 ++ n64 [(m64 (((p.deltas.l.length : Nat) : Int)))]).length (p52 6).c) (yy18 ++ n64 [(m64 (((p.deltas.l.length : Nat) : Int)))])))]) (fun p52 => ⟨kr (cu_keyN (olds := (fun _ => False)) (w0 := w) [(m64 (((p.deltas.l.length : Nat) : Int)))] 1 (p52 5).g (p2 0).g w.heap.size qq18.a qq18.c yy18 rfl (Nat.le_refl _) (by have hle := le_kA21 p; have h4 := congrArg List.length e20; simp only [kA21, List.length_append, n64_len, sb_len, List.length_cons, List.length_nil] at hle ⊢; omega)), trivial⟩) fun p52 a u hE hS => ?_
  obtain ⟨y21, hy21⟩ : ∃ y : List Int, y = yy18 ++ n64 [(m64 (((p.deltas.l.length : Nat) : Int)))] := ⟨_, rfl⟩
  rw [← hy21] at hS
  have e21 : y21 = kA21 p := by rw [hy21, e20]; rfl
  clear hy21
  refine wp_seq ?_
  refine rg hE hS [pu, ld 100, pu, pu] (fun _ => kn [(373, .slice p.deltas.A (p.deltas.l.length : Nat) p.deltas.c), (374, .int .i64 (p.deltas.l.length : Nat)), (375, .int .i64 0)] [2, 3, 4]) (fun _ => kN [] [102, 1, 104, 62, 61, 100]) fun _ a u hE hS => ?_
  refine range_up hE hS 375 p.deltas.l.length (fun _ _ => kd [375, 376, 388] []) (fun _ x => kP [(102, some (.blk (p2 0).g 25 #[.slice x.p.a x.y.length x.p.c])), (1, some (.bytes w.heap.size (.slice x.p.a x.y.length x.p.c) x.y))]) (fun k (x : Lx (List Int)) => x.n = 0 ∧ x.y = y21 ++ (p.deltas.l.take k).flatMap kDlt) ⟨⟨0, (p52 6).c, undef, (p52 6).a⟩, 0, [], y21⟩ (by have := hs.deltas; omega) (⟨rfl, by simp⟩) (fun k x a u hk hI hE hS K hK RK hRK => ?_) fun ⟨qq22, n1, xs1, yy22⟩ a u hI hE hS => ?_
  · obtain ⟨hk1, hk2⟩ := hI
    obtain ⟨xp, _, _, y0⟩ := x
    simp only at hk2
    have hle : y0.length + (kDlt p.deltas.l[k]).length ≤ (keyB p).length := by
      have h1 := le_kA22 p
      have h2 := flat_le kDlt hk
      have h3 := congrArg List.length hk2
      have h4 := congrArg List.length e21
      simp only [kA22, List.length_append] at h1 h3 h4
      omega
    have hS := stp_el hS 90 (el_at h.deltas (fun _ _ => rfl) rfl (fun g hg => ⟨hg, id⟩) k hk (by omega))
    generalize hrk : p.deltas.l[k] = r at hS hle
    refine rgp hE hS [ie 90, le 90 0, nw 91, st 91] (fun p54 => kp [(30, pt (p54 2).g 0)]) (fun p54 => kP [(91, some (.blk (p54 2).g 119 (Dlt.cells r).toArray))]) (fun _ => ⟨kr (show k < p.deltas.l.length from hk), trivial⟩) fun p54 a u hE hS => ?_
    refine rgE hE hS [ld 104, pu, ld 91, pu, pu, ld 91, pu, nw 92, cu 46 [] [92, 102, 1] (fun _ => .tuple #[]) (fun x => [none, some (.blk (p2 0).g 25 #[.slice x.a (y0 ++ n64 [(m64 r.ty), (m64 r.d)]).length x.c]), some (.bytes w.heap.size (.slice x.a (y0 ++ n64 [(m64 r.ty), (m64 r.d)]).length x.c) (y0 ++ n64 [(m64 r.ty), (m64 r.d)]))])] (fun _ => kp []) (fun p55 => kP [(102, some (.blk (p2 0).g 25 #[.slice (p55 8).a (y0 ++ n64 [(m64 r.ty), (m64 r.d)]).length (p55 8).c])), (1, some (.bytes w.heap.size (.slice (p55 8).a (y0 ++ n64 [(m64 r.ty), (m64 r.d)]).length (p55 8).c) (y0 ++ n64 [(m64 r.ty), (m64 r.d)])))]) (fun p55 => ⟨kr (cu_keyN (olds := (fun _ => False)) (w0 := w) [(m64 r.ty), (m64 r.d)] 2 (p55 7).g (p2 0).g w.heap.size xp.a xp.c y0 rfl (Nat.le_refl _) (by simp only [kDlt, List.length_append, n64_len, sb_len, List.length_cons, List.length_nil] at hle ⊢; omega)), trivial⟩) fun p55 a u hE hS => ?_
    exact hK ⟨(p55 8), 0, [], y0 ++ n64 [(m64 r.ty), (m64 r.d)]⟩ a u _ _ ⟨rfl, by rw [List.take_succ_eq_append_getElem hk, List.flatMap_append, List.flatMap_cons, List.flatMap_nil, List.append_nil, ← List.append_assoc, hrk]; rw [← hk2]; rfl⟩ hE hS (by kernel_rfl)
  simp only [List.take_length] at hI
  obtain ⟨h1, h2⟩ := hI
  have e22 : yy22 = kA22 p := by rw [show yy22 = _ from h2, e21]; rfl
  clear h1 h2
  refine rg hE hS [ld 102, rtb 1, pu] (fun _ => kp [(2, .string (strB (yy22)))]) (fun _ => kP []) fun _ a u hE hS => ?_
  refine wp_ret ?_
  exact ret1 hE Tryz.results19 (.string (strB yy22)) ⟨by rw [e22]; rfl, hS.below⟩
end Go.Proofs.YtmmfpgoodfgkbaaGreat
