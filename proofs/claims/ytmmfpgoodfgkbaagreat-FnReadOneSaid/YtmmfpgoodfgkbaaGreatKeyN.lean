/-
  THE WALKS of the closures of the reference's Key: numbers and texts are appended. Condition: there is room.
-/
import Derived.Test.YtmmfpgoodfgkbaaGreatMLaw
import Derived.Test.YtmmfpgoodfgkbaaGreatMPkt
import Derived.Test.YtmmfpgoodfgkbaaGreatRfb
namespace Go.Proofs.YtmmfpgoodfgkbaaGreat
open Go Go.RowKit
set_option linter.unusedVariables false
set_option linter.unusedSimpArgs false

def u64s (l : List Int) : List Value := l.map (Value.int .u64)
section
variable {P : Program} {olds : Nat → Prop} {w0 : World}
def lv (k j : Nat) (l : List Int) : Step P olds w0 where
  rd := [k]
  wr := []
  skip := false
  must := true
  V _ _ := .int .u64 (l.getD j 0)
  W _ _ := []
  chk i := match i.o.op, i.vals, i.ps with
    | .load t _, [x], [some (.blk g T cs)] => [(.v x, .v (.pointer (some ⟨g, 0 + j * 1, none⟩))), (.v (.agg cs), .v (.agg (u64s l).toArray)), (.b (!rowT P t && (P.underlying t).isSome), .b true)]
    | _, _, _ => no
  pre i := j < l.length
  ok _ i L a w K Q hc hp hs hv hL hS hK := by
    obtain ⟨o, sem, vals, ps⟩ := i
    revert hc hK hs hv hL
    simp only
    split
    · rename_i t y x g T cs ho
      intro hc hs hv hL hK
      have h1 := hc _ (List.mem_cons_self ..)
      have h3 := hc _ (List.mem_cons_of_mem _ (List.mem_cons_self ..))
      have h2 := hc _ (List.mem_cons_of_mem _ (List.mem_cons_of_mem _ (List.mem_singleton.2 rfl)))
      injection h1 with h1
      injection h2 with h2
      injection h3 with h3
      injection h3 with h3
      subst h3
      rw [Nat.zero_add, Nat.mul_one] at h1
      have hx : a.eval y = x := by simpa [ho, Op.operands] using hv
      have hb := hS.blk k (one_pc (olds := olds) (w0 := w0) hL).2
      have hp := hp rfl
      simp only [Bool.and_eq_true, Bool.not_eq_true'] at h2
      have hlen : (u64s l).length = l.length := by simp [u64s]
      have hat : (u64s l)[j]? = some (.int .u64 (l.getD j 0)) := by simp [u64s, List.getD, hp]
      have := ld_run (P := P) (t := t) (b := g) (o := j) (cs := u64s l) (j := j) (w := w) (by unfold ldB; rw [h2.1]; simp [Nat.blt_eq, hlen, hp, h2.2]) fun i v hi => by rw [hb.cell]; simpa using hi
      rw [← h1] at this
      refine exec_wp (w' := w) ?_ (hK pay0 w (stp_none w))
      simp only [execOp, ho, hx, Sem.run_bind, this, Result.andThen_ok, Sem.run_pure, ldV, h2.1, cond_false, hat, Option.getD_some]
    · intro hc; exact no_false hc
theorem f_shr {t : TypeId} (x i : Int) (n : Nat) (hi : i = (n : Int)) : ∀ w, ((do let v ← binOp .shr t (.int .u64 x) (.int .i64 i); pure (Next.value v) : Sem Next).run P w) = .ok (.value (.int .u64 (x.fdiv (2 ^ min n 64)))) w := fun w => by
  subst hi
  have hn : ¬ ((n : Nat) : Int) < 0 := by omega
  simp only [binOp, Op.shift, if_neg hn, Sem.run_bind, Sem.run_pure, Result.andThen_ok, Int.toNat_natCast]
  rfl
theorem cu_base {f : FuncId} {args : Array Value} {ks : List Nat} {ps : List (Option Pc)} {V : Pay → Value} {W : Pay → List (Option Pc)}
    (hp : ∀ olds w olds' w', den olds w (zipW ks ps) = den olds' w' (zipW ks ps)) (hW : ∀ x olds w olds' w', den olds w (zipW ks (W x)) = den olds' w' (zipW ks (W x)))
    (h : ∀ (olds : Nat → Prop) (w : World), w0.heap.size ≤ w.heap.size → Stp olds w w (lookM (den olds w (zipW ks ps))) → Calls P f args w fun e w' => ∃ x : Pay, e = .returned (V x) ∧ Stp olds w w' (lookM (den olds w (zipW ks (W x)))))
    (L : PL) (w : World) (hps : ps = ([] ++ ks).map (lookP L)) (hS : Stp olds w0 w (restr ([] ++ ks) (lookM (den olds w0 L)))) :
    Calls P f args w fun e w' => ∃ x : Pay, e = .returned (V x) ∧ Stp (blksOf (lookM (den olds w0 L)) ks) w w' (lookM (den olds w0 (zipW ks (W x)))) := by
  rw [List.nil_append] at hps hS
  have hin : ∀ n c, restr ks (lookM (den olds w0 L)) n = some c → n ∈ ks ∧ lookM (den olds w0 L) n = some c := fun n c hc => by
    unfold restr at hc
    cases hb : hasN ks n with
    | true => rw [hb] at hc; exact ⟨(hasN_mem ks n).1 hb, hc⟩
    | false => rw [hb] at hc; cases hc
  have hS2 := stp_rebase (olds2 := blksOf (lookM (den olds w0 L)) ks) hS fun n c hc g hg => ⟨n, (hin n c hc).1, c, (hin n c hc).2, hg⟩
  rw [← restr_zip, ← hps, hp _ _ (blksOf (lookM (den olds w0 L)) ks) w] at hS2
  refine (h _ _ hS.size hS2).mono ?_
  rintro e w' ⟨x, rfl, hst⟩
  exact ⟨x, rfl, by rwa [hW x _ _ olds w0] at hst⟩
end
theorem stp_drop1 {olds : Nat → Prop} {w0 w : World} {k : Nat} {c : Ck} {L : List (Nat × Option Ck)} (h : Stp olds w0 w (lookM ((k, some c) :: L))) : Stp olds w0 w (lookM ((k, none) :: L)) := h.sub fun n d hd => by
  simp only [lookM] at hd ⊢
  cases hq : Nat.beq k n with
  | true => rw [hq] at hd; cases hd
  | false => rw [hq] at hd; exact hd
def kb (v : Int) (n : Nat) : Int := v.fdiv (2 ^ min n 64) % 256
def b64 (v : Int) : List Int := (List.range 8).map fun j => kb v (56 - 8 * j)
theorem b64_len (v : Int) : (b64 v).length = 8 := by simp [b64]
theorem b64_all (v : Int) : (b64 v).take 8 = b64 v := List.take_of_length_le (by rw [b64_len]; exact Nat.le_refl _)
def n64 (l : List Int) : List Int := l.flatMap b64
theorem n64_app (a b : List Int) : n64 (a ++ b) = n64 a ++ n64 b := List.flatMap_append
theorem n64_one (x : Int) : n64 [x] = b64 x := by simp [n64]
theorem n64_len (l : List Int) : (n64 l).length = 8 * l.length := by
  unfold n64
  induction l with
  | nil => rfl
  | cons x l ih => rw [List.flatMap_cons, List.length_append, ih, b64_len, List.length_cons]; omega
theorem b64_take (v : Int) (j : Nat) (hj : j < 8) : (b64 v).take (j + 1) = (b64 v).take j ++ [kb v (56 - 8 * j)] := by
  rw [List.take_succ_eq_append_getElem (by rw [b64_len]; exact hj)]
  congr 1
  simp [b64]
variable {P : Program} {n : Nat} {a : Act} {w : World} {l0 : List (Nat × Value)} in
theorem ret0 {fn : Func} {R : Ending → World → Prop} (hE : Env n l0 a) (h : fn.results = #[]) (hR : R (.returned (.tuple #[])) w) : bodyPost P fn R .normal a w :=
  bodyPost_end (by simp [results, h]) hE.defers hR
set_option maxHeartbeats 4000000 in
set_option maxRecDepth 100000 in
theorem keyN_any (vals : List Int) (g92 g base : Nat) (A : Option Addr) (c : Nat) (l : List Int) (olds : Nat → Prop) (w : World) (hbase : base ≤ w.heap.size) (hl : l.length + 8 * vals.length ≤ 1099511627776) (hS0 : Stp olds w w (lookM (den olds w (zipW [92, 102, 1] [some (.blk g92 23 (u64s vals).toArray), some (.blk g 25 #[.slice A l.length c]), some (.bytes base (.slice A l.length c) l)])))) :
    Calls Tryz.prog 46 #[.slice (some ⟨g92, 0, none⟩) vals.length vals.length, .pointer (some ⟨g, 0, none⟩)] w fun e w' => ∃ x : Pay, e = .returned (.tuple #[]) ∧ Stp olds w w' (lookM (den olds w (zipW [92, 102, 1] [none, some (.blk g 25 #[.slice x.a (l ++ n64 vals).length x.c]), some (.bytes base (.slice x.a (l ++ n64 vals).length x.c) (l ++ n64 vals))]))) := by
  refine go_in Tryz.func46 rfl Tryz.ntmps46 [sv g92 0 vals.length vals.length, pt g 0] fun a hE => ?_
  have hS := hS0
  refine rg hE hS [pu, pu, pu] (fun _ => kn [(6, sv g92 0 vals.length vals.length), (7, .int .i64 (vals.length : Nat)), (8, .int .i64 0)] [1]) (fun _ => kN [] [92, 102, 1]) fun _ a u hE hS => ?_
  refine range_up hE hS 8 vals.length (fun _ _ => kd [8, 9, 23] []) (fun _ x => kP [(102, some (.blk g 25 #[.slice x.p.a x.y.length x.p.c])), (1, some (.bytes base (.slice x.p.a x.y.length x.p.c) x.y))]) (fun k (x : Lx (List Int)) => x.n = 0 ∧ x.y = l ++ n64 (vals.take k)) ⟨⟨0, c, undef, A⟩, 0, [], l⟩ (by omega) (⟨rfl, by simp [n64]⟩) (fun k x a u hk hI hE hS K hK RK hRK => ?_) fun ⟨qq, n1, xs1, yy⟩ a u hI hE hS => ?_
  · obtain ⟨hk1, hk2⟩ := hI
    have hle : (x.y ++ b64 (vals.getD k 0)).length ≤ l.length + 8 * vals.length := by rw [hk2, List.length_append, List.length_append, n64_len, List.length_take, b64_len]; omega
    obtain ⟨xp, _, _, y0⟩ := x
    simp only at hk2 hle
    refine rgp hE hS [ix, lv 92 k vals, pu] (fun _ => kp [(4, .int .u64 (vals.getD k 0))]) (fun _ => kP []) (fun _ => ⟨kr (show k < vals.length from hk), kr (show k < vals.length from hk), trivial⟩) fun _ a u hE hS => ?_
    refine rg hE hS [pu] (fun _ => kp [(5, .int .i64 56)]) (fun _ => kP []) fun _ a u hE hS => ?_
    refine wp_block ?_
    refine loop_k hE hS 8 (fun j y => kd [5, 9] [(5, .int .i64 (56 - 8 * (j : Int)))]) (fun j y => kN [(102, some (.blk g 25 #[.slice y.p.a y.y.length y.p.c])), (1, some (.bytes base (.slice y.p.a y.y.length y.p.c) y.y))] [92]) (fun j (y : Lx (List Int)) => y.n = 0 ∧ y.y = y0 ++ (b64 (vals.getD k 0)).take j) ⟨xp, 0, [], y0⟩ (⟨rfl, by simp⟩) ?_
    intro j y a u hkj hI2 hE hS K2 hK2
    obtain ⟨hj1, hj2⟩ := hI2
    obtain ⟨yp, _, _, z0⟩ := y
    simp only at hj1 hj2
    by_cases hltj : j < 8
    · skip
      have hz0 : z0.length = y0.length + j := by rw [hj2, List.length_append, List.length_take, b64_len]; omega
      refine wp_seq ?_
      refine rgp hE hS [pu, pe (.bool true)] (fun _ => kp [(13, .bool true)]) (fun _ => kP []) (fun _ => ⟨kr (congrArg Value.bool (decide_eq_true (show (56 - 8 * (j : Int)) ≥ 0 by omega))), trivial⟩) fun _ a u hE hS => ?_
      refine ift hE ?_
      refine wp_skip ?_
      refine wp_seq ?_
      refine wp_block ?_
      refine dgE hE hS [ld 102, pu, pu, pf (.int .u64 ((vals.getD k 0).fdiv (2 ^ min (56 - 8 * j) 64))), pu, nw 93, ab .lit 1 93, st 102] (fun _ => kp []) (fun p5 => kP [(102, some (.blk g 25 #[.slice (p5 6).a (z0 ++ [kb (vals.getD k 0) (56 - 8 * j)]).length (p5 6).c])), (1, some (.bytes base (.slice (p5 6).a (z0 ++ [kb (vals.getD k 0) (56 - 8 * j)]).length (p5 6).c) (z0 ++ [kb (vals.getD k 0) (56 - 8 * j)])))]) (fun _ => ⟨kr (f_shr (P := Tryz.prog) (t := 23) (vals.getD k 0) (56 - 8 * (j : Int)) (56 - 8 * j) (by omega)), kr (show base ≤ w.heap.size ∧ (z0 ++ [kb (vals.getD k 0) (56 - 8 * j)]).length ≤ 140737488355328 from ⟨hbase, by rw [List.length_append] at hle; rw [b64_len] at hle; rw [List.length_append, List.length_singleton]; omega⟩), trivial⟩) fun p5 a u hE hS => ?_
      refine rgE hE hS [pu, pe (.int .i64 (56 - 8 * ((j + 1 : Nat) : Int))), pu] (fun _ => kp [(5, .int .i64 (56 - 8 * ((j + 1 : Nat) : Int)))]) (fun _ => kP []) (fun _ => ⟨kr (congrArg (Value.int .i64) (show IntKind.i64.wrap ((56 - 8 * (j : Int)) - 8) = 56 - 8 * ((j + 1 : Nat) : Int) from (IntWalk.i64_in _ (by omega)).trans (by omega))), trivial⟩) fun _ a u hE hS => ?_
      exact hK2 ⟨(p5 6), 0, [], z0 ++ [kb (vals.getD k 0) (56 - 8 * j)]⟩ a u _ _ hltj ⟨rfl, by show z0 ++ _ = _; rw [hj2, b64_take _ j hltj, List.append_assoc]⟩ hE hS (by kernel_rfl)
    · obtain rfl : 8 = j := by omega
      refine wp_seq ?_
      refine rgp hE hS [pu, pe (.bool false)] (fun _ => kp [(13, .bool false)]) (fun _ => kP []) (fun _ => ⟨kr (congrArg Value.bool (decide_eq_false (show ¬ ((56 - 8 * ((8 : Nat) : Int)) ≥ 0) by omega))), trivial⟩) fun _ a u hE hS => ?_
      refine iff hE ?_
      refine wp_exit ?_
      exact hK ⟨yp, 0, [], z0⟩ a u _ _ ⟨rfl, by show z0 = _; rw [hj2, hk2, b64_all, List.take_succ_eq_append_getElem hk, n64_app, n64_one, show vals.getD k 0 = vals[k] by simp [List.getD, hk], List.append_assoc]⟩ hE hS (by kernel_rfl)
  simp only [List.take_length] at hI
  obtain ⟨h1, h2⟩ := hI
  subst h1 h2
  exact ret0 hE Tryz.results46 ⟨⟨0, qq.c, undef, qq.a⟩, rfl, stp_drop1 (end_mem (s := ⟨[], _⟩) (s' := ⟨[], zipW [92, 102, 1] [some (.blk g92 23 (u64s vals).toArray), some (.blk g 25 #[.slice qq.a (l ++ n64 vals).length qq.c]), some (.bytes base (.slice qq.a (l ++ n64 vals).length qq.c) (l ++ n64 vals))]⟩) (fst_snd (by kernel_rfl)) hS)⟩
theorem cu_keyN {olds : Nat → Prop} {w0 : World} (vals : List Int) (n g92 g base : Nat) (A : Option Addr) (c : Nat) (l : List Int) (hn : n = vals.length) (hbase : base ≤ w0.heap.size) (hl : l.length + 8 * vals.length ≤ 1099511627776)
    (L : PL) (w : World) (hps : [some (.blk g92 23 (u64s vals).toArray), some (.blk g 25 #[.slice A l.length c]), some (.bytes base (.slice A l.length c) l)] = ([] ++ [92, 102, 1]).map (lookP L)) (hS : Stp olds w0 w (restr ([] ++ [92, 102, 1]) (lookM (den olds w0 L)))) :
    Calls Tryz.prog 46 #[.slice (some ⟨g92, 0, none⟩) n n, .pointer (some ⟨g, 0, none⟩)] w fun e w' => ∃ x : Pay, e = .returned (.tuple #[]) ∧ Stp (blksOf (lookM (den olds w0 L)) [92, 102, 1]) w w' (lookM (den olds w0 (zipW [92, 102, 1] [none, some (.blk g 25 #[.slice x.a (l ++ n64 vals).length x.c]), some (.bytes base (.slice x.a (l ++ n64 vals).length x.c) (l ++ n64 vals))]))) := by
  subst hn
  exact cu_base (V := fun _ => .tuple #[]) (W := fun x => [none, some (.blk g 25 #[.slice x.a (l ++ n64 vals).length x.c]), some (.bytes base (.slice x.a (l ++ n64 vals).length x.c) (l ++ n64 vals))]) (fun _ _ _ _ => rfl) (fun _ _ _ _ _ => rfl) (fun olds2 w2 hs2 hS2 => keyN_any vals g92 g base A c l olds2 w2 (Nat.le_trans hbase hs2) hl hS2) L w hps hS
set_option maxHeartbeats 4000000 in
set_option maxRecDepth 100000 in
theorem keyT_any (s : ByteArray) (gn g base : Nat) (A : Option Addr) (c : Nat) (l : List Int) (olds : Nat → Prop) (w : World) (hbase : base ≤ w.heap.size) (hl : l.length + 8 + s.size ≤ 1099511627776) (hS0 : Stp olds w w (lookM (den olds w (zipW [104, 102, 1] [some (.blk gn 142 #[.func (.func 46) #[] #[pt g 0]]), some (.blk g 25 #[.slice A l.length c]), some (.bytes base (.slice A l.length c) l)])))) :
    Calls Tryz.prog 47 #[.string s, .pointer (some ⟨gn, 0, none⟩), .pointer (some ⟨g, 0, none⟩)] w fun e w' => ∃ x : Pay, e = .returned (.tuple #[]) ∧ Stp olds w w' (lookM (den olds w (zipW [104, 102, 1] [some (.blk gn 142 #[.func (.func 46) #[] #[pt g 0]]), some (.blk g 25 #[.slice x.a (l ++ n64 [(s.size : Int)] ++ sb s).length x.c]), some (.bytes base (.slice x.a (l ++ n64 [(s.size : Int)] ++ sb s).length x.c) (l ++ n64 [(s.size : Int)] ++ sb s))]))) := by
  refine go_in Tryz.func47 rfl Tryz.ntmps47 [.string s, pt gn 0, pt g 0] fun a hE => ?_
  have hS := hS0
  refine rgp hE hS [ld 104, pu, pu, pe (.int .u64 (s.size : Nat)), nw 92, cu 46 [] [92, 102, 1] (fun _ => .tuple #[]) (fun x => [none, some (.blk g 25 #[.slice x.a (l ++ n64 [(s.size : Int)]).length x.c]), some (.bytes base (.slice x.a (l ++ n64 [(s.size : Int)]).length x.c) (l ++ n64 [(s.size : Int)]))])] (fun _ => kp []) (fun p1 => kP [(102, some (.blk g 25 #[.slice (p1 5).a (l ++ n64 [(s.size : Int)]).length (p1 5).c])), (1, some (.bytes base (.slice (p1 5).a (l ++ n64 [(s.size : Int)]).length (p1 5).c) (l ++ n64 [(s.size : Int)])))]) (fun p1 => ⟨kr (congrArg (Value.int .u64) (show ((s.size : Nat) : Int) % 18446744073709551616 = ((s.size : Nat) : Int) from Int.emod_eq_of_lt (by omega) (by omega))), kr (cu_keyN (olds := olds) (w0 := w) [(s.size : Int)] 1 (p1 4).g g base A c l rfl hbase (by simp; omega)), trivial⟩) fun p1 a u hE hS => ?_
  refine rgE hE hS [ld 102, pu, ab .str 1 1, st 102] (fun _ => kp []) (fun p2 => kP [(102, some (.blk g 25 #[.slice (p2 2).a (l ++ n64 [(s.size : Int)] ++ sb s).length (p2 2).c])), (1, some (.bytes base (.slice (p2 2).a (l ++ n64 [(s.size : Int)] ++ sb s).length (p2 2).c) (l ++ n64 [(s.size : Int)] ++ sb s)))]) (fun _ => ⟨kr (show base ≤ w.heap.size ∧ (l ++ n64 [(s.size : Int)] ++ sb s).length ≤ 140737488355328 from ⟨hbase, by rw [List.length_append, List.length_append, n64_len, sb_len]; simp; omega⟩), trivial⟩) fun p2 a u hE hS => ?_
  exact ret0 hE Tryz.results47 ⟨⟨0, (p2 2).c, undef, (p2 2).a⟩, rfl, end_mem (s := ⟨[], _⟩) (s' := ⟨[], _⟩) (fst_snd (by kernel_rfl)) hS⟩
theorem cu_keyT {olds : Nat → Prop} {w0 : World} (s : ByteArray) (gn g base : Nat) (A : Option Addr) (c : Nat) (l : List Int) (hbase : base ≤ w0.heap.size) (hl : l.length + 8 + s.size ≤ 1099511627776)
    (L : PL) (w : World) (hps : [some (.blk gn 142 #[.func (.func 46) #[] #[pt g 0]]), some (.blk g 25 #[.slice A l.length c]), some (.bytes base (.slice A l.length c) l)] = ([] ++ [104, 102, 1]).map (lookP L)) (hS : Stp olds w0 w (restr ([] ++ [104, 102, 1]) (lookM (den olds w0 L)))) :
    Calls Tryz.prog 47 #[.string s, .pointer (some ⟨gn, 0, none⟩), .pointer (some ⟨g, 0, none⟩)] w fun e w' => ∃ x : Pay, e = .returned (.tuple #[]) ∧ Stp (blksOf (lookM (den olds w0 L)) [104, 102, 1]) w w' (lookM (den olds w0 (zipW [104, 102, 1] [some (.blk gn 142 #[.func (.func 46) #[] #[pt g 0]]), some (.blk g 25 #[.slice x.a (l ++ n64 [(s.size : Int)] ++ sb s).length x.c]), some (.bytes base (.slice x.a (l ++ n64 [(s.size : Int)] ++ sb s).length x.c) (l ++ n64 [(s.size : Int)] ++ sb s))]))) :=
  cu_base (V := fun _ => .tuple #[]) (W := fun x => [some (.blk gn 142 #[.func (.func 46) #[] #[pt g 0]]), some (.blk g 25 #[.slice x.a (l ++ n64 [(s.size : Int)] ++ sb s).length x.c]), some (.bytes base (.slice x.a (l ++ n64 [(s.size : Int)] ++ sb s).length x.c) (l ++ n64 [(s.size : Int)] ++ sb s))]) (fun _ _ _ _ => rfl) (fun _ _ _ _ _ => rfl) (fun olds2 w2 hs2 hS2 => keyT_any s gn g base A c l olds2 w2 (Nat.le_trans hbase hs2) hl hS2) L w hps hS
theorem keyF_any (b : Bool) (w : World) :
    Calls Tryz.prog 48 #[.bool b] w fun e w' => e = .returned (.int .u64 (bif b then 1 else 0)) ∧ Below w.heap.size w w' := by
  cases b
  · skip
    refine go_in Tryz.func48 rfl Tryz.ntmps48 [.bool false] fun a hE => ?_
    have hS := stp_in w
    refine rg hE hS [pu] (fun _ => kp [(2, .int .u64 0)]) (fun _ => kP []) fun _ a u hE hS => ?_
    refine wp_seq ?_
    refine rg hE hS [pu] (fun _ => kp [(3, .bool false)]) (fun _ => kP []) fun _ a u hE hS => ?_
    refine iff hE ?_
    refine wp_skip ?_
    refine rg hE hS [pu] (fun _ => kp []) (fun _ => kP []) fun _ a u hE hS => ?_
    refine wp_ret ?_
    exact ret1 hE Tryz.results48 (.int .u64 0) ⟨rfl, hS.below⟩
  · skip
    refine go_in Tryz.func48 rfl Tryz.ntmps48 [.bool true] fun a hE => ?_
    have hS := stp_in w
    refine rg hE hS [pu] (fun _ => kp [(2, .int .u64 0)]) (fun _ => kP []) fun _ a u hE hS => ?_
    refine wp_seq ?_
    refine rg hE hS [pu] (fun _ => kp [(3, .bool true)]) (fun _ => kP []) fun _ a u hE hS => ?_
    refine ift hE ?_
    refine rg hE hS [pu] (fun _ => kp [(2, .int .u64 1)]) (fun _ => kP []) fun _ a u hE hS => ?_
    refine wp_ret (thR ?_)
    exact ret1 hE Tryz.results48 (.int .u64 1) ⟨rfl, hS.below⟩
end Go.Proofs.YtmmfpgoodfgkbaaGreat
