/-
  CONTRACTS of the reference's writing: noughts up to a whole word, the count of a packet's parts, a report block. Condition: fewer than 2^46 bytes.
-/
import Derived.Test.YtmmfpgoodfgkbaaGreatCtForm
import Derived.Test.YtmmfpgoodfgkbaaGreatSpecReport
namespace Go.Proofs.YtmmfpgoodfgkbaaGreat
open Go Go.RowKit
set_option linter.unusedVariables false

/-- How many noughts fill a word. -/
def padN (n : Nat) : Nat := (4 - n % 4) % 4
def padB (l : List Int) : List Int := l ++ List.replicate (padN l.length) 0
theorem padB_len (l : List Int) : (padB l).length = l.length + padN l.length := by simp [padB]
theorem padB_len_le (l : List Int) : (padB l).length ≤ l.length + 3 := by rw [padB_len]; unfold padN; omega
theorem be32s_len (l : List Int) : (l.flatMap be32).length = 4 * l.length := by
  induction l with
  | nil => rfl
  | cons x l ih => rw [List.flatMap_cons, List.length_append, ih]; simp [be32_len]; omega
theorem i64_and31 (n : Int) : bits .and .i64 n 31 = n % 32 := by
  have h31 : (BitVec.ofInt 64 31).toNat = 2 ^ 5 - 1 := by decide
  have key : (BitVec.ofInt 64 n &&& BitVec.ofInt 64 31).toNat = (n % ((2 ^ 64 : Nat) : Int)).toNat % 2 ^ 5 := by
    rw [BitVec.toNat_and, BitVec.toNat_ofInt, h31, Nat.and_two_pow_sub_one_eq_mod]
  show IntKind.i64.wrap ((BitVec.ofInt 64 n &&& BitVec.ofInt 64 31).toNat : Nat) = n % 32
  rw [key, IntKind.wrap_i64]
  omega
theorem bodyPost_leave0 {P : Program} {fn : Func} {R : Ending → World → Prop} {a : Act} {w : World} (hr : fn.results = #[]) (hd : a.defers = []) (hR : R (.returned (.tuple #[])) w) : bodyPost P fn R .normal a w := by
  unfold bodyPost
  simp only [hd]
  simpa [results, hr] using hR

set_option maxRecDepth 100000 in
theorem padded_g (B : Nat) (b : Value) (l : List Int) (w : World) (hown : OwnB w B b l) (hB : B ≤ w.heap.size) (hn : l.length ≤ 70368744177000) :
    Calls Tryz.prog 75 #[b] w (Grow w B b (padB l)) := by
  obtain ⟨A, c0, rfl⟩ := own_form hown
  refine go_in Tryz.func75 rfl Tryz.ntmps75 [.slice A l.length c0] fun a hE => ?_
  have hS := stp_row1 1 hown
  refine rg hE hS [pu] (fun _ => kp [(2, .slice none 0 0)]) (fun _ => kP []) fun _ a u hE hS => ?_
  refine wp_seq ?_
  refine wp_block ?_
  refine loop_k hE hS (padN l.length) (fun k x => kd [3, 4, 5, 6, 7, 8, 9] [(0, .slice x.p.a x.y.length x.p.c)]) (fun k x => kP [(1, some (.bytes B (.slice x.p.a x.y.length x.p.c) x.y))]) (fun k (x : Lx (List Int)) => x.y = l ++ List.replicate k 0) ⟨⟨0, c0, undef, A⟩, 0, [], l⟩ (by simp) ?_
  intro k x a u hk hx hE hS K hK
  have hp3 : padN l.length ≤ 3 := by unfold padN; omega
  have hxl : x.y.length = l.length + k := by rw [hx]; simp
  have hrem : (x.y.length : Int).tmod 4 = ((l.length + k : Nat) : Int) % 4 := by rw [Int.tmod_eq_emod_of_nonneg (by omega), hxl]
  by_cases hlt : k < padN l.length
  · have hq : (!((x.y.length : Int).tmod 4 == 0)) = true := by rw [hrem]; unfold padN at hlt; simp; omega
    refine wp_seq ?_
    refine rgp hE hS [pu, pu, pu, pe (.bool true)] (fun _ => kp [(6, .bool true)]) (fun _ => kP []) (fun _ => ⟨kr (congrArg Value.bool hq), trivial⟩) fun _ a u hE hS => ?_
    refine ift hE ?_
    refine wp_skip ?_
    refine wp_block ?_
    refine rgE hE hS [pu, nw 2, ab .lit 1 2, pu] (fun p3 => kp [(0, .slice (p3 2).a (x.y ++ [0]).length (p3 2).c)]) (fun p3 => kP [(1, some (.bytes B (.slice (p3 2).a (x.y ++ [0]).length (p3 2).c) (x.y ++ [0])))]) (fun _ => ⟨kr (show B ≤ w.heap.size ∧ (x.y ++ [0]).length ≤ 140737488355328 by simp; omega), trivial⟩) fun p3 a u hE hS => ?_
    exact hK ⟨(p3 2), 0, [], x.y ++ [0]⟩ a u _ _ hlt (by rw [hx, List.append_assoc, List.replicate_succ']) hE hS (by kernel_rfl)
  · have hk2 : k = padN l.length := by omega
    subst hk2
    have hq : (!((x.y.length : Int).tmod 4 == 0)) = false := by rw [hrem]; unfold padN; simp; omega
    refine wp_seq ?_
    refine rgp hE hS [pu, pu, pu, pe (.bool false)] (fun _ => kp [(6, .bool false)]) (fun _ => kP []) (fun _ => ⟨kr (congrArg Value.bool hq), trivial⟩) fun _ a u hE hS => ?_
    refine iff hE ?_
    refine wp_exit ?_
    refine rg hE hS [pu, pu] (fun _ => kp [(2, .slice x.p.a x.y.length x.p.c)]) (fun _ => kP []) fun _ a u hE hS => ?_
    refine wp_ret ?_
    refine ret1 hE Tryz.results75 (.slice x.p.a x.y.length x.p.c) ⟨_, rfl, ?_, hS.grownBy _ (fun g h => h), fun g hg => ?_⟩
    · have ho : OwnB u B (.slice x.p.a x.y.length x.p.c) x.y := hS.row 1 (by rw [lookM_den]; kernel_rfl)
      rw [hx] at ho ⊢
      exact ho
    · have := (hS.lt 1 (ckR B 5 1 (.slice x.p.a x.y.length x.p.c) x.y.length (u8s x.y)) (by rw [lookM_den]; kernel_rfl) g hg).2
      exact this.symm
set_option maxRecDepth 100000 in
theorem count_g (n c t : Int) (b : Bool) (go gh : Nat) (w : World) (h0 : 0 ≤ n) (ho : Blk w go 4 #[.bool b]) (hh : Blk w gh 36 #[.bool false, .int .u8 c, .int .u8 t, .int .u16 0]) (hne : go ≠ gh) :
    Calls Tryz.prog 72 #[.int .i64 n, .pointer (some ⟨go, 0, none⟩), .pointer (some ⟨gh, 0, none⟩)] w fun e w' => e = .returned (.tuple #[]) ∧ Stp (fun x => x = go ∨ x = gh) w w' (lookM (den (fun x => x = go ∨ x = gh) w [(1, some (.blk go 4 #[.bool (b && decide (n ≤ 31))])), (2, some (.blk gh 36 #[.bool false, .int .u8 (n % 32), .int .u8 t, .int .u16 0]))])) := by
  have hcnt : IntKind.u8.wrap (bits .and .i64 n 31) = n % 32 := by rw [i64_and31, IntKind.wrap_u8]; omega
  by_cases hn : n > 31
  · have hd : decide (n > 31) = true := decide_eq_true hn
    have hb : (b && decide (n ≤ 31)) = false := by rw [decide_eq_false (by omega)]; simp
    rw [hb]
    refine go_in Tryz.func72 rfl Tryz.ntmps72 [.int .i64 n, pt go 0, pt gh 0] fun a hE => ?_
    have hS := stp_blk2 1 2 ho hh hne
    refine wp_seq ?_
    refine rgp hE hS [pu, pe (.bool true)] (fun _ => kp [(5, .bool true)]) (fun _ => kP []) (fun _ => ⟨kr (congrArg Value.bool hd), trivial⟩) fun _ a u hE hS => ?_
    refine ift hE ?_
    refine rgE hE hS [st 1] (fun _ => kp []) (fun _ => kP [(1, some (.blk go 4 #[.bool false]))]) (fun _ => trivial) fun _ a u hE hS => ?_
    refine rgE hE hS [pu, pu, pe (.int .u8 (n % 32)), pu, st 2] (fun _ => kp []) (fun _ => kP [(2, some (.blk gh 36 #[.bool false, .int .u8 (n % 32), .int .u8 t, .int .u16 0]))]) (fun _ => ⟨kr (congrArg (Value.int .u8) hcnt), trivial⟩) fun _ a u hE hS => ?_
    exact bodyPost_leave0 rfl hE.defers ⟨rfl, end_mem (s := ⟨[], _⟩) (s' := ⟨[], [(1, some (.blk go 4 #[.bool false])), (2, some (.blk gh 36 #[.bool false, .int .u8 (n % 32), .int .u8 t, .int .u16 0]))]⟩) (fst_snd (by kernel_rfl)) hS⟩
  · have hd : decide (n > 31) = false := decide_eq_false hn
    have hb : (b && decide (n ≤ 31)) = b := by rw [decide_eq_true (by omega)]; simp
    rw [hb]
    refine go_in Tryz.func72 rfl Tryz.ntmps72 [.int .i64 n, pt go 0, pt gh 0] fun a hE => ?_
    have hS := stp_blk2 1 2 ho hh hne
    refine wp_seq ?_
    refine rgp hE hS [pu, pe (.bool false)] (fun _ => kp [(5, .bool false)]) (fun _ => kP []) (fun _ => ⟨kr (congrArg Value.bool hd), trivial⟩) fun _ a u hE hS => ?_
    refine iff hE ?_
    refine wp_skip ?_
    refine rgE hE hS [pu, pu, pe (.int .u8 (n % 32)), pu, st 2] (fun _ => kp []) (fun _ => kP [(2, some (.blk gh 36 #[.bool false, .int .u8 (n % 32), .int .u8 t, .int .u16 0]))]) (fun _ => ⟨kr (congrArg (Value.int .u8) hcnt), trivial⟩) fun _ a u hE hS => ?_
    exact bodyPost_leave0 rfl hE.defers ⟨rfl, end_mem (s := ⟨[], _⟩) (s' := ⟨[], [(1, some (.blk go 4 #[.bool b])), (2, some (.blk gh 36 #[.bool false, .int .u8 (n % 32), .int .u8 t, .int .u16 0]))]⟩) (fst_snd (by kernel_rfl)) hS⟩
/-- 'padded' as a contract. -/
def padc : Ct Tryz.prog where
  f := 75
  must := true
  nr := 0
  nw := 1
  V args ps p := match ps with
    | [some (.bytes base v l)] => .slice p.a (padB l).length p.c
    | _ => undef
  W args ps p := match ps with
    | [some (.bytes base v l)] => [some (.bytes base (.slice p.a (padB l).length p.c) (padB l))]
    | _ => []
  chk args ps := match args.toList, ps with
    | [b], [some (.bytes base v l)] => [(.v b, .v v)]
    | _, _ => no
  pre s args ps := match ps with
    | [some (.bytes base v l)] => base ≤ s ∧ l.length ≤ 70368744177000
    | _ => True
  ok olds w0 rd wr args ps L w hrd hwr := by
    obtain ⟨k, rfl⟩ := len1 hwr
    have := len0 hrd
    subst this
    split
    · rename_i b base v l ha
      intro hc hp hL hS
      have h1 := hc _ (List.mem_singleton.2 rfl)
      injection h1 with h1
      obtain ⟨p1, p2⟩ := hp rfl
      have ha' : args = #[b] := by apply Array.ext'; simpa using ha
      subst ha'
      obtain ⟨hl, hr⟩ := one_pc (olds := olds) (w0 := w0) hL
      have hb : OwnB w base v l := hS.row k hr
      rw [h1]
      refine (padded_g base v l w hb (Nat.le_trans p1 hS.size) p2).mono fun e w' ⟨v', he, ho, hg, hor⟩ => ?_
      obtain ⟨A, c, hv'⟩ := own_form ho
      subst hv'
      exact ⟨⟨0, c, undef, A⟩, he, stp_turn hl hg (fun g e => e) ho fun g hgb => ⟨(ho.lt g hgb).2, (hor g hgb).symm⟩⟩
    · intro hc; exact no_false hc
def boolOf : Value → Bool
  | .bool b => b
  | _ => false
/-- The count as a contract: the flag, the header. -/
def countc : Ct Tryz.prog where
  f := 72
  must := true
  nr := 0
  nw := 2
  V _ _ _ := .tuple #[]
  W args ps p := match args.toList, ps with
    | n :: _, [some (.blk go _ o), some (.blk gh _ h)] => [some (.blk go 4 #[.bool (boolOf (o.getD 0 undef) && decide (intOf n ≤ 31))]), some (.blk gh 36 #[.bool false, .int .u8 (intOf n % 32), .int .u8 (intOf (h.getD 2 undef)), .int .u16 0])]
    | _, _ => []
  chk args ps := match args.toList, ps with
    | [n, x, y], [some (.blk go T o), some (.blk gh T2 h)] => [(.v n, .v (.int .i64 (intOf n))), (.v x, .v (.pointer (some ⟨go, 0, none⟩))), (.v y, .v (.pointer (some ⟨gh, 0, none⟩))), (.p (some (.blk go T o)), .p (some (.blk go 4 #[.bool (boolOf (o.getD 0 undef))]))), (.p (some (.blk gh T2 h)), .p (some (.blk gh 36 #[.bool false, .int .u8 (intOf (h.getD 1 undef)), .int .u8 (intOf (h.getD 2 undef)), .int .u16 0])))]
    | _, _ => no
  pre s args ps := match args.toList, ps with
    | n :: _, [some (.blk go T o), some (.blk gh T2 h)] => 0 ≤ intOf n
    | _, _ => True
  ok olds w0 rd wr args ps L w hrd hwr := by
    obtain ⟨k, k2, rfl⟩ := len2 hwr
    have := len0 hrd
    subst this
    split
    · rename_i n x y go T o gh T2 h ha
      intro hc hp hL hS
      have h1 := hc _ (List.mem_cons_self ..)
      have h2 := hc _ (List.mem_cons_of_mem _ (List.mem_cons_self ..))
      have h3 := hc _ (List.mem_cons_of_mem _ (List.mem_cons_of_mem _ (List.mem_cons_self ..)))
      have h4 := hc _ (List.mem_cons_of_mem _ (List.mem_cons_of_mem _ (List.mem_cons_of_mem _ (List.mem_cons_self ..))))
      have h5 := hc _ (List.mem_cons_of_mem _ (List.mem_cons_of_mem _ (List.mem_cons_of_mem _ (List.mem_cons_of_mem _ (List.mem_singleton.2 rfl)))))
      injection h1 with h1
      injection h2 with h2
      injection h3 with h3
      injection h4 with h4
      injection h5 with h5
      injection h4 with h4
      injection h5 with h5
      injection h4 with _ hT ho
      injection h5 with _ hT2 hh
      have hp := hp rfl
      have ha' : args = #[n, x, y] := by apply Array.ext'; simpa using ha
      subst ha'
      simp only [List.nil_append, List.map_cons, List.map_nil, List.cons.injEq, and_true] at hL
      have hn1 : restr ([] ++ [k, k2]) (lookM (den olds w0 L)) k = some (ckB go T o) := by unfold restr; rw [show hasN ([] ++ [k, k2]) k = true by simp [hasN], lookM_den, ← hL.1]; rfl
      have hn2 : restr ([] ++ [k, k2]) (lookM (den olds w0 L)) k2 = some (ckB gh T2 h) := by unfold restr; rw [show hasN ([] ++ [k, k2]) k2 = true by simp [hasN], lookM_den, ← hL.2]; rfl
      have hb1 := hS.blk k hn1
      have hb2 := hS.blk k2 hn2
      rw [hT, ho] at hb1
      rw [hT2, hh] at hb2
      have hne : go ≠ gh := fun e => by
        subst e
        unfold Blk at hb1 hb2
        rw [hb1] at hb2
        injection hb2 with hb2
        injection hb2 with _ hb2
        exact absurd hb2 (by decide)
      rw [h1, h2, h3]
      refine (count_g (intOf n) (intOf (h.getD 1 undef)) (intOf (h.getD 2 undef)) (boolOf (o.getD 0 undef)) go gh w hp hb1 hb2 hne).mono fun e w' ⟨he, hst⟩ => ⟨pay0, he, ?_⟩
      have hst2 := stp_ren2 hst (i := 1) (j := 2) rfl rfl (by decide) k k2
      refine hst2.mono fun g hg => ?_
      rcases hg with rfl | rfl
      · exact ⟨k, by simp, _, by rw [lookM_den, ← hL.1]; rfl, rfl⟩
      · exact ⟨k2, by simp, _, by rw [lookM_den, ← hL.2]; rfl, rfl⟩
    · intro hc; exact no_false hc
end Go.Proofs.YtmmfpgoodfgkbaaGreat
