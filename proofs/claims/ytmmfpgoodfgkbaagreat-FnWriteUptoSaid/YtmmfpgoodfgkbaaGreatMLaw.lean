/-
  THE GUARD WITH PIECES: a closure that keeps a contract over pieces of memory keeps it under the guard. Condition: the closure's contract.
-/
import Derived.Test.YtmmfpgoodfgkbaaGreatTry
import Derived.Test.YtmmfpgoodfgkbaaGreatMStep
import Derived.Test.YtmmfpgoodfgkbaaGreatPW
import Derived.Test.YtmmfpgoodfgkbaaGreatPktV
import Derived.Test.YtmmfpgoodfgkbaaGreatMFits
import Derived.Test.YtmmfpgoodfgkbaaGreatGivenA
import Derived.Test.YtmmfpgoodfgkbaaGreatInvk
import Derived.Test.YtmmfpgoodfgkbaaGreatMPkt
namespace Go.Proofs.YtmmfpgoodfgkbaaGreat
open Go Go.RowKit
set_option linter.unusedVariables false

theorem stp_try {olds : Nat → Prop} {w wa w2 : World} {o : Obj} {L : List (Nat × Option Ck)} (h : Stp olds (w.alloc o) wa (lookM L)) (hg : wa.grownBy w2 (some w.heap.size)) (ho : ∀ g, olds g → g < w.heap.size) : Stp olds w w2 (lookM L) := by
  have hsz : (w.alloc o).heap.size = w.heap.size + 1 := by simp
  have hs := h.size
  have key : ∀ n c, lookM L n = some c → ∀ g, c.blks g → w2.heap[g]? = wa.heap[g]? := fun n c hc g hgb => by
    have hl := h.lt n c hc g hgb
    refine hg.block g hl.1 fun e => ?_
    injection e with e
    rcases hl.2 with h2 | h2
    · omega
    · have := ho g h2; omega
  refine ⟨hg.os.trans h.os, hg.tape.trans h.tape, hg.output.trans h.output, by have := hg.size; omega, fun g hlt hn => ?_, fun n c hc => c.st wa w2 (key n c hc) (h.ok n c hc), fun n c hc g hgb => ?_, h.apart⟩
  · rw [hg.block g (by omega) (fun e => by injection e with e; omega), h.kept g (by omega) hn, Below.heap_alloc w o g hlt]
  · have hl := h.lt n c hc g hgb
    exact ⟨by have := hg.size; omega, hl.2.imp (fun h2 => by omega) id⟩
/-- What was left becomes what is there. -/
theorem stp_rebase {olds olds2 : Nat → Prop} {w0 w : World} {M : Nat → Option Ck} (h : Stp olds w0 w M) (ho : ∀ n c, M n = some c → ∀ g, c.blks g → olds2 g) : Stp olds2 w w M :=
  ⟨rfl, rfl, rfl, Nat.le_refl _, fun _ _ _ => rfl, h.ok, fun n c hc g hg => ⟨(h.lt n c hc g hg).1, .inr (ho n c hc g hg)⟩, h.apart⟩
theorem lookP_zip {L : PL} : ∀ (ks : List Nat) (n : Nat), lookP (zipW ks (ks.map (lookP L))) n = bif hasN ks n then lookP L n else none
  | [], n => rfl
  | k :: ks, n => by
    have ih := lookP_zip (L := L) ks n
    show (bif Nat.beq k n then lookP L k else lookP (zipW ks (ks.map (lookP L))) n) = _
    rw [ih]
    simp only [hasN]
    cases hb : Nat.beq k n with
    | true => rw [Nat.eq_of_beq_eq_true hb]; simp
    | false => simp
theorem restr_zip {olds : Nat → Prop} {w0 : World} {L : PL} (ks : List Nat) : lookM (den olds w0 (zipW ks (ks.map (lookP L)))) = restr ks (lookM (den olds w0 L)) := by
  funext n
  rw [lookM_den, lookP_zip]
  unfold restr
  rw [lookM_den]
  cases hasN ks n <;> rfl
theorem stp_rem {olds : Nat → Prop} {w0 w : World} {L : PL} (h : Stp olds w0 w (lookM (den olds w0 L))) (L' : PL) (hc : (endChk ⟨[], L⟩ ⟨[], L'⟩).map (·.1) = (endChk ⟨[], L⟩ ⟨[], L'⟩).map (·.2)) : Stp olds w0 w (lookM (den olds w0 L')) := end_mem (s := ⟨[], L⟩) (s' := ⟨[], L'⟩) (fst_snd hc) h
theorem try_cu {w0 : World} {f : FuncId} {caps : Array Value} {ks : List Nat} {ps : List (Option Pc)} {W : Pay → List (Option Pc)} (hf : ∀ w : World, (callFunc f caps).run Tryz.prog w = .ok (.enter f caps) w)
    (hp : ∀ olds w olds' w', den olds w (zipW ks ps) = den olds' w' (zipW ks ps)) (hW : ∀ x olds w olds' w', den olds w (zipW ks (W x)) = den olds' w' (zipW ks (W x)))
    (h : ∀ (olds : Nat → Prop) (w : World), Below w0.heap.size w0 w → (∀ g, olds g → w0.heap.size ≤ g) → Stp olds w w (lookM (den olds w (zipW ks ps))) → Calls Tryz.prog f caps w fun e w' => ∃ x : Pay, e = .returned (.bool true) ∧ Stp olds w w' (lookM (den olds w (zipW ks (W x)))))
    (L : PL) (w : World) (hps : ps = ([] ++ ks).map (lookP L)) (hS : Stp (fun _ => False) w0 w (restr ([] ++ ks) (lookM (den (fun _ => False) w0 L)))) :
    Calls Tryz.prog 26 #[.func (.func f) #[] caps] w fun e w' => ∃ x : Pay, e = .returned (.bool true) ∧ Stp (blksOf (lookM (den (fun _ => False) w0 L)) ks) w w' (lookM (den (fun _ => False) w0 (zipW ks (W x)))) := by
  rw [List.nil_append] at hps hS
  have hin : ∀ n c, restr ks (lookM (den (fun _ => False) w0 L)) n = some c → n ∈ ks ∧ lookM (den (fun _ => False) w0 L) n = some c := fun n c hc => by
    unfold restr at hc
    cases hb : hasN ks n with
    | true => rw [hb] at hc; exact ⟨(hasN_mem ks n).1 hb, hc⟩
    | false => rw [hb] at hc; cases hc
  have hol : ∀ g, blksOf (lookM (den (fun _ => False) w0 L)) ks g → w0.heap.size ≤ g ∧ g < w.heap.size := fun g ⟨n, hn, c, hc, hg⟩ => by
    have := hS.lt n c (by unfold restr; rw [(hasN_mem ks n).2 hn]; exact hc) g hg
    exact ⟨this.2.resolve_right id, this.1⟩
  have hBw := hS.below
  have hsz := hS.size
  have hB1 : Below w.heap.size w (w.alloc (.cells #[.bool false] 4)) := (Below.refl _ _).alloc (Nat.le_refl _) _
  have hS1 : Stp (fun _ => False) w0 (w.alloc (.cells #[.bool false] 4)) (restr ks (lookM (den (fun _ => False) w0 L))) := hS.comp [] (N := lookM []) (stp_of_below hB1) (fun _ _ h => by cases h) _ fun n => by simp
  have hS2 := stp_rebase (olds2 := blksOf (lookM (den (fun _ => False) w0 L)) ks) hS1 fun n c hc g hg => ⟨n, (hin n c hc).1, c, (hin n c hc).2, hg⟩
  rw [← restr_zip, ← hps, hp _ _ (blksOf (lookM (den (fun _ => False) w0 L)) ks) (w.alloc (.cells #[.bool false] 4))] at hS2
  refine (try_any f caps w (fun b w' => b = true ∧ ∃ x : Pay, Stp (blksOf (lookM (den (fun _ => False) w0 L)) ks) (w.alloc (.cells #[.bool false] 4)) w' (lookM (den (blksOf (lookM (den (fun _ => False) w0 L)) ks) (w.alloc (.cells #[.bool false] 4)) (zipW ks (W x))))) hf ?_).mono ?_
  · refine (h _ _ (hBw.alloc hsz _) (fun g hg => (hol g hg).1) hS2).mono ?_
    rintro e wa ⟨x, rfl, hst⟩
    refine ⟨_, rfl, ⟨rfl, x, hst⟩, ?_⟩
    have hnb := blk_new w 4 #[.bool false] rfl
    exact (hst.kept _ hnb.lt (fun e => by have := (hol _ e).2; omega)).trans hnb
  rintro e w5 ⟨b, wa, rfl, ⟨rfl, x, hst⟩, hg3, _⟩
  refine ⟨x, rfl, ?_⟩
  have := stp_try hst hg3 (fun g e => (hol g e).2)
  rwa [hW x _ _ (fun _ => False) w0] at this
end Go.Proofs.YtmmfpgoodfgkbaaGreat
/-
  THE WALKS over lists of packets: the law's look at each, what the thin package makes of each, the bytes of all. Condition: the contracts for each packet.
-/
namespace Go.Proofs.YtmmfpgoodfgkbaaGreat
open Go Go.RowKit
set_option linter.unusedVariables false
set_option linter.unusedSimpArgs false

theorem cu_bool {P : Program} {w0 : World} {ps : List (Option Pc)} (f : FuncId) (args : Array Value)
    (h : ∀ w, Below w0.heap.size w0 w → Calls P f args w fun e w' => ∃ b, e = .returned (.bool b) ∧ Below w.heap.size w w')
    (L : PL) (w : World) (_ : ps = ([] ++ []).map (lookP L)) (hS : Stp (fun _ => False) w0 w (restr ([] ++ []) (lookM (den (fun _ => False) w0 L)))) :
    Calls P f args w fun e w' => ∃ x : Pay, e = .returned (.bool (Nat.beq x.c 1)) ∧ Stp (blksOf (lookM (den (fun _ => False) w0 L)) []) w w' (lookM (den (fun _ => False) w0 (zipW [] []))) :=
  (h w hS.below).mono fun e w' ⟨b, he, hB⟩ => ⟨⟨0, bif b then 1 else 0, undef, none⟩, by rw [he]; cases b <;> rfl, stp_of_below hB⟩
theorem cu_giv {w0 : World} (k : Nat) (p : Pkt) (gs : List (Pkt × Pkt × Nat × Nat)) (hs : p.Short) (h : ∀ w, Below w0.heap.size w0 w → p.Lies w w.heap.size)
    (L : PL) (w : World) (hps : [some (Pc.ck (ckG gs))] = ([] ++ [k]).map (lookP L)) (hS : Stp (fun _ => False) w0 w (restr ([] ++ [k]) (lookM (den (fun _ => False) w0 L)))) :
    Calls Tryz.prog 10 #[.agg p.cells] w fun e w' => ∃ x : Pay, e = .returned (.agg (dP x.v).cells) ∧ Stp (blksOf (lookM (den (fun _ => False) w0 L)) [k]) w w' (lookM (den (fun _ => False) w0 (zipW [k] [some (.ck (ckG (gs ++ [(p, dP x.v, x.c, x.g)])))]))) := by
  have hk : lookP L k = some (.ck (ckG gs)) := by simpa using hps.symm
  refine (given_in p w (h w hS.below) hs).mono fun e w' ⟨q, hsame, he, hq, hst, hB⟩ => ⟨⟨w'.heap.size, w.heap.size, vP q, none⟩, by simp only [dP_v]; exact he, ?_⟩
  have := stp_addG hk hS (by simp) hB ⟨hsame, hst⟩ hq
  simpa only [dP_v] using this
def ifcT : Value → TypeId
  | .iface t _ => t
  | _ => 0
def ifcU : Value → Value
  | .iface _ u => u
  | _ => undef
theorem invk_iface {P : Program} {w : World} {v : Value} {name : String} {args : Array Value} {Q : Ending → World → Prop} (h : Invk P w v name args Q) : v = .iface (ifcT v) (ifcU v) := by
  obtain ⟨f, fas, h1, _⟩ := h
  unfold callMethod at h1
  cases v <;> first | rfl | (exfalso; simp [stuck, runtimePanic] at h1; done) | (exfalso; cases h1; done)
theorem cu_blt {w0 : World} (k : Nat) (q : Pkt) (bs : List Int) (vs : List (Value × Nat × Nat × List Int)) (h : ∀ w, Below w0.heap.size w0 w → Calls Tryz.prog 29 #[.agg q.cells] w (Built w bs))
    (L : PL) (w : World) (hps : [some (Pc.ck (ckV vs))] = ([] ++ [k]).map (lookP L)) (hS : Stp (fun _ => False) w0 w (restr ([] ++ [k]) (lookM (den (fun _ => False) w0 L)))) :
    Calls Tryz.prog 29 #[.agg q.cells] w fun e w' => ∃ x : Pay, e = .returned (.iface (ifcT x.v) (ifcU x.v)) ∧ Stp (blksOf (lookM (den (fun _ => False) w0 L)) [k]) w w' (lookM (den (fun _ => False) w0 (zipW [k] [some (.ck (ckV (vs ++ [(.iface (ifcT x.v) (ifcU x.v), x.c, x.g, bs)])))]))) := by
  have hk : lookP L k = some (.ck (ckV vs)) := by simpa using hps.symm
  refine (h w hS.below).mono fun e w' ⟨v, he, hok, hB⟩ => ?_
  have hv := invk_iface (ckW.writes hok).1
  refine ⟨⟨w'.heap.size, w.heap.size, v, none⟩, he.trans (congrArg _ hv), ?_⟩
  have := stp_addV hk hS (by simp) hB hok
  rw [hv] at this
  exact this
set_option maxHeartbeats 4000000 in
set_option maxRecDepth 100000 in
theorem fits10_any (A : Option Addr) (c : Nat) (l : List Pkt) (w : World) (hr : Reads w w.heap.size 30 A l.length (l.flatMap Pkt.cl)) (hn : l.length ≤ 1048576) (hl : ∀ p ∈ l, p.Lies w w.heap.size) :
    Calls Tryz.prog 11 #[.slice A (l.length : Nat) c] w fun e w' => ∃ b, e = .returned (.bool b) ∧ Below w.heap.size w w' := by
  refine go_in Tryz.func11 rfl Tryz.ntmps11 [.slice A (l.length : Nat) c] fun a hE => ?_
  have hS := stp_in w
  refine rg hE hS [pu] (fun _ => kp [(2, .bool false)]) (fun _ => kP []) fun _ a u hE hS => ?_
  refine wp_seq ?_
  refine rgp hE hS [pu, pu, pe (.bool false)] (fun _ => kp [(7, .bool false)]) (fun _ => kP []) (fun _ => ⟨kr (congrArg Value.bool (decide_eq_false (show ¬ (((l.length : Nat) : Int) > 2147483647) by omega))), trivial⟩) fun _ a u hE hS => ?_
  refine iff hE ?_
  refine wp_skip ?_
  refine wp_seq ?_
  refine rg hE hS [pu, pu, pu] (fun _ => kn [(8, .slice A (l.length : Nat) c), (9, .int .i64 (l.length : Nat)), (10, .int .i64 0)] [2]) (fun _ => kN [] []) fun _ a u hE hS => ?_
  refine range_up hE hS 10 l.length (fun _ _ => kd [10, 11, 17] []) (fun _ x => kP []) (fun k (x : Unit) => True) () (by omega) (trivial) (fun k x a u hk hI hE hS K hK RK hRK => ?_) fun _ a u hI hE hS => ?_
  · obtain hk1 := hI
    have hl1 := hl _ (List.getElem_mem hk)
    have hS := stp_el hS 90 (el_at hr (fun _ _ => rfl) rfl (fun g hg => ⟨hg, id⟩) k hk (by omega))
    generalize hrk : l[k] = r at hS hl1
    refine rgp hE hS [ie 90, le 90 0, nw 91, st 91] (fun p4 => kp [(4, pt (p4 2).g 0)]) (fun p4 => kP [(91, some (.blk (p4 2).g 38 r.cells))]) (fun _ => ⟨kr (show k < l.length from hk), trivial⟩) fun p4 a u hE hS => ?_
    refine rgp hE hS [ld 91, cu 7 [] [] (fun y => .bool (Nat.beq y.c 1)) (fun _ => []), pu] (fun p5 => kp [(16, .bool (!(Nat.beq (p5 1).c 1)))]) (fun _ => kP []) (fun _ => ⟨kr (cu_bool (P := Tryz.prog) (w0 := w) (ps := []) 7 #[.agg r.cells] (fun w4 hB => (zzFits1_any r w4 ((hl1.below hB).more hB.size)).mono fun e w5 ⟨b, he, _, hB5⟩ => ⟨b, he, hB5⟩)), trivial⟩) fun p5 a u hE hS => ?_
    generalize (!(Nat.beq (p5 1).c 1)) = bq at hE
    cases bq with
    | true =>
      refine ift hE ?_
      refine rg hE hS [pu] (fun _ => kn [] [2]) (fun _ => kN [] []) fun _ a u hE hS => ?_
      refine wp_ret (bkR (thR (hRK _ _ _ (fun _ h => by cases h) (fun h => by cases h) (thR ?_))))
      exact ret1 hE Tryz.results11 (.bool false) ⟨_, rfl, hS.below⟩
    | false =>
      refine iff hE ?_
      refine wp_skip ?_
      exact hK () a u _ _ trivial hE hS (by kernel_rfl)
  refine rg hE hS [pu] (fun _ => kp [(2, .bool true)]) (fun _ => kP []) fun _ a u hE hS => ?_
  refine wp_ret ?_
  exact ret1 hE Tryz.results11 (.bool true) ⟨_, rfl, hS.below⟩
variable {P : Program} {n : Nat} {a : Act} {w : World} {l0 : List (Nat × Value)} in
theorem ret3 {fn : Func} {R : Ending → World → Prop} {p q r : Tmp} (hE : Env n l0 a) (h : fn.results = #[.tmp p, .tmp q, .tmp r]) (v1 v2 v3 : Value) (hR : R (.returned (.tuple #[v1, v2, v3])) w) (h1 : look l0 p = some v1 := by kernel_rfl) (h2 : look l0 q = some v2 := by kernel_rfl) (h3 : look l0 r = some v3 := by kernel_rfl) : bodyPost P fn R .ret a w :=
  bodyPost_ret (v := .tuple #[v1, v2, v3]) (by simp [results, h, hE.get p h1, hE.get q h2, hE.get r h3]) hE.defers hR
/-- Bytes that lie in memory that was there, or in new memory. -/
theorem stp_rx {w0 w w' : World} {A : Option Addr} {bs : List Int} {o : Nat → Prop} (j : Nat) (hsz : w0.heap.size ≤ w.heap.size) (hB0 : Below w0.heap.size w0 w') (hB : Below w.heap.size w w') (hrow : RowIn w' (fun g => g < w0.heap.size ∨ w.heap.size ≤ g) A bs) : Stp o w w' (lookM (den (fun _ => False) w0 [(j, some (.rx A bs))])) := by
  refine stp_one j (ckX (fun _ => False) w0 A bs) (.inl (grownBy_of_below hB none)) (fun hn => ?_) fun g hg => ?_
  · obtain ⟨ad, he, hD, hc⟩ := hrow hn
    refine ⟨ad, he, ?_⟩
    rcases hD with hlt | hD
    · exact .inl ⟨hlt, id, fun i u hu => ((hB0.cell (by rw [block_of_add]; exact hlt)).symm).trans (hc i u hu)⟩
    · obtain ⟨u, hu⟩ : ∃ u, (u8s bs)[0]? = some u := ⟨(u8s bs)[0]'(by rw [u8s_len]; exact hn), by simp [u8s_len, hn]⟩
      have hcl := cell_lt (hc 0 u hu)
      rw [block_of_add] at hcl
      exact .inr ⟨Nat.le_trans hsz hD, hcl, hc⟩
  · obtain ⟨hn, ad, he, hg, hge⟩ := hg
    obtain ⟨ad2, he2, hD, hc⟩ := hrow hn
    rw [he] at he2
    injection he2 with he2
    subst he2 hg
    obtain ⟨u, hu⟩ : ∃ u, (u8s bs)[0]? = some u := ⟨(u8s bs)[0]'(by rw [u8s_len]; exact hn), by simp [u8s_len, hn]⟩
    have hcl := cell_lt (hc 0 u hu)
    rw [block_of_add] at hcl
    exact ⟨hcl, .inl (hD.resolve_left (by omega))⟩
theorem cu_legY {w0 : World} {u : Option Pc} (j : Nat) (p c : Pkt) (bs : List Int) (h : PLaw p c bs true) (hp : p.Lies w0 w0.heap.size)
    (L : PL) (w : World) (hps : [u] = ([] ++ [j]).map (lookP L)) (hS : Stp (fun _ => False) w0 w (restr ([] ++ [j]) (lookM (den (fun _ => False) w0 L)))) :
    Calls Tryz.prog 8 #[.agg p.cells] w fun e w' => ∃ x : Pay, e = .returned (.tuple #[.agg c.cells, .slice x.a bs.length x.c, .bool true]) ∧ Stp (blksOf (lookM (den (fun _ => False) w0 L)) [j]) w w' (lookM (den (fun _ => False) w0 (zipW [j] [some (.rx x.a bs)]))) := by
  refine (h.yes rfl w w0.heap.size hS.size (hp.below hS.below)).mono ?_
  rintro e w' ⟨A, cap, rfl, hrow, hB⟩
  exact ⟨⟨0, cap, undef, A⟩, rfl, stp_rx j hS.size (hS.below.trans (hB.mono hS.size)) hB hrow⟩
theorem cu_legN {w0 : World} (p c : Pkt) (bs : List Int) (h : PLaw p c bs false) (hp : p.Lies w0 w0.heap.size)
    (L : PL) (w : World) (hps : [] = ([] ++ []).map (lookP L)) (hS : Stp (fun _ => False) w0 w (restr ([] ++ []) (lookM (den (fun _ => False) w0 L)))) :
    Calls Tryz.prog 8 #[.agg p.cells] w fun e w' => ∃ x : Pay, e = .returned (.tuple #[.agg p.cells, .slice none 0 0, .bool false]) ∧ Stp (blksOf (lookM (den (fun _ => False) w0 L)) []) w w' (lookM (den (fun _ => False) w0 (zipW [] []))) := by
  refine (h.no rfl w ((hp.below hS.below).more hS.size)).mono ?_
  rintro e w' ⟨rfl, hB⟩
  exact ⟨pay0, rfl, stp_of_below hB⟩
def LegY (F : Pkt → Pkt × List Int × Bool) (l : List Pkt) : Prop := 0 < l.length ∧ ∀ j (h : j < l.length), (F l[j]).2.2 = true ∧ ((l.take j).flatMap (fun z => (F z).2.1)).length ≤ 131072
def LegUp (F : Pkt → Pkt × List Int × Bool) (l : List Pkt) (k : Nat) : Prop := ∀ j (h : j < l.length), j < k → (F l[j]).2.2 = true ∧ ((l.take j).flatMap (fun z => (F z).2.1)).length ≤ 131072
def LegsR (F : Pkt → Pkt × List Int × Bool) (l : List Pkt) (w : World) (e : Ending) (w' : World) : Prop :=
  (LegY F l ∧ ∃ A2 c2 A3 c3, e = .returned (.tuple #[.slice A2 (l.length : Nat) c2, .slice A3 (l.flatMap (fun z => (F z).2.1)).length c3, .bool true]) ∧ Reads w' w'.heap.size 30 A2 l.length (l.flatMap fun z => (F z).1.cl) ∧ Reads w' w'.heap.size 1 A3 (l.flatMap (fun z => (F z).2.1)).length (u8s (l.flatMap (fun z => (F z).2.1))) ∧ Below w.heap.size w w') ∨
  (¬ LegY F l ∧ ∃ v1 v2, e = .returned (.tuple #[v1, v2, .bool false]) ∧ Below w.heap.size w w')
set_option maxHeartbeats 4000000 in
set_option maxRecDepth 100000 in
theorem legals_any (F : Pkt → Pkt × List Int × Bool) (A : Option Addr) (c : Nat) (l : List Pkt) (w : World) (hr : Reads w w.heap.size 30 A l.length (l.flatMap Pkt.cl)) (hn : l.length ≤ 1048576) (hl : ∀ p ∈ l, p.Lies w w.heap.size ∧ PLaw p (F p).1 (F p).2.1 (F p).2.2) :
    Calls Tryz.prog 12 #[.slice A (l.length : Nat) c] w (LegsR F l w) := by
  refine go_in Tryz.func12 rfl Tryz.ntmps12 [.slice A (l.length : Nat) c] fun a hE => ?_
  have hS := stp_in w
  refine rg hE hS [pu, pu, pu] (fun _ => kp [(2, .slice none 0 0), (3, .slice none 0 0), (4, .bool false)]) (fun _ => kP []) fun _ a u hE hS => ?_
  refine rg hE hS [pu] (fun _ => kp [(5, .slice none 0 0)]) (fun _ => kP []) fun _ a u hE hS => ?_
  refine rg hE hS [pu] (fun _ => kp [(6, .slice none 0 0)]) (fun _ => kP []) fun _ a u hE hS => ?_
  refine wp_seq ?_
  refine rg hE hS [pu, pu, pu] (fun _ => kn [(12, .slice A (l.length : Nat) c), (13, .int .i64 (l.length : Nat)), (14, .int .i64 0)] [0, 2, 3, 4, 5, 6]) (fun _ => kN [] []) fun _ a u hE hS => ?_
  have hS := stp_row0 hS 1 w.heap.size 38 30
  have hS := stp_bytes0 hS 2 w.heap.size
  refine range_up hE hS 14 l.length (fun _ x => kd [14, 15, 38] [(5, .slice x.p.a x.n x.p.c), (6, .slice x.y.1.a x.y.2.length x.y.1.c)]) (fun _ x => kP [(1, some (.row w.heap.size 38 30 (.slice x.p.a x.n x.p.c) x.n x.xs)), (2, some (.bytes w.heap.size (.slice x.y.1.a x.y.2.length x.y.1.c) x.y.2))]) (fun k (x : Lx (Pay × List Int)) => x.n = k ∧ x.xs = (l.take k).flatMap (fun z => (F z).1.cl) ∧ x.y.2 = (l.take k).flatMap (fun z => (F z).2.1) ∧ LegUp F l k) ⟨pay0, 0, [], (pay0, [])⟩ (by omega) (⟨rfl, by simp, by simp, fun j h hj => absurd hj (Nat.not_lt_zero _)⟩) (fun k x a u hk hI hE hS K hK RK hRK => ?_) fun ⟨qq, n1, xs1, q2, xs2⟩ a u hI hE hS => ?_
  · obtain ⟨hk1, hk2, hk3, hk4⟩ := hI
    obtain ⟨hL1, hW1⟩ := hl _ (List.getElem_mem hk)
    have hS := stp_el hS 90 (el_at hr (fun _ _ => rfl) rfl (fun g hg => ⟨hg, id⟩) k hk (by omega))
    generalize hrk : l[k] = r at hS hL1 hW1
    generalize hF : F r = z at hW1
    obtain ⟨c, bs, D⟩ := z
    simp only at hW1
    cases D with
    | false =>
      refine rgp hE hS [ie 90, le 90 0, nw 91, st 91] (fun p5 => kp [(8, pt (p5 2).g 0)]) (fun p5 => kP [(91, some (.blk (p5 2).g 38 r.cells))]) (fun _ => ⟨kr (show k < l.length from hk), trivial⟩) fun p5 a u hE hS => ?_
      refine rgp hE hS [ld 91, cu 8 [] [] (fun _ => .tuple #[.agg r.cells, .slice none 0 0, .bool false]) (fun _ => []), pu, pu, pu, pu, nw 94, st 94, pu, pu] (fun p6 => kp [(9, pt (p6 6).g 0), (10, .slice none 0 0), (11, .bool false)]) (fun p6 => kP [(94, some (.blk (p6 6).g 38 r.cells))]) (fun _ => ⟨kr (cu_legN (w0 := w) r c bs hW1 hL1), trivial⟩) fun p6 a u hE hS => ?_
      refine wp_seq ?_
      refine rg hE hS [pu, pu, pu, sk, sk, sk, pu] (fun _ => kn [(30, .bool true)] [0, 2, 3, 4, 5, 6, 12, 13, 14, 9, 10]) (fun _ => kN [] [94, 90, 1, 2]) fun _ a u hE hS => ?_
      refine ift hE ?_
      refine rg hE hS [pu, pu, pu] (fun _ => kp []) (fun _ => kP []) fun _ a u hE hS => ?_
      refine wp_ret (thR (bkR (thR (hRK _ _ _ (fun _ h => by cases h) (fun h => by cases h) (thR ?_)))))
      exact ret3 hE Tryz.results12 (.slice none 0 0) (.slice none 0 0) (.bool false) (.inr ⟨fun hY => (by have := (hY.2 k hk).1; rw [hrk, hF] at this; cases this), _, _, rfl, hS.below⟩)
    | true =>
      rcases Nat.lt_or_ge 131072 x.y.2.length with hs | hs
      · skip
        refine rgp hE hS [ie 90, le 90 0, nw 91, st 91] (fun p9 => kp [(8, pt (p9 2).g 0)]) (fun p9 => kP [(91, some (.blk (p9 2).g 38 r.cells))]) (fun _ => ⟨kr (show k < l.length from hk), trivial⟩) fun p9 a u hE hS => ?_
        refine rgp hE hS [ld 91, cu 8 [] [95] (fun y => .tuple #[.agg c.cells, .slice y.a bs.length y.c, .bool true]) (fun y => [some (.rx y.a bs)]), pu, pu, pu, pu, nw 94, st 94, pu, pu] (fun p10 => kp [(9, pt (p10 6).g 0), (10, .slice (p10 1).a bs.length (p10 1).c), (11, .bool true)]) (fun p10 => kP [(94, some (.blk (p10 6).g 38 c.cells)), (95, some (.rx (p10 1).a bs))]) (fun _ => ⟨kr (cu_legY (w0 := w) (u := none) 95 r c bs hW1 hL1), trivial⟩) fun p10 a u hE hS => ?_
        refine wp_seq ?_
        refine rgp hE hS [pu, pu, pu, pu, pu, pe (.bool true), pu] (fun _ => kn [(30, .bool true)] [0, 2, 3, 4, 5, 6, 12, 13, 14, 9, 10]) (fun _ => kN [] [94, 95, 90, 1, 2]) (fun _ => ⟨kr (congrArg Value.bool (decide_eq_true (show ((x.y.2.length : Nat) : Int) > 131072 by omega))), trivial⟩) fun _ a u hE hS => ?_
        refine ift hE ?_
        refine rg hE hS [pu, pu, pu] (fun _ => kp []) (fun _ => kP []) fun _ a u hE hS => ?_
        refine wp_ret (thR (bkR (thR (hRK _ _ _ (fun _ h => by cases h) (fun h => by cases h) (thR ?_)))))
        exact ret3 hE Tryz.results12 (.slice none 0 0) (.slice none 0 0) (.bool false) (.inr ⟨fun hY => (by have := (hY.2 k hk).2; rw [← hk3] at this; omega), _, _, rfl, hS.below⟩)
      refine rgp hE hS [ie 90, le 90 0, nw 91, st 91] (fun p13 => kp [(8, pt (p13 2).g 0)]) (fun p13 => kP [(91, some (.blk (p13 2).g 38 r.cells))]) (fun _ => ⟨kr (show k < l.length from hk), trivial⟩) fun p13 a u hE hS => ?_
      refine rgp hE hS [ld 91, cu 8 [] [95] (fun y => .tuple #[.agg c.cells, .slice y.a bs.length y.c, .bool true]) (fun y => [some (.rx y.a bs)]), pu, pu, pu, pu, nw 94, st 94, pu, pu] (fun p14 => kp [(9, pt (p14 6).g 0), (10, .slice (p14 1).a bs.length (p14 1).c), (11, .bool true)]) (fun p14 => kP [(94, some (.blk (p14 6).g 38 c.cells)), (95, some (.rx (p14 1).a bs))]) (fun _ => ⟨kr (cu_legY (w0 := w) (u := none) 95 r c bs hW1 hL1), trivial⟩) fun p14 a u hE hS => ?_
      refine wp_seq ?_
      refine rgp hE hS [pu, pu, pu, pu, pu, pe (.bool false), pu] (fun _ => kn [(30, .bool false)] [0, 2, 3, 4, 5, 6, 12, 13, 14, 9, 10]) (fun _ => kN [] [94, 95, 90, 1, 2]) (fun _ => ⟨kr (congrArg Value.bool (decide_eq_false (show ¬ (((x.y.2.length : Nat) : Int) > 131072) by omega))), trivial⟩) fun _ a u hE hS => ?_
      refine iff hE ?_
      refine wp_skip ?_
      refine rgE hE hS [pu, ld 94, nw 92, ap 1 [92], pu, pu, ab .rx 2 95, pu, pu] (fun p16 => kp [(5, .slice (p16 3).a (x.n + 1) (p16 3).c), (6, .slice (p16 6).a (x.y.2 ++ bs).length (p16 6).c)]) (fun p16 => kP [(2, some (.bytes w.heap.size (.slice (p16 6).a (x.y.2 ++ bs).length (p16 6).c) (x.y.2 ++ bs))), (1, some (.row w.heap.size 38 30 (.slice (p16 3).a (x.n + 1) (p16 3).c) (x.n + 1) (x.xs ++ c.cl)))]) (fun _ => ⟨kr (show w.heap.size ≤ w.heap.size ∧ (x.n + 1) * 360 ≤ 140737488355328 ∧ ∀ u ∈ c.cl, u.oneCell' = true from ⟨Nat.le_refl _, by omega, by simp [Pkt.cl, Pkt.cells, Sl.val, Value.oneCell']⟩), kr (show w.heap.size ≤ w.heap.size ∧ (x.y.2 ++ bs).length ≤ 140737488355328 from ⟨Nat.le_refl _, by have := hW1.len rfl; rw [List.length_append]; omega⟩), trivial⟩) fun p16 a u hE hS => ?_
      exact hK ⟨(p16 3), x.n + 1, x.xs ++ c.cl, ((p16 6), x.y.2 ++ bs)⟩ a u _ _ ⟨congrArg (· + 1) hk1, by show x.xs ++ c.cl = _; rw [hk2, List.take_succ_eq_append_getElem hk, List.flatMap_append, hrk]; simp [hF], by show x.y.2 ++ bs = _; rw [hk3, List.take_succ_eq_append_getElem hk, List.flatMap_append, hrk]; simp [hF], fun j h hj => by rcases Nat.lt_or_eq_of_le (Nat.le_of_lt_succ hj) with h2 | h2; exact hk4 j h h2; subst h2; exact ⟨by rw [hrk, hF], by rw [← hk3]; exact hs⟩⟩ hE hS (by kernel_rfl)
  simp only [List.take_length] at hI
  obtain ⟨h1, h2, h3, h4⟩ := hI
  subst h1 h2
  rcases Nat.eq_zero_or_pos l.length with h0 | h0
  · skip
    refine rgp hE hS [pu, pu, pu, pu, pe (.bool false), pu, pu, pu] (fun _ => kn [(2, .slice qq.a l.length qq.c), (3, .slice q2.a xs2.length q2.c)] [0, 4, 5, 6]) (fun _ => kN [] [2, 1]) (fun _ => ⟨kr (congrArg Value.bool (decide_eq_false (show ¬ (((l.length : Nat) : Int) > 0) by omega))), trivial⟩) fun _ a u hE hS => ?_
    refine wp_ret ?_
    exact ret3 hE Tryz.results12 (.slice qq.a l.length qq.c) (.slice q2.a xs2.length q2.c) (.bool false) (.inr ⟨fun hY => (by have := hY.1; omega), _, _, rfl, hS.below⟩)
  refine rgp hE hS [pu, pu, pu, pu, pe (.bool true), pu, pu, pu] (fun _ => kp [(2, .slice qq.a l.length qq.c), (3, .slice q2.a xs2.length q2.c), (4, .bool true)]) (fun _ => kP []) (fun _ => ⟨kr (congrArg Value.bool (decide_eq_true (show ((l.length : Nat) : Int) > 0 by omega))), trivial⟩) fun _ a u hE hS => ?_
  refine wp_ret ?_
  subst h3
  have hr1 := reads_of_own (pcR (base := w.heap.size) (e := 38) (size := 30) (v := .slice qq.a l.length qq.c) (n := l.length) (xs := l.flatMap (fun z => (F z).1.cl)) hS 1)
  have hr2 := reads_of_own (pcO (base := w.heap.size) (v := .slice q2.a (l.flatMap (fun z => (F z).2.1)).length q2.c) (l := l.flatMap (fun z => (F z).2.1)) hS 2)
  exact ret3 hE Tryz.results12 (.slice qq.a l.length qq.c) (.slice q2.a (l.flatMap (fun z => (F z).2.1)).length q2.c) (.bool true) (.inl ⟨⟨h0, fun j h => h4 j h h⟩, _, _, _, _, rfl, hr1, hr2, hS.below⟩)
set_option maxHeartbeats 4000000 in
set_option maxRecDepth 100000 in
theorem givens_any (A : Option Addr) (c : Nat) (l : List Pkt) (w : World) (hr : Reads w w.heap.size 30 A l.length (l.flatMap Pkt.cl)) (hn : l.length ≤ 1048576) (hl : ∀ p ∈ l, p.Lies w w.heap.size ∧ p.Short) :
    Calls Tryz.prog 14 #[.slice A (l.length : Nat) c] w fun e w' => ∃ (A2 : Option Addr) (c2 : Nat) (gs : List (Pkt × Pkt)), gs.map (·.1) = l ∧ e = .returned (.slice A2 (l.length : Nat) c2) ∧ Reads w' w'.heap.size 30 A2 l.length (gs.flatMap fun z => z.2.cl) ∧ (∀ x ∈ gs, Pkt.Same x.1 x.2 ∧ x.2.Lies w' w'.heap.size) ∧ Below w.heap.size w w' := by
  refine go_in Tryz.func14 rfl Tryz.ntmps14 [.slice A (l.length : Nat) c] fun a hE => ?_
  have hS := stp_in w
  refine rg hE hS [pu] (fun _ => kp [(2, .slice none 0 0)]) (fun _ => kP []) fun _ a u hE hS => ?_
  refine rg hE hS [pu] (fun _ => kp [(3, .slice none 0 0)]) (fun _ => kP []) fun _ a u hE hS => ?_
  refine wp_seq ?_
  refine rg hE hS [pu, pu, pu] (fun _ => kn [(6, .slice A (l.length : Nat) c), (7, .int .i64 (l.length : Nat)), (8, .int .i64 0)] [2, 3]) (fun _ => kN [] []) fun _ a u hE hS => ?_
  have hS := stp_row0 hS 1 w.heap.size 53 30
  have hS := stp_G0 hS 2
  refine range_up hE hS 8 l.length (fun _ x => kd [8, 9, 17] [(3, .slice x.p.a x.n x.p.c)]) (fun _ x => kP [(1, some (.row w.heap.size 53 30 (.slice x.p.a x.n x.p.c) x.n x.xs)), (2, some (.ck (ckG x.y)))]) (fun k (x : Lx (List (Pkt × Pkt × Nat × Nat))) => x.n = k ∧ x.xs = x.y.flatMap (fun z => z.2.1.cl) ∧ x.y.map (fun z => z.1) = l.take k) ⟨pay0, 0, [], []⟩ (by omega) (⟨rfl, rfl, by simp⟩) (fun k x a u hk hI hE hS K hK RK hRK => ?_) fun ⟨qq, n1, xs1, yy⟩ a u hI hE hS => ?_
  · obtain ⟨hk1, hk2, hk3⟩ := hI
    have hl1 := hl _ (List.getElem_mem hk)
    have hS := stp_el hS 90 (el_at hr (fun _ _ => rfl) rfl (fun g hg => ⟨hg, id⟩) k hk (by omega))
    generalize hrk : l[k] = r at hS hl1
    refine rgp hE hS [ie 90, le 90 0, nw 91, st 91] (fun p4 => kp [(5, pt (p4 2).g 0)]) (fun p4 => kP [(91, some (.blk (p4 2).g 38 r.cells))]) (fun _ => ⟨kr (show k < l.length from hk), trivial⟩) fun p4 a u hE hS => ?_
    refine rgE hE hS [pu, ld 91, cu 10 [] [2] (fun y => .agg (dP y.v).cells) (fun y => [some (.ck (ckG (x.y ++ [(r, dP y.v, y.c, y.g)])))]), nw 92, ap 1 [92], pu] (fun p5 => kp [(3, .slice (p5 4).a (x.n + 1) (p5 4).c)]) (fun p5 => kP [(1, some (.row w.heap.size 53 30 (.slice (p5 4).a (x.n + 1) (p5 4).c) (x.n + 1) (x.xs ++ (dP (p5 2).v).cl))), (2, some (.ck (ckG (x.y ++ [(r, dP (p5 2).v, (p5 2).c, (p5 2).g)]))))]) (fun p5 => ⟨kr (cu_giv (w0 := w) 2 r x.y hl1.2 (fun w4 hB => (hl1.1.below hB).more hB.size)), kr (show w.heap.size ≤ w.heap.size ∧ (x.n + 1) * 360 ≤ 140737488355328 ∧ ∀ u ∈ (dP (p5 2).v).cl, u.oneCell' = true from ⟨Nat.le_refl _, by omega, by simp [Pkt.cl, Pkt.cells, Sl.val, Value.oneCell']⟩), trivial⟩) fun p5 a u hE hS => ?_
    exact hK ⟨(p5 4), x.n + 1, x.xs ++ (dP (p5 2).v).cl, x.y ++ [(r, dP (p5 2).v, (p5 2).c, (p5 2).g)]⟩ a u _ _ ⟨congrArg (· + 1) hk1, by show x.xs ++ (dP (p5 2).v).cl = _; rw [hk2, List.flatMap_append]; simp, by show (x.y ++ [_]).map _ = _; rw [List.map_append, hk3, List.take_succ_eq_append_getElem hk, hrk]; rfl⟩ hE hS (by kernel_rfl)
  simp only [List.take_length] at hI
  obtain ⟨h1, h2, h3⟩ := hI
  subst h1 h2
  refine rg hE hS [pu, pu] (fun _ => kp [(2, .slice qq.a l.length qq.c)]) (fun _ => kP []) fun _ a u hE hS => ?_
  refine wp_ret ?_
  have hG : (ckG yy).ok u := hS.ok 2 _ (by kernel_rfl)
  have hr1 := pcR (base := w.heap.size) (e := 53) (size := 30) (v := .slice qq.a l.length qq.c) (n := l.length) (xs := yy.flatMap (fun z => z.2.1.cl)) hS 1
  have hyl : yy.length = l.length := by simpa using congrArg List.length h3
  exact ret1 hE Tryz.results14 (.slice qq.a l.length qq.c) ⟨qq.a, qq.c, yy.map fun z => (z.1, z.2.1), by rw [List.map_map]; exact h3, rfl, by have := reads_of_own hr1; simpa [List.flatMap_map, hyl] using this, fun x hx => by
    obtain ⟨z, hz, rfl⟩ := List.mem_map.1 hx
    obtain ⟨⟨hs, hst⟩, hn⟩ := hG z hz
    refine ⟨hs, ?_⟩
    have hB := hS.below
    have hzl : z.1 ∈ l := by rw [← h3]; exact List.mem_map_of_mem hz
    exact hn.liesL ((((hl z.1 hzl).1).below hB).more hB.size) ⟨hs, hst⟩, hS.below⟩
set_option maxHeartbeats 4000000 in
set_option maxRecDepth 100000 in
theorem all_any (A : Option Addr) (c : Nat) (l : List (Pkt × List Int)) (w : World) (hr : Reads w w.heap.size 30 A l.length (l.flatMap fun z => z.1.cl)) (hn : l.length ≤ 1048576) (hl : ∀ z ∈ l, ∀ w', Below w.heap.size w w' → Calls Tryz.prog 29 #[.agg z.1.cells] w' (Built w' z.2)) :
    Calls Tryz.prog 32 #[.slice A (l.length : Nat) c] w fun e w' => ∃ (A2 : Option Addr) (c2 : Nat) (vs : List (Value × Nat × Nat × List Int)), vs.map (fun z => z.2.2.2) = l.map (fun z => z.2) ∧ e = .returned (.slice A2 (l.length : Nat) c2) ∧ InRows w' w.heap.size w'.heap.size 1 A2 l.length (vs.flatMap fun z => [z.1]) ∧ (ckV vs).ok w' ∧ (∀ g, (ckV vs).blks g → g < w'.heap.size ∧ w.heap.size ≤ g) ∧ Below w.heap.size w w' := by
  refine go_in Tryz.func32 rfl Tryz.ntmps32 [.slice A (l.length : Nat) c] fun a hE => ?_
  have hS := stp_in w
  refine rg hE hS [pu] (fun _ => kp [(2, .slice none 0 0)]) (fun _ => kP []) fun _ a u hE hS => ?_
  refine rg hE hS [pu] (fun _ => kp [(3, .slice none 0 0)]) (fun _ => kP []) fun _ a u hE hS => ?_
  refine wp_seq ?_
  refine rg hE hS [pu, pu, pu] (fun _ => kn [(6, .slice A (l.length : Nat) c), (7, .int .i64 (l.length : Nat)), (8, .int .i64 0)] [2, 3]) (fun _ => kN [] []) fun _ a u hE hS => ?_
  have hS := stp_row0 hS 1 w.heap.size 80 1
  have hS := stp_V0 hS 2
  refine range_up hE hS 8 l.length (fun _ x => kd [8, 9, 17] [(3, .slice x.p.a x.n x.p.c)]) (fun _ x => kP [(1, some (.row w.heap.size 80 1 (.slice x.p.a x.n x.p.c) x.n x.xs)), (2, some (.ck (ckV x.y)))]) (fun k (x : Lx (List (Value × Nat × Nat × List Int))) => x.n = k ∧ x.xs = x.y.flatMap (fun z => [z.1]) ∧ x.y.map (fun z => z.2.2.2) = (l.take k).map (fun z => z.2)) ⟨pay0, 0, [], []⟩ (by omega) (⟨rfl, rfl, by simp⟩) (fun k x a u hk hI hE hS K hK RK hRK => ?_) fun ⟨qq, n1, xs1, yy⟩ a u hI hE hS => ?_
  · obtain ⟨hk1, hk2, hk3⟩ := hI
    have hl1 := hl _ (List.getElem_mem hk)
    have hS := stp_el hS 90 (el_at hr (fun _ _ => rfl) rfl (fun g hg => ⟨hg, id⟩) k hk (by omega))
    generalize hrk : l[k] = r at hS hl1
    refine rgp hE hS [ie 90, le 90 0, nw 91, st 91] (fun p4 => kp [(5, pt (p4 2).g 0)]) (fun p4 => kP [(91, some (.blk (p4 2).g 53 r.1.cells))]) (fun _ => ⟨kr (show k < l.length from hk), trivial⟩) fun p4 a u hE hS => ?_
    refine rgE hE hS [pu, ld 91, cu 29 [] [2] (fun y => Value.iface (ifcT y.v) (ifcU y.v)) (fun y => [some (.ck (ckV (x.y ++ [(Value.iface (ifcT y.v) (ifcU y.v), y.c, y.g, r.2)])))]), nw 92, ap 1 [92], pu] (fun p5 => kp [(3, .slice (p5 4).a (x.n + 1) (p5 4).c)]) (fun p5 => kP [(1, some (.row w.heap.size 80 1 (.slice (p5 4).a (x.n + 1) (p5 4).c) (x.n + 1) (x.xs ++ [Value.iface (ifcT (p5 2).v) (ifcU (p5 2).v)]))), (2, some (.ck (ckV (x.y ++ [(Value.iface (ifcT (p5 2).v) (ifcU (p5 2).v), (p5 2).c, (p5 2).g, r.2)]))))]) (fun p5 => ⟨kr (cu_blt (w0 := w) 2 r.1 r.2 x.y hl1), kr (show w.heap.size ≤ w.heap.size ∧ (x.n + 1) * 16 ≤ 140737488355328 ∧ ∀ u ∈ [Value.iface (ifcT (p5 2).v) (ifcU (p5 2).v)], u.oneCell' = true from ⟨Nat.le_refl _, by omega, by simp [Pkt.cl, Pkt.cells, Sl.val, Value.oneCell']⟩), trivial⟩) fun p5 a u hE hS => ?_
    exact hK ⟨(p5 4), x.n + 1, x.xs ++ [Value.iface (ifcT (p5 2).v) (ifcU (p5 2).v)], x.y ++ [(Value.iface (ifcT (p5 2).v) (ifcU (p5 2).v), (p5 2).c, (p5 2).g, r.2)]⟩ a u _ _ ⟨congrArg (· + 1) hk1, by show x.xs ++ [Value.iface (ifcT (p5 2).v) (ifcU (p5 2).v)] = _; rw [hk2, List.flatMap_append]; simp, by show (x.y ++ [_]).map _ = _; rw [List.map_append, hk3, List.take_succ_eq_append_getElem hk, List.map_append, hrk]; rfl⟩ hE hS (by kernel_rfl)
  simp only [List.take_length] at hI
  obtain ⟨h1, h2, h3⟩ := hI
  subst h1 h2
  refine rg hE hS [pu, pu] (fun _ => kp [(2, .slice qq.a l.length qq.c)]) (fun _ => kP []) fun _ a u hE hS => ?_
  refine wp_ret ?_
  have hV : (ckV yy).ok u := hS.ok 2 _ (by kernel_rfl)
  have hVl : ∀ g, (ckV yy).blks g → g < u.heap.size ∧ w.heap.size ≤ g := fun g hg => ⟨(hS.lt 2 (ckV yy) (by kernel_rfl) g hg).1, (hS.lt 2 (ckV yy) (by kernel_rfl) g hg).2.resolve_right id⟩
  have hr1 := pcR (base := w.heap.size) (e := 80) (size := 1) (v := .slice qq.a l.length qq.c) (n := l.length) (xs := yy.flatMap (fun z => [z.1])) hS 1
  have hyl : yy.length = l.length := by simpa using congrArg List.length h3
  exact ret1 hE Tryz.results32 (.slice qq.a l.length qq.c) ⟨qq.a, qq.c, yy, h3, rfl, InRows.of_own hr1, hV, hVl, hS.below⟩
theorem iv_rx {w0 : World} {B E : Nat} {v : Value} {bs : List Int} (j : Nat) {u : Option Pc} (hw : ∀ w2, Below w0.heap.size w0 w2 → Writes B E w2 v bs) (hb : ∀ g, B ≤ g ∧ g < E → g < w0.heap.size) (L : PL) (w : World) (hps : [u] = ([] ++ [j]).map (lookP L)) (hS : Stp (fun _ => False) w0 w (restr ([] ++ [j]) (lookM (den (fun _ => False) w0 L)))) :
    Invk Tryz.prog w v "Marshal" #[] fun e w' => ∃ x : Pay, e = .returned (.tuple #[.slice x.a bs.length x.c, .nilIface]) ∧ Stp (blksOf (lookM (den (fun _ => False) w0 L)) [j]) w w' (lookM (den (fun _ => False) w0 (zipW [j] [some (.rx x.a bs)]))) := by
  refine (hw w hS.below).1.mono ?_
  rintro e w' ⟨A, c, rfl, hrow, hB⟩
  refine ⟨⟨0, c, undef, A⟩, rfl, ?_⟩
  have hB0 : Below w0.heap.size w0 w' := hS.below.trans (hB.mono hS.size)
  refine stp_one j (ckX (fun _ => False) w0 A bs) (.inl (grownBy_of_below hB none)) (fun hn => ?_) fun g hg => ?_
  · obtain ⟨ad, he, hD, hc⟩ := hrow hn
    refine ⟨ad, he, ?_⟩
    rcases hD with hD | hD
    · have hlt := hb _ hD
      exact .inl ⟨hlt, id, fun i u hu => ((hB0.cell (by rw [block_of_add]; exact hlt)).symm).trans (hc i u hu)⟩
    · obtain ⟨u, hu⟩ : ∃ u, (u8s bs)[0]? = some u := ⟨(u8s bs)[0]'(by rw [u8s_len]; exact hn), by simp [u8s_len, hn]⟩
      have hcl := cell_lt (hc 0 u hu)
      rw [block_of_add] at hcl
      exact .inr ⟨Nat.le_trans hS.size hD, hcl, hc⟩
  · obtain ⟨hn, ad, he, hg, hge⟩ := hg
    obtain ⟨ad2, he2, hD, hc⟩ := hrow hn
    rw [he] at he2
    injection he2 with he2
    subst he2 hg
    obtain ⟨u, hu⟩ : ∃ u, (u8s bs)[0]? = some u := ⟨(u8s bs)[0]'(by rw [u8s_len]; exact hn), by simp [u8s_len, hn]⟩
    have hcl := cell_lt (hc 0 u hu)
    rw [block_of_add] at hcl
    refine ⟨hcl, ?_⟩
    rcases hD with hD | hD
    · exact absurd (hb _ hD) (by omega)
    · exact .inl hD
theorem stp_bufB {olds : Nat → Prop} {w0 w : World} {L : PL} {g n : Nat} {bs : List Int} (h : Stp olds w0 w (lookM (den olds w0 L))) (k : Nat) (B : Nat) (hB : B ≤ g) (hn : n = bs.length) (hm : bs.length ≤ 140737488355328) (hk : lookP L k = some (.buf g bs) := by kernel_rfl) : Stp olds w0 w (lookM (den olds w0 ((k, some (.bytes B (.slice (some ⟨g, 0, none⟩) n n) bs)) :: L))) := by
  have hM : lookM (den olds w0 L) k = some (ckB g 5 (u8s bs).toArray) := by rw [lookM_den, hk]; rfl
  have hb : Buf w g bs := h.blk k hM
  subst hn
  exact h.then_ (NL := [(k, _)]) (stp_one k (ckR B 5 1 (.slice (some ⟨g, 0, none⟩) bs.length bs.length) bs.length (u8s bs)) (.inl (World.grownBy.refl w _)) (own_of_buf hb hB rfl hm) fun y hy => by
    have e : y = g := by have : (Value.slice (some ⟨g, 0, none⟩) bs.length bs.length).ownBlock = some y := hy; simpa [Value.ownBlock] using this.symm
    subst e
    exact ⟨hb.lt, .inr ⟨k, List.mem_singleton.2 rfl, _, hM, rfl⟩⟩)
set_option maxHeartbeats 4000000 in
set_option maxRecDepth 100000 in
theorem rmar_any (A : Option Addr) (c : Nat) (l : List (Value × Nat × Nat × List Int)) (w : World) (hr : Reads w w.heap.size 1 A l.length (l.flatMap fun z => [z.1])) (hn : l.length ≤ 1048576) (hw : ∀ z ∈ l, ∀ w2, Below w.heap.size w w2 → Writes z.2.1 z.2.2.1 w2 z.1 z.2.2.2) (hb : ∀ z ∈ l, ∀ g, z.2.1 ≤ g ∧ g < z.2.2.1 → g < w.heap.size) (ht : (l.flatMap (fun z => z.2.2.2)).length ≤ 140737488355328) :
    Calls Tryz.prog 31 #[.slice A (l.length : Nat) c] w (MarOut w (l.flatMap (fun z => z.2.2.2))) := by
  refine go_in Tryz.func31 rfl Tryz.ntmps31 [.slice A (l.length : Nat) c] fun a hE => ?_
  have hS := stp_in w
  refine rg hE hS [pu, pu] (fun _ => kp [(2, .slice none 0 0), (3, .nilIface)]) (fun _ => kP []) fun _ a u hE hS => ?_
  refine rgp hE hS [mk 1, pu] (fun p2 => kp [(4, sv (p2 0).g 0 0 0)]) (fun p2 => kP [(1, some (.buf (p2 0).g (List.replicate 0 0)))]) (fun _ => ⟨kr (show 0 ≤ 140737488355328 by omega), trivial⟩) fun p2 a u hE hS => ?_
  have hS := stp_bufB (n := 0) (bs := []) hS 1 w.heap.size (pcG (g := (p2 0).g) (bs := []) hS 1) rfl (by decide)
  refine wp_seq ?_
  refine rg hE hS [pu, pu, pu] (fun _ => kn [(10, .slice A (l.length : Nat) c), (11, .int .i64 (l.length : Nat)), (12, .int .i64 0)] [2, 3, 4]) (fun _ => kN [] [1]) fun _ a u hE hS => ?_
  refine range_up hE hS 12 l.length (fun _ x => kd [12, 13, 27] [(4, .slice x.p.a x.y.length x.p.c)]) (fun _ x => kP [(1, some (.bytes w.heap.size (.slice x.p.a x.y.length x.p.c) x.y))]) (fun k (x : Lx (List Int)) => x.n = 0 ∧ x.y = (l.take k).flatMap (fun z => z.2.2.2)) ⟨⟨0, 0, undef, some ⟨(p2 0).g, 0, none⟩⟩, 0, [], []⟩ (by omega) (⟨rfl, by simp⟩) (fun k x a u hk hI hE hS K hK RK hRK => ?_) fun ⟨qq, n1, xs1, yy⟩ a u hI hE hS => ?_
  · obtain ⟨hk1, hk2⟩ := hI
    have hl1 := hw _ (List.getElem_mem hk)
    have hl2 := hb _ (List.getElem_mem hk)
    have hle : (x.y ++ l[k].2.2.2).length ≤ (l.flatMap (fun z => z.2.2.2)).length := by
      conv => rhs; rw [← List.take_append_drop (k + 1) l, List.flatMap_append, List.take_succ_eq_append_getElem hk, List.flatMap_append, ← hk2]
      simp
    have hS := stp_el hS 90 (el_at hr (fun _ _ => rfl) rfl (fun g hg => ⟨hg, id⟩) k hk (by omega))
    generalize hrk : l[k] = r at hS hl1 hl2 hle
    refine rgp hE hS [ie 90, le 90 0, pu] (fun _ => kp [(6, r.1)]) (fun _ => kP []) (fun _ => ⟨kr (show k < l.length from hk), trivial⟩) fun _ a u hE hS => ?_
    refine rgp hE hS [pu, iv "Marshal" [] [95] (fun y => .tuple #[.slice y.a r.2.2.2.length y.c, .nilIface]) (fun y => [some (.rx y.a r.2.2.2)]), pu, pu, pu, pu, pu] (fun p5 => kp [(7, .slice (p5 1).a r.2.2.2.length (p5 1).c), (8, .nilIface)]) (fun p5 => kP [(95, some (.rx (p5 1).a r.2.2.2))]) (fun _ => ⟨kr (iv_rx (w0 := w) (B := r.2.1) (E := r.2.2.1) (v := r.1) (bs := r.2.2.2) 95 (u := none) hl1 hl2), trivial⟩) fun p5 a u hE hS => ?_
    refine wp_seq ?_
    refine rg hE hS [pu, pu] (fun _ => kp [(22, .bool false)]) (fun _ => kP []) fun _ a u hE hS => ?_
    refine iff hE ?_
    refine wp_skip ?_
    refine rgE hE hS [pu, pu, ab .rx 1 95, pu] (fun p7 => kp [(4, .slice (p7 2).a (x.y ++ r.2.2.2).length (p7 2).c)]) (fun p7 => kP [(1, some (.bytes w.heap.size (.slice (p7 2).a (x.y ++ r.2.2.2).length (p7 2).c) (x.y ++ r.2.2.2)))]) (fun _ => ⟨kr (show w.heap.size ≤ w.heap.size ∧ (x.y ++ r.2.2.2).length ≤ 140737488355328 from ⟨Nat.le_refl _, by omega⟩), trivial⟩) fun p7 a u hE hS => ?_
    exact hK ⟨(p7 2), 0, [], x.y ++ r.2.2.2⟩ a u _ _ ⟨rfl, by show x.y ++ r.2.2.2 = _; rw [hk2, List.take_succ_eq_append_getElem hk, List.flatMap_append, hrk]; simp⟩ hE hS (by kernel_rfl)
  simp only [List.take_length] at hI
  obtain ⟨h1, h2⟩ := hI
  subst h1 h2
  refine rg hE hS [pu, pu, pu] (fun _ => kp [(2, .slice qq.a (l.flatMap (fun z => z.2.2.2)).length qq.c)]) (fun _ => kP []) fun _ a u hE hS => ?_
  refine wp_ret ?_
  exact ret2 hE Tryz.results31 (.slice qq.a (l.flatMap (fun z => z.2.2.2)).length qq.c) .nilIface ⟨qq.a, qq.c, rfl, pcO (base := w.heap.size) hS 1, hS.below⟩
end Go.Proofs.YtmmfpgoodfgkbaaGreat
/-
  THE WALKS of the thin package's writing of packets, guard and closure. Condition: the contract of each packet's making.
-/
namespace Go.Proofs.YtmmfpgoodfgkbaaGreat
open Go Go.RowKit
set_option linter.unusedVariables false
set_option linter.unusedSimpArgs false

/-- Packets of the package that write given bytes, and the list of them, in blocks from B up to E. -/
def ckL (B E : Nat) (A : Option Addr) (bss : List (List Int)) : Ck :=
  ⟨fun g => B ≤ g ∧ g < E, fun w => ∃ vs : List (Value × Nat × Nat × List Int), vs.map (fun z => z.2.2.2) = bss ∧ InRows w B E 1 A vs.length (vs.flatMap fun z => [z.1]) ∧ (∀ x ∈ vs, ∀ g, x.2.1 ≤ g ∧ g < x.2.2.1 → B ≤ g ∧ g < E) ∧ ∀ x ∈ vs, (ckW x.2.1 x.2.2.1 x.1 x.2.2.2).ok w,
    fun w w' hk h => by
      obtain ⟨vs, h1, h2, h3, h4⟩ := h
      exact ⟨vs, h1, h2.st hk, h3, fun x hx => (ckW x.2.1 x.2.2.1 x.1 x.2.2.2).st w w' (fun g hg => hk g (h3 x hx g hg)) (h4 x hx)⟩⟩
def bssL (l : List (Pkt × List Int)) : List (List Int) := l.map fun z => z.2
def bsL (l : List (Pkt × List Int)) : List Int := (bssL l).flatten
section
variable {olds : Nat → Prop} {w0 : World}
theorem cu_all {B0 : Nat} {ps : List (Option Pc)} (k : Nat) (A : Option Addr) (c : Nat) (l : List (Pkt × List Int)) (hn : l.length ≤ 1048576) (hB : B0 ≤ w0.heap.size) (ho : ∀ g, olds g → B0 ≤ g) (hr : ∀ w', Below B0 w0 w' → Reads w' w'.heap.size 30 A l.length (l.flatMap fun z => z.1.cl)) (hb : ∀ z ∈ l, ∀ w', Below B0 w0 w' → Calls Tryz.prog 29 #[.agg z.1.cells] w' (Built w' z.2))
    (L : PL) (w : World) (_ : ps = ([] ++ [k]).map (lookP L)) (hS : Stp olds w0 w (restr ([] ++ [k]) (lookM (den olds w0 L)))) :
    Calls Tryz.prog 32 #[.slice A (l.length : Nat) c] w fun e w' => ∃ x : Pay, e = .returned (.slice x.a (l.length : Nat) x.c) ∧ Stp (blksOf (lookM (den olds w0 L)) [k]) w w' (lookM (den olds w0 (zipW [k] [some (.ck (ckL x.g (intOf x.v).toNat x.a (bssL l)))]))) := by
  have hBw := hS.old B0 hB ho
  refine (all_any A c l w (hr w hBw) hn (fun z hz w' hw' => hb z hz w' (hBw.trans (hw'.mono (Nat.le_trans hB hS.size))))).mono ?_
  rintro e w' ⟨A2, c2, vs, hvs, rfl, hrow, hok, hlt, hBl⟩
  have hl : vs.length = l.length := by simpa using congrArg List.length hvs
  refine ⟨⟨w.heap.size, c2, .int .i64 (w'.heap.size : Nat), A2⟩, rfl, ?_⟩
  exact stp_make (c' := .ck (ckL w.heap.size w'.heap.size A2 (bssL l))) hBl ⟨vs, hvs, by rw [hl]; exact hrow, fun x hx g hg => (hlt g ⟨x, hx, hg⟩).symm, hok⟩ fun y hy => ⟨hy.2, hy.1⟩
theorem cu_rmar {B E : Nat} {A : Option Addr} {bss : List (List Int)} (k j : Nat) (n c : Nat) {u : Option Pc} (hn : bss.length ≤ 1048576) (hl : n = bss.length) (ht : bss.flatten.length ≤ 140737488355328)
    (L : PL) (w : World) (hps : [some (.ck (ckL B E A bss)), u] = ([k] ++ [j]).map (lookP L)) (hS : Stp olds w0 w (restr ([k] ++ [j]) (lookM (den olds w0 L)))) :
    Calls Tryz.prog 31 #[.slice A (n : Nat) c] w fun e w' => ∃ x : Pay, e = .returned (.tuple #[.slice x.a bss.flatten.length x.c, .nilIface]) ∧ Stp (blksOf (lookM (den olds w0 L)) [j]) w w' (lookM (den olds w0 (zipW [j] [some (.ck (ckA x.a bss.flatten))]))) := by
  subst hl
  have hl : lookP L k = some (.ck (ckL B E A bss)) := by simp only [List.cons_append, List.nil_append, List.map_cons, List.map_nil, List.cons.injEq] at hps; exact hps.1.symm
  have hr : restr ([k] ++ [j]) (lookM (den olds w0 L)) k = some (ckL B E A bss) := by simp [restr, hasN, lookM_den, hl, Pc.den]
  have hk : (ckL B E A bss).ok w := hS.ok k _ hr
  have hlt : ∀ g, B ≤ g ∧ g < E → g < w.heap.size := fun g hg => (hS.lt k _ hr g hg).1
  obtain ⟨vs, rfl, h2, h3, h4⟩ := hk
  rw [List.length_map] at hn ⊢
  refine (rmar_any A c vs w (h2.readsH hlt) hn (fun z hz w2 hw2 => ckW.writes ((ckW z.2.1 z.2.2.1 z.1 z.2.2.2).st w w2 (fun g hg => hw2.block g (hlt g (h3 z hz g hg))) (h4 z hz))) (fun z hz g hg => hlt g (h3 z hz g hg)) ht).mono ?_
  rintro e w' ⟨A2, c2, rfl, hown, hBl⟩
  refine ⟨⟨0, c2, undef, A2⟩, rfl, ?_⟩
  refine stp_one j (ckA A2 (vs.map fun z : Value × Nat × Nat × List Int => z.2.2.2).flatten) (.inl (grownBy_of_below hBl none)) ((RowIn.of_own hown).wide fun _ _ => trivial) fun g hg => ?_
  obtain ⟨hn0, ad, he, hgb⟩ := hg
  obtain ⟨g', cap, hv, hb, hl'⟩ := hown.form hn0
  have hA : A2 = some ⟨g', 0, none⟩ := by injection hv
  rw [hA] at he
  injection he with he
  subst he hgb
  exact ⟨hl', .inl hb⟩
end
set_option maxHeartbeats 2000000 in
set_option maxRecDepth 100000 in
theorem marCloL (A : Option Addr) (c : Nat) (l : List (Pkt × List Int)) (g0 g1 : Nat) (hn : l.length ≤ 1048576) (ht : (bsL l).length ≤ 140737488355328) {w0 : World} (hr : ∀ w', Below w0.heap.size w0 w' → Reads w' w'.heap.size 30 A l.length (l.flatMap fun z => z.1.cl)) (hb : ∀ z ∈ l, ∀ w', Below w0.heap.size w0 w' → Calls Tryz.prog 29 #[.agg z.1.cells] w' (Built w' z.2)) (olds : Nat → Prop) (w : World) (hBw : Below w0.heap.size w0 w) (ho : ∀ g, olds g → w0.heap.size ≤ g) (hS0 : Stp olds w w (lookM (den olds w (zipW [102, 101, 95] [some (.blk g1 25 #[.slice none 0 0]), some (.blk g0 61 #[.slice A (l.length : Nat) c]), none])))) :
    Calls Tryz.prog 30 #[.pointer (some ⟨g0, 0, none⟩), .pointer (some ⟨g1, 0, none⟩)] w fun e w' => ∃ x : Pay, e = .returned (.bool true) ∧ Stp olds w w' (lookM (den olds w (zipW [102, 101, 95] ((fun x => [some (.blk g1 25 #[.slice x.a (bsL l).length x.c]), some (.blk g0 61 #[.slice A (l.length : Nat) c]), some (.ck (ckA x.a (bsL l)))]) x)))) := by
  refine go_in Tryz.func30 rfl Tryz.ntmps30 [pt g0 0, pt g1 0] fun a hE => ?_
  have hS := stp_rem hS0 [(102, some (.blk g1 25 #[.slice none 0 0])), (101, some (.blk g0 61 #[.slice A (l.length : Nat) c]))] (by kernel_rfl)
  refine rg hE hS [pu] (fun _ => kp [(2, .bool false)]) (fun _ => kP []) fun _ a u hE hS => ?_
  refine rgp hE hS [ld 101, cu 32 [] [96] (fun y => .slice y.a (l.length : Nat) y.c) (fun y => [some (.ck (ckL y.g (intOf y.v).toNat y.a (bssL l)))]), cu 31 [96] [95] (fun y => .tuple #[.slice y.a (bsL l).length y.c, .nilIface]) (fun y => [some (.ck (ckA y.a (bsL l)))]), pu, pu, pu, pu, pu] (fun p2 => kp [(3, .slice (p2 2).a (bsL l).length (p2 2).c), (4, .nilIface)]) (fun p2 => kP [(95, some (.ck (ckA (p2 2).a (bsL l)))), (96, some (.ck (ckL (p2 1).g (intOf (p2 1).v).toNat (p2 1).a (bssL l))))]) (fun p2 => ⟨kr (cu_all (olds := olds) (w0 := w) (B0 := w0.heap.size) (ps := [none]) 96 A c l hn hBw.size ho (fun w' h => hr w' (hBw.trans h)) (fun z hz w' h => hb z hz w' (hBw.trans h))), kr (cu_rmar (olds := olds) (w0 := w) (B := (p2 1).g) (E := (intOf (p2 1).v).toNat) (A := (p2 1).a) (bss := bssL l) 96 95 l.length (p2 1).c (u := none) (by rw [bssL, List.length_map]; exact hn) (by rw [bssL, List.length_map]) ht), trivial⟩) fun p2 a u hE hS => ?_
  refine rg hE hS [pu, st 102] (fun _ => kp []) (fun _ => kP [(102, some (.blk g1 25 #[.slice (p2 2).a (bsL l).length (p2 2).c]))]) fun _ a u hE hS => ?_
  refine rg hE hS [pu, pu, pu] (fun _ => kp [(2, .bool true)]) (fun _ => kP []) fun _ a u hE hS => ?_
  refine wp_ret ?_
  exact ret1 hE Tryz.results30 (.bool true) ⟨p2 2, rfl, end_mem (s := ⟨[], _⟩) (s' := ⟨[], _⟩) (fst_snd (by kernel_rfl)) hS⟩
set_option maxRecDepth 100000 in
theorem marshalL_any (A : Option Addr) (c : Nat) (l : List (Pkt × List Int)) (hn : l.length ≤ 1048576) (ht : (bsL l).length ≤ 140737488355328) (w : World) (hr : ∀ w', Below w.heap.size w w' → Reads w' w'.heap.size 30 A l.length (l.flatMap fun z => z.1.cl)) (hb : ∀ z ∈ l, ∀ w', Below w.heap.size w w' → Calls Tryz.prog 29 #[.agg z.1.cells] w' (Built w' z.2)) :
    Calls Tryz.prog 13 #[.slice A (l.length : Nat) c] w fun e w' => ∃ A2 c2, e = .returned (.tuple #[.slice A2 (bsL l).length c2, .bool true]) ∧ Reads w' w'.heap.size 1 A2 (bsL l).length (u8s (bsL l)) ∧ Below w.heap.size w w' := by
  refine go_in Tryz.func13 rfl Tryz.ntmps13 [.slice A (l.length : Nat) c] fun a hE => ?_
  have hS := stp_in w
  refine rg hE hS [nw 101, nw 102, pu] (fun p1 => kp [(1, pt (p1 0).g 0), (2, pt (p1 1).g 0), (3, .bool false)]) (fun p1 => kP [(101, some (.blk (p1 0).g 61 #[.slice A (l.length : Nat) c])), (102, some (.blk (p1 1).g 25 #[.slice none 0 0]))]) fun p1 a u hE hS => ?_
  refine rgp hE hS [pu, cu 26 [] [102, 101, 95] (fun _ => .bool true) (fun x => [some (.blk (p1 1).g 25 #[.slice x.a (bsL l).length x.c]), some (.blk (p1 0).g 61 #[.slice A (l.length : Nat) c]), some (.ck (ckA x.a (bsL l)))]), pu] (fun _ => kp [(3, .bool true)]) (fun p2 => kP [(102, some (.blk (p1 1).g 25 #[.slice (p2 1).a (bsL l).length (p2 1).c])), (95, some (.ck (ckA (p2 1).a (bsL l))))]) (fun _ => ⟨kr (try_cu (w0 := w) (ps := [some (.blk (p1 1).g 25 #[.slice none 0 0]), some (.blk (p1 0).g 61 #[.slice A (l.length : Nat) c]), none]) (W := fun x => [some (.blk (p1 1).g 25 #[.slice x.a (bsL l).length x.c]), some (.blk (p1 0).g 61 #[.slice A (l.length : Nat) c]), some (.ck (ckA x.a (bsL l)))]) (fun _ => by kernel_rfl) (fun _ _ _ _ => rfl) (fun _ _ _ _ _ => rfl) fun olds w2 hB2 ho hS2 => marCloL A c l (p1 0).g (p1 1).g hn ht hr hb olds w2 hB2 ho hS2), trivial⟩) fun p2 a u hE hS => ?_
  refine wp_seq ?_
  refine rg hE hS [pu, pu] (fun _ => kp [(7, .bool false)]) (fun _ => kP []) fun _ a u hE hS => ?_
  refine iff hE ?_
  refine wp_skip ?_
  refine rg hE hS [ld 102, st 102, pu] (fun _ => kp []) (fun _ => kP []) fun _ a u hE hS => ?_
  refine wp_ret ?_
  exact retct hE hS Tryz.results13 102 (p1 1).g 25 #[.slice (p2 1).a (bsL l).length (p2 1).c] (.slice (p2 1).a (bsL l).length (p2 1).c) (.bool true) ⟨(p2 1).a, (p2 1).c, rfl, RowIn.reads (D := fun _ => True) (hS.ok 95 (ckA (p2 1).a (bsL l)) (by kernel_rfl)), hS.below⟩
end Go.Proofs.YtmmfpgoodfgkbaaGreat
/-
  THE WALK of the law on the writing of packets. Condition: the packets lie in memory, their numbers fit their kinds, no part is too long.
-/
namespace Go.Proofs.YtmmfpgoodfgkbaaGreat
open Go Go.RowKit
set_option linter.unusedVariables false

theorem zip_of {F : Pkt → Pkt × List Int × Bool} : ∀ (gs : List (Pkt × Pkt)) (l : List Pkt), gs.map (·.1) = l.map (fun z => (F z).1) → ∀ y ∈ gs.zip l, y.1.1 = (F y.2).1
  | [], _, _, y, hy => by simp at hy
  | _ :: _, [], h, _, _ => by simp at h
  | g :: gs, p :: l, h, y, hy => by
    simp only [List.map_cons, List.cons.injEq] at h
    rw [List.zip_cons_cons] at hy
    rcases List.mem_cons.1 hy with rfl | hy
    · exact h.1
    · exact zip_of gs l h.2 y hy
theorem total_of {F : Pkt → Pkt × List Int × Bool} {l : List Pkt} (hY : LegY F l) (hb : ∀ p ∈ l, (F p).2.1.length ≤ 131072) : (l.flatMap fun z => (F z).2.1).length ≤ 262144 := by
  obtain ⟨h0, h1⟩ := hY
  have hk : l.length - 1 < l.length := by omega
  have h2 := (h1 (l.length - 1) hk).2
  have h3 := hb _ (List.getElem_mem hk)
  have e : l = l.take (l.length - 1) ++ [l[l.length - 1]] := by
    rw [← List.take_succ_eq_append_getElem hk]
    exact (List.take_of_length_le (by omega)).symm
  have : (l.flatMap fun z => (F z).2.1).length = ((l.take (l.length - 1)).flatMap fun z => (F z).2.1).length + (F l[l.length - 1]).2.1.length := by
    have := congrArg (fun m => (m.flatMap fun z => (F z).2.1).length) e
    simpa only [List.flatMap_append, List.length_append, List.flatMap_cons, List.flatMap_nil, List.append_nil] using this
  omega
/-- The packets that the thin package makes, each with its bytes. -/
def mkL (F : Pkt → Pkt × List Int × Bool) (gs : List (Pkt × Pkt)) (l : List Pkt) : List (Pkt × List Int) := (gs.zip l).map fun y => (y.1.2, (F y.2).2.1)
theorem mkL_facts {F : Pkt → Pkt × List Int × Bool} {gs : List (Pkt × Pkt)} {l : List Pkt} (h : gs.map (·.1) = l.map (fun z => (F z).1)) :
    (mkL F gs l).length = l.length ∧ (mkL F gs l).flatMap (fun z => z.1.cl) = gs.flatMap (fun z => z.2.cl) ∧ bsL (mkL F gs l) = l.flatMap (fun z => (F z).2.1) := by
  have hl : gs.length = l.length := by simpa using congrArg List.length h
  have e1 : (gs.zip l).map (·.1) = gs := List.map_fst_zip (by omega)
  have e2 : (gs.zip l).map (·.2) = l := List.map_snd_zip (by omega)
  refine ⟨by simp [mkL, hl], ?_, ?_⟩
  · conv => rhs; rw [← e1]
    simp [mkL, List.flatMap_map]
  · conv => rhs; rw [← e2]
    simp [mkL, bsL, bssL, List.flatMap, Function.comp_def]

set_option maxHeartbeats 4000000 in
set_option maxRecDepth 100000 in
theorem lawL_any (A : Option Addr) (c0 : Nat) (l : List Pkt) (w : World) (hr : Reads w w.heap.size 30 A l.length (l.flatMap Pkt.cl)) (hn : l.length ≤ 1048576) (hl : ∀ p ∈ l, p.Lies w w.heap.size ∧ p.Ok3 ∧ p.Small) :
    Calls Tryz.prog 4 #[.slice A (l.length : Nat) c0] w fun e w' => e = .returned (.bool true) ∧ Below w.heap.size w w' := by
  obtain ⟨F, hF⟩ := pw_fun
  refine calls_of_wp Tryz.func4 rfl ?_
  rw [Tryz.ntmps4]
  have hE0 : Env 33 [(0, .slice A (l.length : Nat) c0)] ⟨#[.slice A (l.length : Nat) c0] ++ Array.replicate (33 - (#[.slice A (l.length : Nat) c0] : Array Value).size) undef, []⟩ := Env.enter _ (by simp) ⟨by simp, trivial⟩
  generalize (⟨#[.slice A (l.length : Nat) c0] ++ Array.replicate (33 - (#[.slice A (l.length : Nat) c0] : Array Value).size) undef, []⟩ : Act) = a0 at hE0 ⊢
  have hS0 : Stp (fun _ => False) w w (lookM []) := Stp.refl w
  refine wp_seq_k fun K1 hK1 => ?_
  refine wp_region_lit ?_
  refine seq_pure hE0 2 (.bool false) (fun w => by kernel_rfl) rfl rfl rfl rfl rfl fun a2 hE2 => ?_
  clear hE0 a0
  refine wpList_nil ?_
  refine hK1 _ _ ?_
  clear hK1
  refine wp_seq_k fun K3 hK3 => ?_
  refine wp_seq_k fun K4 hK4 => ?_
  refine wp_region_lit ?_
  refine seq_pure hE2 8 (.slice A (l.length : Nat) c0) (fun w => by kernel_rfl) rfl rfl rfl rfl rfl fun a5 hE5 => ?_
  clear hE2 a2
  refine wpList_val hE5 9 rfl rfl fun K hK => ?_
  have e8 := hE5.get 8 rfl
  go_simp
  refine (fits10_any A c0 l w ((hr.below (hS0.old _ (Nat.le_refl _) (fun _ h => h.elim))).more hS0.size) hn (fun p hp => ((hl p hp).1.below (hS0.old _ (Nat.le_refl _) (fun _ h => h.elim))).more hS0.size)).mono ?_
  rintro e w5 ⟨b, rfl, hB5⟩
  refine hK _ _ fun a6 hE6 => ?_
  clear hK K e8
  clear hE5 a5
  have hS7 := hS0.still hB5
  clear hB5 hS0
  cases b with
  | false =>
    refine wpList_val hE6 10 rfl rfl fun K hK => ?_
    have e9 := hE6.get 9 rfl
    go_simp
    refine hK _ _ fun a8 hE8 => ?_
    clear hK K e9
    clear hE6 a6
    refine wpList_nil ?_
    refine hK4 _ _ ?_
    clear hK4
    refine wp_if_t hE8 10 rfl ?_
    refine wp_seq_k fun K9 hK9 => ?_
    refine wp_region_lit ?_
    refine seq_pure hE8 2 (.bool true) (fun w => by kernel_rfl) rfl rfl rfl rfl rfl fun a10 hE10 => ?_
    clear hE8 a8
    refine wpList_nil ?_
    refine hK9 _ _ ?_
    clear hK9
    refine wp_ret ?_
    try simp only [Exit.then]
    refine bodyPost_ret (v := .bool true) (by simp [results, Tryz.results4, go_sem, hE10.get 2 rfl]) hE10.defers ⟨rfl, hS7.below⟩
  | true =>
    refine wpList_val hE6 10 rfl rfl fun K hK => ?_
    have e9 := hE6.get 9 rfl
    go_simp
    refine hK _ _ fun a8 hE8 => ?_
    clear hK K e9
    clear hE6 a6
    refine wpList_nil ?_
    refine hK4 _ _ ?_
    clear hK4
    refine wp_if_f hE8 10 rfl ?_
    refine wp_skip ?_
    refine hK3 _ _ ?_
    clear hK3
    refine wp_seq_k fun K9 hK9 => ?_
    refine wp_region_lit ?_
    refine seq_pure hE8 12 (.slice A (l.length : Nat) c0) (fun w => by kernel_rfl) rfl rfl rfl rfl rfl fun a10 hE10 => ?_
    clear hE8 a8
    refine wpList_val hE10 13 rfl rfl fun K hK => ?_
    have e12 := hE10.get 12 rfl
    go_simp
    refine (legals_any F A c0 l w5 ((hr.below (hS7.old _ (Nat.le_refl _) (fun _ h => h.elim))).more hS7.size) hn (fun p hp => ⟨((hl p hp).1.below (hS7.old _ (Nat.le_refl _) (fun _ h => h.elim))).more hS7.size, hF p (hl p hp).2.1 (hl p hp).2.2⟩)).mono ?_
    intro e w6 hL
    rcases hL with hL | hL
    case inl =>
      obtain ⟨bs, hbs⟩ : ∃ bs, bs = l.flatMap fun z => (F z).2.1 := ⟨_, rfl⟩
      rw [← hbs] at hL
      replace hbs := Lib.hid hbs
      obtain ⟨hY, A2, c2, A3, c3, rfl, hx, hrd, hB6⟩ := hL
      refine hK _ _ fun a11 hE11 => ?_
      clear hK K e12
      clear hE10 a10
      have hBw6 := hS7.below.trans (hB6.mono hS7.size)
      clear hB6 hS7
      have hS12 : Stp (fun _ => False) w6 w6 (lookM []) := Stp.refl w6
      refine seq_pure hE11 11 (.tuple #[.slice A2 (l.length : Nat) c2, .slice A3 bs.length c3, .bool true]) (fun w => by kernel_rfl) rfl rfl rfl rfl rfl fun a13 hE13 => ?_
      clear hE11 a11
      refine wpList_val hE13 14 rfl rfl fun K hK => ?_
      have e11 := hE13.get 11 rfl
      go_simp
      refine hK _ _ fun a14 hE14 => ?_
      clear hK K e11
      clear hE13 a13
      refine wpList_val hE14 15 rfl rfl fun K hK => ?_
      have e11 := hE14.get 11 rfl
      go_simp
      refine hK _ _ fun a15 hE15 => ?_
      clear hK K e11
      clear hE14 a14
      refine wpList_val hE15 16 rfl rfl fun K hK => ?_
      have e11 := hE15.get 11 rfl
      go_simp
      refine hK _ _ fun a16 hE16 => ?_
      clear hK K e11
      clear hE15 a15
      refine seq_pure hE16 3 (.slice A2 (l.length : Nat) c2) (fun w => by kernel_rfl) rfl rfl rfl rfl rfl fun a17 hE17 => ?_
      clear hE16 a16
      refine seq_pure hE17 4 (.slice A3 bs.length c3) (fun w => by kernel_rfl) rfl rfl rfl rfl rfl fun a18 hE18 => ?_
      clear hE17 a17
      refine seq_pure hE18 5 (.bool true) (fun w => by kernel_rfl) rfl rfl rfl rfl rfl fun a19 hE19 => ?_
      clear hE18 a18
      refine wpList_nil ?_
      refine hK9 _ _ ?_
      clear hK9
      refine wp_seq_k fun K20 hK20 => ?_
      refine wp_seq_k fun K21 hK21 => ?_
      refine wp_region_lit ?_
      refine seq_pure hE19 17 (.bool true) (fun w => by kernel_rfl) rfl rfl rfl rfl rfl fun a22 hE22 => ?_
      clear hE19 a19
      refine wpList_val hE22 18 rfl rfl fun K hK => ?_
      have e17 := hE22.get 17 rfl
      go_simp
      refine hK _ _ fun a23 hE23 => ?_
      clear hK K e17
      clear hE22 a22
      refine wpList_nil ?_
      refine hK21 _ _ ?_
      clear hK21
      refine wp_if_f hE23 18 rfl ?_
      refine wp_skip ?_
      refine hK20 _ _ ?_
      clear hK20
      refine wp_seq_k fun K24 hK24 => ?_
      refine wp_region_lit ?_
      refine seq_pure hE23 20 (.slice A2 (l.length : Nat) c2) (fun w => by kernel_rfl) rfl rfl rfl rfl rfl fun a25 hE25 => ?_
      clear hE23 a23
      refine wpList_val hE25 21 rfl rfl fun K hK => ?_
      have e20 := hE25.get 20 rfl
      go_simp
      have hx2 : Reads w6 w6.heap.size 30 A2 (l.map fun z => (F z).1).length ((l.map fun z => (F z).1).flatMap Pkt.cl) := by
        rw [List.length_map, List.flatMap_map]
        exact hx
      have hq := givens_any A2 c2 (l.map fun z => (F z).1) w6 ((hx2.below hS12.below).more hS12.size) (by rw [List.length_map]; exact hn) (fun p hp => by
        obtain ⟨z, hz, rfl⟩ := List.mem_map.1 hp
        have hz2 := hF z (hl z hz).2.1 (hl z hz).2.2
        exact ⟨hz2.lies _ _ (((hl z hz).1.below (hBw6.trans (hS12.below.mono hBw6.size))).more (hBw6.trans (hS12.below.mono hBw6.size)).size), hz2.short⟩)
      rw [List.length_map] at hq
      refine hq.mono ?_
      clear hq hx2
      rintro e w8 ⟨A4, c4, gs, hgs, rfl, hgr, hgl0, hB8⟩
      refine hK _ _ fun a26 hE26 => ?_
      clear hK K e20
      clear hE25 a25
      have hS27 := hS12.still hB8
      clear hB8 hS12
      have hle : gs.length = l.length := by simpa using congrArg List.length hgs
      obtain ⟨m1, m2, m3⟩ := mkL_facts hgs
      have hgl := zip_of gs l hgs
      have hd : ∀ p ∈ l, (F p).2.2 = true := fun p hp => by
        obtain ⟨j, hj, rfl⟩ := List.mem_iff_getElem.1 hp
        exact (hY.2 j hj).1
      have htot := total_of hY fun p hp => (hF p (hl p hp).2.1 (hl p hp).2.2).len (hd p hp)
      rw [← m2, ← m1] at hgr
      rw [← hbs.out] at m3 htot
      refine wpList_val hE26 22 rfl rfl fun K hK => ?_
      have e21 := hE26.get 21 rfl
      go_simp
      have hm := marshalL_any A4 c4 (mkL F gs l) (by rw [m1]; exact hn) (by show (bsL (mkL F gs l)).length ≤ _; rw [m3]; omega) w8 (fun w' hw' => (hgr.below hw').more hw'.size) (fun z hz w' hw' => by
        obtain ⟨y, hy, rfl⟩ := List.mem_map.1 hz
        have h1 := List.of_mem_zip hy
        have h2 := hgl y hy
        have h3 := hgl0 y.1 h1.1
        have h4 := hF y.2 (hl y.2 h1.2).2.1 (hl y.2 h1.2).2.2
        exact h4.built (hd y.2 h1.2) y.1.2 w' (by rw [← h2]; exact h3.1) ((h3.2.below hw').more hw'.size))
      rw [m1, m3] at hm
      refine hm.mono ?_
      clear hm m1 m2 m3 hbs hgs hle hgl hgr
      rintro e w9 ⟨A5, c5, rfl, hgot, hB9⟩
      refine hK _ _ fun a28 hE28 => ?_
      clear hK K e21
      clear hE26 a26
      have hS29 := hS27.still hB9
      clear hB9 hS27
      refine seq_pure hE28 19 (.tuple #[.slice A5 bs.length c5, .bool true]) (fun w => by kernel_rfl) rfl rfl rfl rfl rfl fun a30 hE30 => ?_
      clear hE28 a28
      refine wpList_val hE30 23 rfl rfl fun K hK => ?_
      have e19 := hE30.get 19 rfl
      go_simp
      refine hK _ _ fun a31 hE31 => ?_
      clear hK K e19
      clear hE30 a30
      refine wpList_val hE31 24 rfl rfl fun K hK => ?_
      have e19 := hE31.get 19 rfl
      go_simp
      refine hK _ _ fun a32 hE32 => ?_
      clear hK K e19
      clear hE31 a31
      refine seq_pure hE32 6 (.slice A5 bs.length c5) (fun w => by kernel_rfl) rfl rfl rfl rfl rfl fun a33 hE33 => ?_
      clear hE32 a32
      refine seq_pure hE33 7 (.bool true) (fun w => by kernel_rfl) rfl rfl rfl rfl rfl fun a34 hE34 => ?_
      clear hE33 a33
      refine wpList_nil ?_
      refine hK24 _ _ ?_
      clear hK24
      refine wp_seq_k fun K35 hK35 => ?_
      refine wp_region_lit ?_
      refine seq_pure hE34 25 (.bool true) (fun w => by kernel_rfl) rfl rfl rfl rfl rfl fun a36 hE36 => ?_
      clear hE34 a34
      refine seq_pure hE36 26 (.bool true) (fun w => by kernel_rfl) rfl rfl rfl rfl rfl fun a37 hE37 => ?_
      clear hE36 a36
      refine wpList_gval hE37 27 1 true 26 rfl rfl rfl rfl fun K hK => ?_
      have e6 := hE37.get 6 rfl
      go_simp
      refine hK _ _ fun a38 hE38 => ?_
      clear hK K e6
      clear hE37 a37
      refine wpList_gval hE38 28 1 true 26 rfl rfl rfl rfl fun K hK => ?_
      have e27 := hE38.get 27 rfl
      refine exec_wp (v := .string (strB bs)) (w' := w9) (by simp [execOp, Act.eval, e27, conv_str hgot]) ?_
      refine hK _ _ fun a39 hE39 => ?_
      clear hK K e27
      clear hE38 a38
      refine wpList_gval hE39 29 1 true 26 rfl rfl rfl rfl fun K hK => ?_
      have e4 := hE39.get 4 rfl
      go_simp
      refine hK _ _ fun a40 hE40 => ?_
      clear hK K e4
      clear hE39 a39
      refine wpList_gval hE40 30 1 true 26 rfl rfl rfl rfl fun K hK => ?_
      have e29 := hE40.get 29 rfl
      refine exec_wp (v := .string (strB bs)) (w' := w9) (by simp [execOp, Act.eval, e29, conv_str (hrd.below hS29.below)]) ?_
      refine hK _ _ fun a41 hE41 => ?_
      clear hK K e29
      clear hE40 a40
      refine wpList_gval hE41 31 1 true 26 rfl rfl rfl rfl fun K hK => ?_
      have e28 := hE41.get 28 rfl
      have e30 := hE41.get 30 rfl
      go_simp
      refine hK _ _ fun a42 hE42 => ?_
      clear hK K e28 e30
      clear hE41 a41
      refine wpList_val hE42 32 rfl rfl fun K hK => ?_
      have e26 := hE42.get 26 rfl
      have e31 := hE42.get 31 rfl
      go_simp
      refine hK _ _ fun a43 hE43 => ?_
      clear hK K e26 e31
      clear hE42 a42
      refine seq_pure hE43 2 (.bool true) (fun w => by kernel_rfl) rfl rfl rfl rfl rfl fun a44 hE44 => ?_
      clear hE43 a43
      refine wpList_nil ?_
      refine hK35 _ _ ?_
      clear hK35
      refine wp_ret ?_
      try simp only [Exit.then]
      refine bodyPost_ret (v := .bool true) (by simp [results, Tryz.results4, go_sem, hE44.get 2 rfl]) hE44.defers ⟨rfl, (hBw6.trans (hS29.below.mono hBw6.size))⟩
    case inr =>
      obtain ⟨_, v1, v2, rfl, hB6⟩ := hL
      refine hK _ _ fun a11 hE11 => ?_
      clear hK K e12
      clear hE10 a10
      have hBw6 := hS7.below.trans (hB6.mono hS7.size)
      clear hB6 hS7
      have hS12 : Stp (fun _ => False) w6 w6 (lookM []) := Stp.refl w6
      refine seq_pure hE11 11 (.tuple #[v1, v2, .bool false]) (fun w => by kernel_rfl) rfl rfl rfl rfl rfl fun a13 hE13 => ?_
      clear hE11 a11
      refine wpList_val hE13 14 rfl rfl fun K hK => ?_
      have e11 := hE13.get 11 rfl
      go_simp
      refine hK _ _ fun a14 hE14 => ?_
      clear hK K e11
      clear hE13 a13
      refine wpList_val hE14 15 rfl rfl fun K hK => ?_
      have e11 := hE14.get 11 rfl
      go_simp
      refine hK _ _ fun a15 hE15 => ?_
      clear hK K e11
      clear hE14 a14
      refine wpList_val hE15 16 rfl rfl fun K hK => ?_
      have e11 := hE15.get 11 rfl
      go_simp
      refine hK _ _ fun a16 hE16 => ?_
      clear hK K e11
      clear hE15 a15
      refine seq_pure hE16 3 (v1) (fun w => by kernel_rfl) rfl rfl rfl rfl rfl fun a17 hE17 => ?_
      clear hE16 a16
      refine seq_pure hE17 4 (v2) (fun w => by kernel_rfl) rfl rfl rfl rfl rfl fun a18 hE18 => ?_
      clear hE17 a17
      refine seq_pure hE18 5 (.bool false) (fun w => by kernel_rfl) rfl rfl rfl rfl rfl fun a19 hE19 => ?_
      clear hE18 a18
      refine wpList_nil ?_
      refine hK9 _ _ ?_
      clear hK9
      refine wp_seq_k fun K20 hK20 => ?_
      refine wp_seq_k fun K21 hK21 => ?_
      refine wp_region_lit ?_
      refine seq_pure hE19 17 (.bool false) (fun w => by kernel_rfl) rfl rfl rfl rfl rfl fun a22 hE22 => ?_
      clear hE19 a19
      refine wpList_val hE22 18 rfl rfl fun K hK => ?_
      have e17 := hE22.get 17 rfl
      go_simp
      refine hK _ _ fun a23 hE23 => ?_
      clear hK K e17
      clear hE22 a22
      refine wpList_nil ?_
      refine hK21 _ _ ?_
      clear hK21
      refine wp_if_t hE23 18 rfl ?_
      refine wp_seq_k fun K24 hK24 => ?_
      refine wp_region_lit ?_
      refine seq_pure hE23 2 (.bool true) (fun w => by kernel_rfl) rfl rfl rfl rfl rfl fun a25 hE25 => ?_
      clear hE23 a23
      refine wpList_nil ?_
      refine hK24 _ _ ?_
      clear hK24
      refine wp_ret ?_
      try simp only [Exit.then]
      refine bodyPost_ret (v := .bool true) (by simp [results, Tryz.results4, go_sem, hE25.get 2 rfl]) hE25.defers ⟨rfl, (hBw6.trans (hS12.below.mono hBw6.size))⟩

end Go.Proofs.YtmmfpgoodfgkbaaGreat
