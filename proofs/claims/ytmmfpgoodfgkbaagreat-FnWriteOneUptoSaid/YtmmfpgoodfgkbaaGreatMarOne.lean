/-
  THE WALKS of the thin package's writing of one packet and of its size, guard and closure. Condition: the contract of the packet's making.
-/
import Derived.Test.YtmmfpgoodfgkbaaGreatInvk
import Derived.Test.YtmmfpgoodfgkbaaGreatTry
import Derived.Test.YtmmfpgoodfgkbaaGreatMPkt
import Derived.Test.YtmmfpgoodfgkbaaGreatMStep
namespace Go.Proofs.YtmmfpgoodfgkbaaGreat
open Go Go.RowKit
set_option linter.unusedVariables false
set_option linter.unusedSimpArgs false

/-- What the making of a packet leaves: a packet whose methods write these bytes, in new memory. -/
def Built (w : World) (bs : List Int) (e : Ending) (w' : World) : Prop := ∃ v, e = .returned v ∧ (ckW w.heap.size w'.heap.size v bs).ok w' ∧ Below w.heap.size w w'
theorem look2 {a b c : Ck} {k k' n : Nat} (h : lookM [(k, some a), (k', some b)] n = some c) : (n = k ∧ c = a) ∨ (n = k' ∧ c = b) := by
  simp only [lookM] at h
  cases h1 : Nat.beq k n with
  | true => rw [h1] at h; simp only [cond_true, Option.some.injEq] at h; exact .inl ⟨(Nat.eq_of_beq_eq_true h1).symm, h.symm⟩
  | false =>
    rw [h1] at h
    simp only [cond_false] at h
    cases h2 : Nat.beq k' n with
    | true => rw [h2] at h; simp only [cond_true, Option.some.injEq] at h; exact .inr ⟨(Nat.eq_of_beq_eq_true h2).symm, h.symm⟩
    | false => rw [h2] at h; simp at h
/-- Two old blocks as pieces. -/
theorem stp_start2 {w : World} {g g' : Nat} {t t' : TypeId} {cs cs' : Array Value} (k k' : Nat) (h : Blk w g t cs) (h' : Blk w g' t' cs') (hne : g ≠ g') : Stp (fun x => x = g ∨ x = g') w w (lookM [(k, some (ckB g t cs)), (k', some (ckB g' t' cs'))]) := by
  refine ⟨rfl, rfl, rfl, Nat.le_refl _, fun _ _ _ => rfl, fun n c hc => ?_, fun n c hc x hx => ?_, fun n n' c c' hc hc' hn x hx hx' => ?_⟩
  · rcases look2 hc with ⟨_, rfl⟩ | ⟨_, rfl⟩
    · exact h
    · exact h'
  · rcases look2 hc with ⟨_, rfl⟩ | ⟨_, rfl⟩
    · have e : x = g := hx
      subst e; exact ⟨h.lt, .inr (.inl rfl)⟩
    · have e : x = g' := hx
      subst e; exact ⟨h'.lt, .inr (.inr rfl)⟩
  · rcases look2 hc with ⟨e1, rfl⟩ | ⟨e1, rfl⟩ <;> rcases look2 hc' with ⟨e2, rfl⟩ | ⟨e2, rfl⟩
    · omega
    · have e : x = g := hx
      have e' : x = g' := hx'
      omega
    · have e : x = g' := hx
      have e' : x = g := hx'
      omega
    · omega
theorem stp_b2 {w : World} {g g' : Nat} {t t' : TypeId} {cs cs' : Array Value} (k k' : Nat) (h : Blk w g t cs) (h' : Blk w g' t' cs') (hne : g ≠ g') : Stp (fun x => x = g ∨ x = g') w w (lookM (den (fun x => x = g ∨ x = g') w [(k, some (.blk g t cs)), (k', some (.blk g' t' cs'))])) := stp_start2 k k' h h' hne
theorem stp_try {olds : Nat → Prop} {w wa w2 : World} {o : Obj} {L : List (Nat × Option Ck)} (h : Stp olds (w.alloc o) wa (lookM L)) (hg : wa.grownBy w2 (some w.heap.size)) (ho : ∀ g, olds g → g < w.heap.size) : Stp olds w w2 (lookM L) := by
  have hsz : (w.alloc o).heap.size = w.heap.size + 1 := by simp
  have hs := h.size
  have key : ∀ n c, lookM L n = some c → ∀ g, c.blks g → w2.heap[g]? = wa.heap[g]? := fun n c hc g hgb => by
    have hl := h.lt n c hc g hgb
    refine hg.block g hl.1 fun e => ?_
    injection e with e
    rcases hl.2 with h2 | h2
    · omega
    · have := ho g h2; omega
  refine ⟨hg.os.trans h.os, hg.tape.trans h.tape, hg.output.trans h.output, by have := hg.size; omega, fun g hlt hn => ?_, fun n c hc => c.st wa w2 (key n c hc) (h.ok n c hc), fun n c hc g hgb => ?_, h.apart⟩
  · rw [hg.block g (by omega) (fun e => by injection e with e; omega), h.kept g (by omega) hn, Below.heap_alloc w o g hlt]
  · have hl := h.lt n c hc g hgb
    exact ⟨by have := hg.size; omega, hl.2.imp (fun h2 => by omega) id⟩
section
variable {olds : Nat → Prop} {w0 : World}
theorem cu_built {B0 : Nat} {ps : List (Option Pc)} (k : Nat) (q : Pkt) (bs : List Int) (hB : B0 ≤ w0.heap.size) (ho : ∀ g, olds g → B0 ≤ g) (hb : ∀ w', Below B0 w0 w' → Calls Tryz.prog 29 #[.agg q.cells] w' (Built w' bs))
    (L : PL) (w : World) (_ : ps = ([] ++ [k]).map (lookP L)) (hS : Stp olds w0 w (restr ([] ++ [k]) (lookM (den olds w0 L)))) :
    Calls Tryz.prog 29 #[.agg q.cells] w fun e w' => ∃ x : Pay, e = .returned x.v ∧ Stp (blksOf (lookM (den olds w0 L)) [k]) w w' (lookM (den olds w0 (zipW [k] [some (.ck (ckW x.c x.g x.v bs))]))) := by
  refine (hb w (hS.old B0 hB ho)).mono ?_
  rintro e w' ⟨v, rfl, hok, hBl⟩
  refine ⟨⟨w'.heap.size, w.heap.size, v, none⟩, rfl, ?_⟩
  exact stp_make (c' := .ck (ckW w.heap.size w'.heap.size v bs)) hBl hok fun y hy => ⟨hy.2, hy.1⟩
theorem iv_mar {B E : Nat} {v : Value} {bs : List Int} (k j : Nat) {u : Option Pc} (L : PL) (w : World) (hps : [some (.ck (ckW B E v bs)), u] = ([] ++ [k, j]).map (lookP L)) (hS : Stp olds w0 w (restr ([] ++ [k, j]) (lookM (den olds w0 L)))) :
    Invk Tryz.prog w v "Marshal" #[] fun e w' => ∃ x : Pay, e = .returned (.tuple #[.slice x.a bs.length x.c, .nilIface]) ∧ Stp (blksOf (lookM (den olds w0 L)) [k, j]) w w' (lookM (den olds w0 (zipW [k, j] [none, some (.ck (ckA x.a bs))]))) := by
  have hl : lookP L k = some (.ck (ckW B E v bs)) := by simp only [List.nil_append, List.map_cons, List.map_nil, List.cons.injEq] at hps; exact hps.1.symm
  have hM : lookM (den olds w0 L) k = some (ckW B E v bs) := by rw [lookM_den, hl]; rfl
  have hr : restr ([] ++ [k, j]) (lookM (den olds w0 L)) k = some (ckW B E v bs) := by simp [restr, hasN, hM]
  have hk : (ckW B E v bs).ok w := hS.ok k _ hr
  have hlt : ∀ g, B ≤ g ∧ g < E → g < w.heap.size := fun g hg => (hS.lt k _ hr g hg).1
  refine (ckW.writes hk).1.mono ?_
  rintro e w' ⟨A, c, rfl, hrow, hB⟩
  refine ⟨⟨0, c, undef, A⟩, rfl, ?_⟩
  have h1 : Stp (blksOf (lookM (den olds w0 L)) [k, j]) w w' (lookM [(j, some (ckA A bs))]) := stp_one j (ckA A bs) (.inl (grownBy_of_below hB none)) (hrow.wide fun _ _ => trivial) fun g hg => by
    obtain ⟨hn, ad, he, hg⟩ := hg
    obtain ⟨ad2, he2, hD, hc⟩ := hrow hn
    rw [he] at he2
    injection he2 with he2
    subst he2 hg
    obtain ⟨u, hu⟩ : ∃ u, (u8s bs)[0]? = some u := ⟨(u8s bs)[0]'(by rw [u8s_len]; exact hn), by simp [u8s_len, hn]⟩
    have hcl := cell_lt (hc 0 u hu)
    rw [block_of_add] at hcl
    exact ⟨hcl, hD.symm.imp id fun h => ⟨k, List.mem_cons_self, _, hM, h⟩⟩
  refine h1.sub fun n c hc => ?_
  show lookM [(j, some (ckA A bs))] n = some c
  have hc' : lookM [(k, none), (j, some (ckA A bs))] n = some c := hc
  simp only [lookM] at hc' ⊢
  cases hq : Nat.beq k n with
  | true => rw [hq] at hc'; cases hc'
  | false => rw [hq] at hc'; exact hc'
theorem iv_size {B E : Nat} {v : Value} {bs : List Int} (k : Nat) (L : PL) (w : World) (hps : [some (.ck (ckW B E v bs))] = ([k] ++ []).map (lookP L)) (hS : Stp olds w0 w (restr ([k] ++ []) (lookM (den olds w0 L)))) :
    Invk Tryz.prog w v "MarshalSize" #[] fun e w' => ∃ x : Pay, e = .returned (.int .i64 (bs.length : Nat)) ∧ Stp (blksOf (lookM (den olds w0 L)) []) w w' (lookM (den olds w0 (zipW [] []))) := by
  have hl : lookP L k = some (.ck (ckW B E v bs)) := by simp only [List.append_nil, List.map_cons, List.map_nil, List.cons.injEq] at hps; exact hps.1.symm
  have hk : (ckW B E v bs).ok w := hS.ok k _ (by simp [restr, hasN, lookM_den, hl, Pc.den])
  exact (ckW.writes hk).2.mono fun e w' ⟨he, hB⟩ => ⟨pay0, he, stp_of_below hB⟩
end
section
variable {P : Program} {olds : Nat → Prop} {w0 : World} {n : Nat} {a : Act} {w : World} {Q : Exit → Act → World → Prop} {l0 : List (Nat × Value)} {L0 : PL}
/-- What a function hands back: a variable alone. -/
theorem retc1 {fn : Func} {R : Ending → World → Prop} {p : Tmp} {ty : TypeId} (hE : Env n l0 a) (hS : Stp olds w0 w (lookM (den olds w0 L0))) (h : fn.results = #[.cell p ty]) (k : Nat) (g : Nat) (T : TypeId) (cs : Array Value) (v1 : Value) (hR : R (.returned v1) w)
    (h1 : look l0 p = some (pt g 0) := by kernel_rfl) (h2 : lookP L0 k = some (.blk g T cs) := by kernel_rfl) (h3 : ldB P ty cs.toList 0 = true := by kernel_rfl) (h4 : ldV P ty cs.toList 0 = v1 := by kernel_rfl) : bodyPost P fn R .ret a w := by
  have hv := run_var (P := P) (hS.blk k (g := g) (t := T) (cs := cs) (by rw [lookM_den, h2]; rfl)) h3
  exact bodyPost_ret (v := v1) (by simp [results, h, hE.get p h1, asAddr, hv, h4]) hE.defers hR
end
set_option maxHeartbeats 2000000 in
set_option maxRecDepth 100000 in
theorem marClo (q : Pkt) (g0 g1 B0 : Nat) (bs : List Int) (w : World) (h0 : Blk w g0 53 q.cells) (h1 : Blk w g1 25 #[.slice none 0 0]) (h01 : g1 ≠ g0) (hB0 : B0 ≤ g0) (hB1 : B0 ≤ g1) (hb : ∀ w', Below B0 w w' → Calls Tryz.prog 29 #[.agg q.cells] w' (Built w' bs)) :
    Calls Tryz.prog 33 #[.pointer (some ⟨g0, 0, none⟩), .pointer (some ⟨g1, 0, none⟩)] w fun e w' => e = .returned (.bool true) ∧ ∃ A c, Stp (fun x => x = g1 ∨ x = g0) w w' (lookM (den (fun x => x = g1 ∨ x = g0) w [(102, some (.blk g1 25 #[.slice A bs.length c])), (101, some (.blk g0 53 q.cells)), (95, some (.ck (ckA A bs)))])) := by
  refine go_in Tryz.func33 rfl Tryz.ntmps33 [pt g0 0, pt g1 0] fun a hE => ?_
  have hS := stp_b2 102 101 h1 h0 h01
  refine rg hE hS [pu] (fun _ => kp [(2, .bool false)]) (fun _ => kP []) fun _ a u hE hS => ?_
  refine rgp hE hS [ld 101, cu 29 [] [96] (fun y => y.v) (fun y => [some (.ck (ckW y.c y.g y.v bs))]), iv "Marshal" [] [96, 95] (fun y => .tuple #[.slice y.a bs.length y.c, .nilIface]) (fun y => [none, some (.ck (ckA y.a bs))]), pu, pu, pu, pu, pu] (fun p2 => kp [(3, .slice (p2 2).a bs.length (p2 2).c), (4, .nilIface)]) (fun p2 => kP [(95, some (.ck (ckA (p2 2).a bs)))]) (fun p2 => ⟨kr (cu_built (olds := (fun x => x = g1 ∨ x = g0)) (w0 := w) (ps := [none]) 96 q bs (Nat.le_trans hB0 (Nat.le_of_lt h0.lt)) (fun g e => by rcases e with rfl | rfl <;> assumption) hb), kr (iv_mar (olds := (fun x => x = g1 ∨ x = g0)) (w0 := w) (B := (p2 1).c) (E := (p2 1).g) (v := (p2 1).v) (bs := bs) 96 95 (u := none)), trivial⟩) fun p2 a u hE hS => ?_
  refine rg hE hS [pu, st 102] (fun _ => kp []) (fun _ => kP [(102, some (.blk g1 25 #[.slice (p2 2).a bs.length (p2 2).c]))]) fun _ a u hE hS => ?_
  refine rg hE hS [pu, pu, pu] (fun _ => kp [(2, .bool true)]) (fun _ => kP []) fun _ a u hE hS => ?_
  refine wp_ret ?_
  exact ret1 hE Tryz.results33 (.bool true) ⟨rfl, (p2 2).a, (p2 2).c, end_mem (s := ⟨[], _⟩) (s' := ⟨[], [(102, some (.blk g1 25 #[.slice (p2 2).a bs.length (p2 2).c])), (101, some (.blk g0 53 q.cells)), (95, some (.ck (ckA (p2 2).a bs)))]⟩) (fst_snd (by kernel_rfl)) hS⟩
set_option maxHeartbeats 2000000 in
set_option maxRecDepth 100000 in
theorem sizeClo (q : Pkt) (g0 g1 B0 : Nat) (bs : List Int) (w : World) (h0 : Blk w g0 53 q.cells) (h1 : Blk w g1 3 #[.int .i64 0]) (h01 : g1 ≠ g0) (hB0 : B0 ≤ g0) (hB1 : B0 ≤ g1) (hb : ∀ w', Below B0 w w' → Calls Tryz.prog 29 #[.agg q.cells] w' (Built w' bs)) :
    Calls Tryz.prog 34 #[.pointer (some ⟨g0, 0, none⟩), .pointer (some ⟨g1, 0, none⟩)] w fun e w' => e = .returned (.bool true) ∧ Stp (fun x => x = g1 ∨ x = g0) w w' (lookM (den (fun x => x = g1 ∨ x = g0) w [(102, some (.blk g1 3 #[.int .i64 (bs.length : Nat)])), (101, some (.blk g0 53 q.cells))])) := by
  refine go_in Tryz.func34 rfl Tryz.ntmps34 [pt g0 0, pt g1 0] fun a hE => ?_
  have hS := stp_b2 102 101 h1 h0 h01
  refine rg hE hS [pu] (fun _ => kp [(2, .bool false)]) (fun _ => kP []) fun _ a u hE hS => ?_
  refine rgp hE hS [ld 101, cu 29 [] [96] (fun y => y.v) (fun y => [some (.ck (ckW y.c y.g y.v bs))]), iv "MarshalSize" [96] [] (fun y => .int .i64 (bs.length : Nat)) (fun y => []), st 102] (fun _ => kp []) (fun p2 => kP [(96, some (.ck (ckW (p2 1).c (p2 1).g (p2 1).v bs))), (102, some (.blk g1 3 #[.int .i64 (bs.length : Nat)]))]) (fun p2 => ⟨kr (cu_built (olds := (fun x => x = g1 ∨ x = g0)) (w0 := w) (ps := [none]) 96 q bs (Nat.le_trans hB0 (Nat.le_of_lt h0.lt)) (fun g e => by rcases e with rfl | rfl <;> assumption) hb), kr (iv_size (olds := (fun x => x = g1 ∨ x = g0)) (w0 := w) (B := (p2 1).c) (E := (p2 1).g) (v := (p2 1).v) (bs := bs) 96), trivial⟩) fun p2 a u hE hS => ?_
  refine rg hE hS [pu] (fun _ => kp [(2, .bool true)]) (fun _ => kP []) fun _ a u hE hS => ?_
  refine wp_ret ?_
  exact ret1 hE Tryz.results34 (.bool true) ⟨rfl, end_mem (s := ⟨[], _⟩) (s' := ⟨[], [(102, some (.blk g1 3 #[.int .i64 (bs.length : Nat)])), (101, some (.blk g0 53 q.cells))]⟩) (fst_snd (by kernel_rfl)) hS⟩
/-- The guarded closure, with the two variables that it captures as pieces. -/
theorem cu_tryM {w0 : World} (q : Pkt) (g0 g1 : Nat) (bs : List Int) (hb : ∀ w', Below w0.heap.size w0 w' → Calls Tryz.prog 29 #[.agg q.cells] w' (Built w' bs))
    (L : PL) (w : World) (hps : [some (.blk g1 25 #[.slice none 0 0]), some (.blk g0 53 q.cells), none] = ([] ++ [102, 101, 95]).map (lookP L)) (hS : Stp (fun _ => False) w0 w (restr ([] ++ [102, 101, 95]) (lookM (den (fun _ => False) w0 L)))) :
    Calls Tryz.prog 26 #[.func (.func 33) #[] #[.pointer (some ⟨g0, 0, none⟩), .pointer (some ⟨g1, 0, none⟩)]] w fun e w' => ∃ x : Pay, e = .returned (.bool true) ∧ Stp (blksOf (lookM (den (fun _ => False) w0 L)) [102, 101, 95]) w w' (lookM (den (fun _ => False) w0 (zipW [102, 101, 95] [some (.blk g1 25 #[.slice x.a bs.length x.c]), some (.blk g0 53 q.cells), some (.ck (ckA x.a bs))]))) := by
  simp only [List.nil_append, List.map_cons, List.map_nil, List.cons.injEq] at hps
  have hl1 : lookM (den (fun _ => False) w0 L) 102 = some (ckB g1 25 #[.slice none 0 0]) := by rw [lookM_den, ← hps.1]; rfl
  have hl0 : lookM (den (fun _ => False) w0 L) 101 = some (ckB g0 53 q.cells) := by rw [lookM_den, ← hps.2.1]; rfl
  have r1 : restr ([] ++ [102, 101, 95]) (lookM (den (fun _ => False) w0 L)) 102 = some (ckB g1 25 #[.slice none 0 0]) := hl1
  have r0 : restr ([] ++ [102, 101, 95]) (lookM (den (fun _ => False) w0 L)) 101 = some (ckB g0 53 q.cells) := hl0
  have hh := hS.blk 102 r1
  have hq := hS.blk 101 r0
  have hh0 := hS.ge 102 r1
  have hq0 := hS.ge 101 r0
  have hne : g1 ≠ g0 := fun e => hS.apart 102 101 _ _ r1 r0 (by decide) g1 rfl e
  have hBw := hS.below
  have hsz := hS.size
  refine (try_any 33 _ w (fun b w' => b = true ∧ ∃ A c, Stp (fun x => x = g1 ∨ x = g0) (w.alloc (.cells #[.bool false] 4)) w' (lookM [(102, some (ckB g1 25 #[.slice A bs.length c])), (101, some (ckB g0 53 q.cells)), (95, some (ckA A bs))])) (fun _ => by kernel_rfl) ?_).mono ?_
  · refine (marClo q g0 g1 w0.heap.size bs _ (hq.alloc _) (hh.alloc _) hne hq0 hh0 (fun w' hw' => hb w' ((hBw.alloc hsz _).trans hw'))).mono ?_
    rintro e wa ⟨rfl, A, c, hst⟩
    refine ⟨_, rfl, ⟨rfl, A, c, hst⟩, ?_⟩
    have hnb := blk_new w 4 #[.bool false] rfl
    exact (hst.kept _ hnb.lt (fun e => by have := hh.lt; have := hq.lt; rcases e with e | e <;> omega)).trans hnb
  rintro e w5 ⟨b, wa, rfl, ⟨rfl, A, c, hst⟩, hg3, hz3⟩
  replace hst := stp_try hst hg3 (fun g e => by have := hh.lt; have := hq.lt; rcases e with e | e <;> omega)
  refine ⟨⟨0, c, undef, A⟩, rfl, ?_⟩
  exact hst.mono (fun g e => e.elim (fun e => ⟨102, List.mem_cons_self, _, hl1, e⟩) (fun e => ⟨101, List.mem_cons_of_mem _ List.mem_cons_self, _, hl0, e⟩))
theorem cu_tryS {w0 : World} (q : Pkt) (g0 g1 : Nat) (bs : List Int) (hb : ∀ w', Below w0.heap.size w0 w' → Calls Tryz.prog 29 #[.agg q.cells] w' (Built w' bs))
    (L : PL) (w : World) (hps : [some (.blk g1 3 #[.int .i64 0]), some (.blk g0 53 q.cells)] = ([] ++ [102, 101]).map (lookP L)) (hS : Stp (fun _ => False) w0 w (restr ([] ++ [102, 101]) (lookM (den (fun _ => False) w0 L)))) :
    Calls Tryz.prog 26 #[.func (.func 34) #[] #[.pointer (some ⟨g0, 0, none⟩), .pointer (some ⟨g1, 0, none⟩)]] w fun e w' => ∃ x : Pay, e = .returned (.bool true) ∧ Stp (blksOf (lookM (den (fun _ => False) w0 L)) [102, 101]) w w' (lookM (den (fun _ => False) w0 (zipW [102, 101] [some (.blk g1 3 #[.int .i64 (bs.length : Nat)]), some (.blk g0 53 q.cells)]))) := by
  simp only [List.nil_append, List.map_cons, List.map_nil, List.cons.injEq] at hps
  have hl1 : lookM (den (fun _ => False) w0 L) 102 = some (ckB g1 3 #[.int .i64 0]) := by rw [lookM_den, ← hps.1]; rfl
  have hl0 : lookM (den (fun _ => False) w0 L) 101 = some (ckB g0 53 q.cells) := by rw [lookM_den, ← hps.2.1]; rfl
  have r1 : restr ([] ++ [102, 101]) (lookM (den (fun _ => False) w0 L)) 102 = some (ckB g1 3 #[.int .i64 0]) := hl1
  have r0 : restr ([] ++ [102, 101]) (lookM (den (fun _ => False) w0 L)) 101 = some (ckB g0 53 q.cells) := hl0
  have hh := hS.blk 102 r1
  have hq := hS.blk 101 r0
  have hh0 := hS.ge 102 r1
  have hq0 := hS.ge 101 r0
  have hne : g1 ≠ g0 := fun e => hS.apart 102 101 _ _ r1 r0 (by decide) g1 rfl e
  have hBw := hS.below
  have hsz := hS.size
  refine (try_any 34 _ w (fun b w' => b = true ∧ Stp (fun x => x = g1 ∨ x = g0) (w.alloc (.cells #[.bool false] 4)) w' (lookM [(102, some (ckB g1 3 #[.int .i64 (bs.length : Nat)])), (101, some (ckB g0 53 q.cells))])) (fun _ => by kernel_rfl) ?_).mono ?_
  · refine (sizeClo q g0 g1 w0.heap.size bs _ (hq.alloc _) (hh.alloc _) hne hq0 hh0 (fun w' hw' => hb w' ((hBw.alloc hsz _).trans hw'))).mono ?_
    rintro e wa ⟨rfl, hst⟩
    refine ⟨_, rfl, ⟨rfl, hst⟩, ?_⟩
    have hnb := blk_new w 4 #[.bool false] rfl
    exact (hst.kept _ hnb.lt (fun e => by have := hh.lt; have := hq.lt; rcases e with e | e <;> omega)).trans hnb
  rintro e w5 ⟨b, wa, rfl, ⟨rfl, hst⟩, hg3, hz3⟩
  replace hst := stp_try hst hg3 (fun g e => by have := hh.lt; have := hq.lt; rcases e with e | e <;> omega)
  refine ⟨pay0, rfl, ?_⟩
  exact hst.mono (fun g e => e.elim (fun e => ⟨102, List.mem_cons_self, _, hl1, e⟩) (fun e => ⟨101, List.mem_cons_of_mem _ List.mem_cons_self, _, hl0, e⟩))
set_option maxRecDepth 100000 in
theorem marshalOne_any (q : Pkt) (bs : List Int) (w : World) (hb : ∀ w', Below w.heap.size w w' → Calls Tryz.prog 29 #[.agg q.cells] w' (Built w' bs)) :
    Calls Tryz.prog 15 #[.agg q.cells] w fun e w' => ∃ A c, e = .returned (.tuple #[.slice A bs.length c, .bool true]) ∧ Reads w' w'.heap.size 1 A bs.length (u8s bs) ∧ Below w.heap.size w w' := by
  refine go_in Tryz.func15 rfl Tryz.ntmps15 [.agg q.cells] fun a hE => ?_
  have hS := stp_in w
  refine rg hE hS [nw 101, nw 102, pu] (fun p1 => kp [(1, pt (p1 0).g 0), (2, pt (p1 1).g 0), (3, .bool false)]) (fun p1 => kP [(101, some (.blk (p1 0).g 53 q.cells)), (102, some (.blk (p1 1).g 25 #[.slice none 0 0]))]) fun p1 a u hE hS => ?_
  refine rgp hE hS [pu, cu 26 [] [102, 101, 95] (fun _ => .bool true) (fun y => [some (.blk (p1 1).g 25 #[.slice (y).a bs.length (y).c]), some (.blk (p1 0).g 53 q.cells), some (.ck (ckA y.a bs))]), pu] (fun _ => kp [(3, .bool true)]) (fun p2 => kP [(102, some (.blk (p1 1).g 25 #[.slice (p2 1).a bs.length (p2 1).c])), (95, some (.ck (ckA (p2 1).a bs)))]) (fun _ => ⟨kr (cu_tryM (w0 := w) q (p1 0).g (p1 1).g bs hb), trivial⟩) fun p2 a u hE hS => ?_
  refine wp_seq ?_
  refine rg hE hS [pu, pu] (fun _ => kp [(7, .bool false)]) (fun _ => kP []) fun _ a u hE hS => ?_
  refine iff hE ?_
  refine wp_skip ?_
  refine rg hE hS [ld 102, st 102, pu] (fun _ => kp []) (fun _ => kP []) fun _ a u hE hS => ?_
  refine wp_ret ?_
  exact retct hE hS Tryz.results15 102 (p1 1).g 25 #[.slice (p2 1).a bs.length (p2 1).c] (.slice (p2 1).a bs.length (p2 1).c) (.bool true) ⟨(p2 1).a, (p2 1).c, rfl, RowIn.reads (D := fun _ => True) (hS.ok 95 (ckA (p2 1).a bs) (by kernel_rfl)), hS.below⟩
set_option maxRecDepth 100000 in
theorem size_any (q : Pkt) (bs : List Int) (w : World) (hb : ∀ w', Below w.heap.size w w' → Calls Tryz.prog 29 #[.agg q.cells] w' (Built w' bs)) :
    Calls Tryz.prog 16 #[.agg q.cells] w fun e w' => e = .returned (.int .i64 (bs.length : Nat)) ∧ Below w.heap.size w w' := by
  refine go_in Tryz.func16 rfl Tryz.ntmps16 [.agg q.cells] fun a hE => ?_
  have hS := stp_in w
  refine rg hE hS [nw 101, nw 102] (fun p1 => kp [(1, pt (p1 0).g 0), (2, pt (p1 1).g 0)]) (fun p1 => kP [(101, some (.blk (p1 0).g 53 q.cells)), (102, some (.blk (p1 1).g 3 #[.int .i64 0]))]) fun p1 a u hE hS => ?_
  refine wp_seq ?_
  refine rgp hE hS [pu, cu 26 [] [102, 101] (fun _ => .bool true) (fun y => [some (.blk (p1 1).g 3 #[.int .i64 (bs.length : Nat)]), some (.blk (p1 0).g 53 q.cells)]), pu] (fun _ => kp [(3, .func (.func 34) #[] #[pt (p1 0).g 0, pt (p1 1).g 0]), (5, .bool false)]) (fun _ => kP [(102, some (.blk (p1 1).g 3 #[.int .i64 (bs.length : Nat)]))]) (fun _ => ⟨kr (cu_tryS (w0 := w) q (p1 0).g (p1 1).g bs hb), trivial⟩) fun _ a u hE hS => ?_
  refine iff hE ?_
  refine wp_skip ?_
  refine rg hE hS [ld 102, st 102] (fun _ => kp []) (fun _ => kP []) fun _ a u hE hS => ?_
  refine wp_ret ?_
  exact retc1 hE hS Tryz.results16 102 (p1 1).g 3 #[.int .i64 (bs.length : Nat)] (.int .i64 (bs.length : Nat)) ⟨rfl, hS.below⟩
end Go.Proofs.YtmmfpgoodfgkbaaGreat
