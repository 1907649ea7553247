/-
  STEPS THAT READ BYTES which lay there: a byte loaded, a part of them taken, a text made of them; the contracts of what reads numbers. No condition.
-/
import Derived.Test.YtmmfpgoodfgkbaaGreatMStep
import Derived.Test.YtmmfpgoodfgkbaaGreatRead
import Derived.Test.YtmmfpgoodfgkbaaGreatMPkt
namespace Go.Proofs.YtmmfpgoodfgkbaaGreat
open Go Go.RowKit
set_option linter.unusedVariables false

section
variable {P : Program} {olds : Nat → Prop} {w0 : World}
theorem rdb_kept {M : Nat → Option Ck} {w : World} {D : Nat → Prop} {A : Option Addr} {l : List Int} (hS : Stp olds w0 w M) (h : RdB olds w0 D A l) : Reads w w.heap.size 1 A l.length (u8s l) :=
  ⟨by rw [u8s_len]; simp, fun hn => by
    obtain ⟨ad, e, h1, h2⟩ := h.1 hn
    have h3 := h.2 _ h1
    exact ⟨ad, e, Nat.lt_of_lt_of_le h3.1 hS.size, fun j u hu => (World.cell?_of_block (by rw [block_of_add]; exact hS.kept _ h3.1 h3.2)).trans (h2 j u hu)⟩⟩
theorem Reads.rowD {w : World} {B n : Nat} {A : Option Addr} {l : List Int} (h : Reads w B 1 A n (u8s l)) : RowD w (fun x => x < B) A l := fun hn => by
  have := h.1
  rw [u8s_len] at this
  obtain ⟨ad, e, h1, h2⟩ := h.2 (by omega)
  exact ⟨ad, e, h1, h2⟩
theorem RowD.reads {w : World} {B : Nat} {A : Option Addr} {l : List Int} (h : RowD w (fun x => x < B) A l) : Reads w B 1 A l.length (u8s l) := ⟨by rw [u8s_len]; simp, h⟩
theorem slice_run {o : Oper} {t : TypeId} {bl bh : Bool} (hop : slOps o.op = some (t, bl, bh)) {a : Act} {b off n c : Nat} {r : List Value} {w : World} (hv : o.op.operands.toList.map a.eval = .slice (some ⟨b, off, none⟩) n c :: r) (h1 : 0 < ixS P t)
    (h3 : ∀ x ∈ slIdx bl bh (.slice (some ⟨b, off, none⟩) n c :: r), x.1 = x.2) (hp1 : slL bl (.slice (some ⟨b, off, none⟩) n c :: r) ≤ slH n bl bh (.slice (some ⟨b, off, none⟩) n c :: r)) (hp2 : slH n bl bh (.slice (some ⟨b, off, none⟩) n c :: r) ≤ c) :
    (execOp a.eval o).run P w = .ok (.value (sliced (some ⟨b, off, none⟩) (slL bl (.slice (some ⟨b, off, none⟩) n c :: r)) (slH n bl bh (.slice (some ⟨b, off, none⟩) n c :: r)) c (ixS P t))) w := by
  obtain ⟨hu, he⟩ := elT_spec h1
  have hsz := szT_run (P := P) (e := elT P t) (by omega)
  have hel : P.underlying t = some (.slice (P.elem t)) := by
    have : P.elem t = elT P t := by simp [Program.elem, hu]
    rw [this]; exact hu
  have hsz' : (sizeOf (P.elem t)).run P w = .ok (ixS P t) w := by
    have : P.elem t = elT P t := by simp [Program.elem, hu]
    rw [this, he]; exact hsz w
  have key : ∀ (x : Operand) (lo hi : Option Operand) (v : Value), o.op = .slice t x lo hi none → a.eval x = .slice (some ⟨b, off, none⟩) n c →
      (Instr.slice t (.slice (some ⟨b, off, none⟩) n c) (lo.map a.eval) (hi.map a.eval) none).run P w = .ok v w → (execOp a.eval o).run P w = .ok (.value v) w := fun x lo hi v ho hx hr => by
    simp only [execOp, ho, hx, Sem.run_bind, run_sliceAt_slice _ _ _ _ _ _ hel, Option.map_none, hr, Result.andThen_ok, Sem.run_pure]
  unfold slOps at hop
  split at hop
  · rename_i t' x lo heq
    simp only [Option.some.injEq, Prod.mk.injEq] at hop
    obtain ⟨rfl, rfl, rfl⟩ := hop
    have hxv := hv
    simp [heq, Op.operands] at hxv
    obtain ⟨hx, hr⟩ := hxv
    subst hr
    have h4 := h3 _ (List.mem_singleton.2 rfl)
    injection h4 with h4
    refine key x (some lo) none _ heq hx ?_
    simp only [slL, slH] at hp1 hp2 ⊢
    rw [Option.map_some, Option.map_none, h4, run_slice_l _ _ _ _ _ hel _ _ (by omega) (by omega), hsz', Result.andThen_ok, Int.toNat_natCast]
    rfl
  · rename_i t' x hi heq
    simp only [Option.some.injEq, Prod.mk.injEq] at hop
    obtain ⟨rfl, rfl, rfl⟩ := hop
    have hxv := hv
    simp [heq, Op.operands] at hxv
    obtain ⟨hx, hr⟩ := hxv
    subst hr
    have h4 := h3 _ (List.mem_singleton.2 rfl)
    injection h4 with h4
    refine key x none (some hi) _ heq hx ?_
    simp only [slL, slH] at hp1 hp2 ⊢
    rw [Option.map_some, Option.map_none, h4, run_slice_h _ _ _ _ _ hel _ _ (by omega) (by omega), hsz', Result.andThen_ok, Int.toNat_natCast]
    rfl
  · rename_i t' x lo hi heq
    simp only [Option.some.injEq, Prod.mk.injEq] at hop
    obtain ⟨rfl, rfl, rfl⟩ := hop
    have hxv := hv
    simp [heq, Op.operands] at hxv
    obtain ⟨hx, hr⟩ := hxv
    subst hr
    have h4 := h3 _ (List.mem_cons_self ..)
    have h5 := h3 _ (List.mem_cons_of_mem _ (List.mem_singleton.2 rfl))
    injection h4 with h4
    injection h5 with h5
    refine key x (some lo) (some hi) _ heq hx ?_
    simp only [slL, slH] at hp1 hp2 ⊢
    rw [Option.map_some, Option.map_some, h4, h5, run_slice_lh _ _ _ _ _ hel _ _ _ _ (by omega) (by omega) (by omega), hsz', Result.andThen_ok, Int.toNat_natCast, Int.toNat_natCast]
    rfl
  · rename_i t' x heq
    simp only [Option.some.injEq, Prod.mk.injEq] at hop
    obtain ⟨rfl, rfl, rfl⟩ := hop
    have hxv := hv
    simp [heq, Op.operands] at hxv
    obtain ⟨hx, hr⟩ := hxv
    subst hr
    refine key x none none _ heq hx ?_
    simp only [slL, slH] at hp1 hp2 ⊢
    rw [Option.map_none, run_slice_all _ _ _ _ _ hel, hsz', Result.andThen_ok]
  · cases hop
def rsP : Bool → Bool → Nat → Nat → List Int → List Int
  | true, true, lo, h, l => (l.take h).drop lo
  | true, false, lo, _, l => l.drop lo
  | false, true, _, h, l => l.take h
  | false, false, _, _, l => l
theorem rsP_len {bl bh : Bool} {lo h : Nat} {l : List Int} (hl : bl = false → lo = 0) (hh : bh = false → h = l.length) (h2 : h ≤ l.length) : (rsP bl bh lo h l).length = h - lo := by
  cases bl <;> cases bh <;> simp_all [rsP]
theorem rsP_at {bl bh : Bool} {lo h : Nat} {l : List Int} (hl : bl = false → lo = 0) {j : Nat} {u : Value} (hu : (u8s (rsP bl bh lo h l))[j]? = some u) : (u8s l)[lo + j]? = some u := by
  have key : ∀ (m : List Int), (u8s m)[j]? = some u → ∃ x, m[j]? = some x ∧ u = .int .u8 x := fun m h => by
    simp only [u8s, List.getElem?_map, Option.map_eq_some_iff] at h
    obtain ⟨x, h1, h2⟩ := h
    exact ⟨x, h1, h2.symm⟩
  obtain ⟨x, h1, rfl⟩ := key _ hu
  have : l[lo + j]? = some x := by
    cases bl <;> cases bh <;> simp only [rsP, List.getElem?_drop, List.getElem?_take] at h1
    · rw [hl rfl, Nat.zero_add]; exact h1
    · rw [hl rfl, Nat.zero_add]; split at h1 <;> first | exact h1 | cases h1
    · exact h1
    · split at h1 <;> first | exact h1 | cases h1
  simp [u8s, this]
theorem Byts.rsP {bl bh : Bool} {lo h : Nat} {l : List Int} (hz : Byts l) : Byts (rsP bl bh lo h l) := by
  cases bl <;> cases bh
  · exact hz
  · exact hz.take _
  · exact hz.drop _
  · exact (hz.take _).drop _
theorem slL_f {l : List Value} : slL false l = 0 := by cases l <;> rfl
def rsL (ps : List (Option Pc)) (bl bh : Bool) (lo h : Nat) : List Int := match ps with
  | some (.ry D A l) :: _ => rsP bl bh lo h l
  | _ => []
def rsl (j j' : Nat) : Step P olds w0 where
  rd := [j]
  wr := [j']
  skip := false
  must := true
  V i p := match slOps i.o.op, i.vals with
    | some (t, bl, bh), .slice (some a) n c :: r => .slice (some ⟨p.g, p.c, none⟩) (rsL i.ps bl bh (slL bl i.vals) (slH n bl bh i.vals)).length (c - slL bl i.vals)
    | _, _ => undef
  W i p := match slOps i.o.op, i.vals, i.ps with
    | some (t, bl, bh), .slice (some a) n c :: r, some (.ry D A l) :: _ => [some (.ry D (some ⟨p.g, p.c, none⟩) (rsP bl bh (slL bl i.vals) (slH n bl bh i.vals) l))]
    | _, _, _ => []
  chk i := match slOps i.o.op, i.vals, i.ps with
    | some (t, bl, bh), .slice (some a) n c :: r, some (.ry D A l) :: _ => (.v (.slice (some a) n c), .v (.slice A l.length c)) :: (.n (ixS P t), .n 1) :: (.o a.spot, .o none) :: (bif bh then slIdx bl bh i.vals else (.n (slH n bl bh i.vals), .n n) :: slIdx bl bh i.vals)
    | _, _, _ => no
  pre i := match slOps i.o.op, i.vals with
    | some (t, bl, bh), .slice (some a) n c :: r => slL bl i.vals ≤ slH n bl bh i.vals ∧ slH n bl bh i.vals ≤ n ∧ n ≤ c
    | _, _ => True
  ok _ i L a w K Q hc hp hs hv hL hS hK := by
    obtain ⟨o, sem, vals, ps⟩ := i
    revert hc hK hs hv hL hp
    simp only
    split
    · rename_i t bl bh ad n c r D A l q hop
      intro hc hp hs hv hL hK
      have h1 := hc _ (List.mem_cons_self ..)
      have h2 := hc _ (List.mem_cons_of_mem _ (List.mem_cons_self ..))
      have h3 := hc _ (List.mem_cons_of_mem _ (List.mem_cons_of_mem _ (List.mem_cons_self ..)))
      have h4 := fun x hx => hc x (List.mem_cons_of_mem _ (List.mem_cons_of_mem _ (List.mem_cons_of_mem _ hx)))
      injection h1 with h1
      injection h2 with h2
      injection h3 with h3
      injection h1 with hA hn
      subst hA
      have h5 : ∀ x ∈ slIdx bl bh (.slice (some ad) n c :: r), x.1 = x.2 := fun x hx => h4 x (by cases bh; exact List.mem_cons_of_mem _ hx; exact hx)
      have h6 : bh = false → slH n bl bh (.slice (some ad) n c :: r) = n := fun e => by
        subst e
        have := h4 _ (List.mem_cons_self ..)
        injection this
      obtain ⟨b, off, spot⟩ := ad
      have h3 : spot = none := h3
      subst h3
      have hp0 := hp trivial
      simp only [hop] at hp0 hK
      clear hp
      obtain ⟨hp1, hp2, hp3⟩ := hp0
      have hrun := slice_run (P := P) (w := w) hop hv (by omega) h5 hp1 (by omega)
      rw [h2] at hrun
      have hlo : bl = false → slL bl (.slice (some ⟨b, off, none⟩) n c :: r) = 0 := fun e => by rw [e]; exact slL_f
      generalize hL1 : slL bl (.slice (some ⟨b, off, none⟩) n c :: r) = lo at *
      generalize hH1 : slH n bl bh (.slice (some ⟨b, off, none⟩) n c :: r) = h at *
      have hl0 : lookP L j = some (.ry D (some ⟨b, off, none⟩) l) := by
        simp only [List.cons_append, List.nil_append, List.map_cons, List.map_nil, List.cons.injEq] at hL
        exact hL.1.symm
      have hpc : RdB olds w0 D (some ⟨b, off, none⟩) l ∧ Byts l := hS.pure_ j (by simp [restr, hasN, lookM_den, hl0, Pc.den])
      obtain ⟨⟨hr, hB⟩, hz⟩ := hpc
      have hlen := rsP_len (l := l) hlo (fun e => (h6 e).trans hn) (by omega)
      have hst : ∀ g' o', (h - lo > 0 → g' = b ∧ o' = off + lo) → Stp (blksOf (lookM (den olds w0 L)) [j']) w w (lookM (den olds w0 (zipW [j'] [some (.ry D (some ⟨g', o', none⟩) (rsP bl bh lo h l))]))) := fun g' o' he => by
        refine stp_one j' (ckP (RdB olds w0 D (some ⟨g', o', none⟩) (rsP bl bh lo h l) ∧ Byts (rsP bl bh lo h l))) (.inl (World.grownBy.refl w _)) ⟨⟨fun hpos => ?_, hB⟩, hz.rsP⟩ fun g hg => hg.elim
        rw [hlen] at hpos
        obtain ⟨rfl, rfl⟩ := he hpos
        obtain ⟨ad', e, hb', hc'⟩ := hr (by omega)
        obtain rfl := Option.some.inj e
        refine ⟨_, rfl, hb', fun k u hu => ?_⟩
        have := hc' (lo + k) u (rsP_at hlo hu)
        rw [Addr.add_lit] at this ⊢
        rwa [show off + (lo + k) = off + lo + k by omega] at this
      unfold sliced at hrun
      split at hrun
      · refine exec_wp hrun ?_
        have := hK ⟨b, off, undef, none⟩ w (hst _ _ (fun h => by omega))
        simp only [rsL, hlen] at this
        exact this
      · refine exec_wp hrun ?_
        have := hK ⟨b, off + lo, undef, none⟩ w (hst _ _ (fun h => ⟨rfl, rfl⟩))
        simp only [rsL, hlen] at this
        rw [Option.map_some, Addr.add_lit, Nat.mul_one]
        exact this
    · intro hc; exact no_false hc
def rb (j k : Nat) : Step P olds w0 where
  rd := [j]
  wr := []
  skip := false
  must := true
  V i _ := match i.ps with
    | [some (.ry _ _ l)] => .int .u8 (gi l k)
    | _ => undef
  W _ _ := []
  chk i := match i.o.op, i.vals, i.ps with
    | .load t _, [x], [some (.ry D A l)] => [(.v x, .v (elA A (k * 1))), (.b (!rowT P t && (P.underlying t).isSome), .b true)]
    | _, _, _ => no
  pre i := match i.ps with
    | [some (.ry _ _ l)] => k < l.length
    | _ => True
  ok _ i L a w K Q hc hp hs hv hL hS hK := by
    obtain ⟨o, sem, vals, ps⟩ := i
    revert hc hK hs hv hL hp
    simp only
    split
    · rename_i t y x D A l ho
      intro hc hp hs hv hL hK
      have h1 := hc _ (List.mem_cons_self ..)
      have h2 := hc _ (List.mem_cons_of_mem _ (List.mem_singleton.2 rfl))
      injection h1 with h1
      injection h2 with h2
      have hx : a.eval y = x := by simpa [ho, Op.operands] using hv
      have hp := hp trivial
      have hpc : RdB olds w0 D A l ∧ Byts l := hS.pure_ j (one_pc (olds := olds) (w0 := w0) hL).2
      have hr := rdb_kept hS hpc.1
      obtain ⟨b, off, rfl, _⟩ := Reads.addr hr (by omega) (by omega)
      simp only [Bool.and_eq_true, Bool.not_eq_true'] at h2
      have hcell := hr.byte (k := k) hp
      have := ld_run (P := P) (t := t) (b := b) (o := off + k) (cs := [.int .u8 (gi l k)]) (j := 0) (w := w) (by unfold ldB; rw [h2.1]; simp [h2.2]) fun i v hi => by
        cases i with
        | zero =>
          simp at hi
          rw [← hi, ← hcell, Addr.add_lit]
          rfl
        | succ i => simp at hi
      have h1 : x = .pointer (some ⟨b, off + k * 1, none⟩) := h1
      rw [Nat.mul_one] at h1
      rw [← h1] at this
      refine exec_wp (w' := w) ?_ (hK pay0 w (stp_none w))
      simp only [execOp, ho, hx, Sem.run_bind, this, Result.andThen_ok, Sem.run_pure, ldV, h2.1, cond_false]
      rfl
    · intro hc; exact no_false hc
def ctRd (f : FuncId) (k : IntKind) (need : Nat) (val : List Int → Int) (h : ∀ {w : World} {B n c : Nat} {ad : Addr} {zs : List Int}, Reads w B 1 (some ad) n (u8s zs) → Byts zs → need ≤ n → n ≤ c → 0 < n → Calls P f #[.slice (some ad) n c] w fun e w' => e = .returned (.int k (val zs)) ∧ ∃ m, w' = w.drewN m) : Ct P where
  f := f
  must := true
  nr := 1
  nw := 0
  V _ ps _ := match ps with
    | [some (.ry _ _ l)] => .int k (val l)
    | _ => undef
  W _ _ _ := []
  chk args ps := match args.toList, ps with
    | [.slice A n c], [some (.ry D A' l)] => [(.v (.slice A n c), .v (.slice A' l.length c))]
    | _, _ => no
  pre _ args ps := match args.toList, ps with
    | [.slice A n c], [some (.ry D A' l)] => need ≤ l.length ∧ l.length ≤ c ∧ 0 < l.length
    | _, _ => True
  ok olds w0 rd wr args ps L w hrd hwr hc hp hL hS := by
    obtain ⟨j, rfl⟩ := len1 hrd
    obtain rfl := len0 hwr
    revert hc hp hL
    simp only
    split
    · rename_i A n c D A' l heq
      intro hc hp hL
      have h1 := hc _ (List.mem_singleton.2 rfl)
      injection h1 with h1
      injection h1 with h1 h2
      subst h1 h2
      obtain ⟨hp1, hp2, hp3⟩ := hp trivial
      have hpc : RdB olds w0 D A l ∧ Byts l := hS.pure_ j (one_pc (olds := olds) (w0 := w0) hL).2
      have hr := rdb_kept hS hpc.1
      obtain ⟨b, off, rfl, _⟩ := Reads.addr hr hp3 (by omega)
      have ha : args = #[.slice (some ⟨b, off, none⟩) l.length c] := by
        apply Array.ext'
        rw [heq]
      rw [ha]
      refine (h hr hpc.2 hp1 hp2 hp3).mono ?_
      rintro e w' ⟨rfl, m, rfl⟩
      exact ⟨pay0, rfl, (stp_none w).drewN m⟩
    · intro hc; exact no_false hc
end
def rt {olds : Nat → Prop} {w0 : World} (j : Nat) : Step Tryz.prog olds w0 where
  rd := [j]
  wr := []
  skip := false
  must := false
  V i _ := match i.ps with
    | [some (.ry _ _ l)] => .string (strB l)
    | _ => undef
  W _ _ := []
  chk i := match i.o.op, i.vals, i.ps with
    | .convert t t' _, [.slice A n c], [some (.ry D A' l)] => [(.n t, .n 25), (.n t', .n 9), (.v (.slice A n c), .v (.slice A' l.length c))]
    | _, _, _ => no
  pre _ := True
  ok _ i L a w K Q hc hp hs hv hL hS hK := by
    obtain ⟨o, sem, vals, ps⟩ := i
    revert hc hK hs hv hL
    simp only
    split
    · rename_i t t' y A n c D A' l ho
      intro hc hs hv hL hK
      have h1 := hc _ (List.mem_cons_self ..)
      have h2 := hc _ (List.mem_cons_of_mem _ (List.mem_cons_self ..))
      have h3 := hc _ (List.mem_cons_of_mem _ (List.mem_cons_of_mem _ (List.mem_singleton.2 rfl)))
      injection h1 with h1
      injection h2 with h2
      injection h3 with h3
      injection h3 with h3 h4
      subst h1 h2 h3 h4
      have hx : a.eval y = .slice A l.length c := by simpa [ho, Op.operands] using hv
      have hpc : RdB olds w0 D A l ∧ Byts l := hS.pure_ j (one_pc (olds := olds) (w0 := w0) hL).2
      have hrun := conv_str (c := c) (rdb_kept hS hpc.1)
      refine exec_wp (w' := w) ?_ (hK pay0 w (stp_none w))
      simp only [execOp, ho, hx, Sem.run_bind, hrun, Result.andThen_ok, Sem.run_pure]
    · intro hc; exact no_false hc
theorem stp_ry {olds : Nat → Prop} {w0 w : World} {L : PL} (h : Stp olds w0 w (lookM (den olds w0 L))) (k : Nat) {A : Option Addr} {l : List Int} {B n : Nat} (hr : Reads w0 B 1 A n (u8s l)) (hB : ∀ g, g < B → g < w0.heap.size ∧ ¬ olds g) (hz : Byts l) : Stp olds w0 w (lookM (den olds w0 ((k, some (.ry (fun x => x < B) A l)) :: L))) := by
  have hn : n = l.length := by have := hr.1; rw [u8s_len] at this; omega
  subst hn
  exact h.then_ (NL := [(k, some (ckP (RdB olds w0 (fun x => x < B) A l ∧ Byts l)))]) (stp_one k _ (.inl (World.grownBy.refl w _)) ⟨⟨hr.rowD, hB⟩, hz⟩ fun g hg => hg.elim)
theorem stp_ry1 {olds : Nat → Prop} {w0 w : World} {L : PL} (h : Stp olds w0 w (lookM (den olds w0 L))) (k : Nat) {D : Nat → Prop} {A : Option Addr} {l : List Int} (hr : RowD w0 D A l) (hB : ∀ g, D g → g < w0.heap.size ∧ ¬ olds g) (hz : Byts l) : Stp olds w0 w (lookM (den olds w0 ((k, some (.ry D A l)) :: L))) :=
  h.then_ (NL := [(k, some (ckP (RdB olds w0 D A l ∧ Byts l)))]) (stp_one k _ (.inl (World.grownBy.refl w _)) ⟨⟨hr, hB⟩, hz⟩ fun g hg => hg.elim)
end Go.Proofs.YtmmfpgoodfgkbaaGreat
