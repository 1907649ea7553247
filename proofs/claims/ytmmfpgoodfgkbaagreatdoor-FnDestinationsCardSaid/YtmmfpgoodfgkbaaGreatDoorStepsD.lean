/-
  STEPS FOR LISTS OF A GIVEN LENGTH: a slice made of noughts, a store at an index that is counted. No condition.
-/
import Derived.Test.YtmmfpgoodfgkbaaGreatDoorMRead
import Derived.Test.YtmmfpgoodfgkbaaGreatDoorMPkt
namespace Go.Proofs.YtmmfpgoodfgkbaaGreatDoor
open Go Go.RowKit
set_option linter.unusedVariables false

section
variable {olds : Nat → Prop} {w0 : World}
def mks (kd : IntKind) (k : Nat) {t e : TypeId} {z : Value} {sz by_ : Nat} (hE : Elem Tryz.prog t e z sz by_) (m : Nat) (cs : Array Value) : Step Tryz.prog olds w0 where
 rd := []
 wr := [k]
 skip := false
 must := true
 V i x := .slice (some ⟨x.g, 0, none⟩) m m
 W i x := [some (.blk x.g e cs)]
 chk i := match i.o.op, i.vals with
  | .makeSlice t' _ _, [n, m'] => [(.n t', .n t), (.v n, .v (.int kd (m : Nat))), (.v m', .v (.int kd (m : Nat)))]
  | _, _ => no
 pre i := m * by_ ≤ 140737488355328 ∧ m ≤ 140737488355328 ∧ madeCells z.cells (m * sz) = cs
 ok _ i L a w K Q hc hp hs hv hL hS hK := by
  obtain ⟨o, sem, vals, ps⟩ := i
  have hp0 := hp rfl
  clear hp
  revert hc hK hs hv hL
  simp only
  split
  ·rename_i t' x y n m' ho
   intro hc hs hv hL hK
   have h1 := hc _ (List.mem_cons_self ..)
   have h2 := hc _ (List.mem_cons_of_mem _ (List.mem_cons_self ..))
   have h3 := hc _ (List.mem_cons_of_mem _ (List.mem_cons_of_mem _ (List.mem_singleton.2 rfl)))
   injection h1 with h1
   injection h2 with h2
   injection h3 with h3
   subst h1 h2 h3
   have hxv : a.eval x = .int kd (m : Nat) ∧ a.eval y = .int kd (m : Nat) := by simpa [ho, Op.operands] using hv
   obtain ⟨hp1, hp2, hp3⟩ := hp0
   obtain ⟨i, hi, hz, hsz, hby⟩ := info_parts hE.info
   have hr := run_make (P := Tryz.prog) w t' e i z hE.und hi hz kd kd (m : Nat) (m : Nat) (by omega) (Int.le_refl _) (by rw [hby, Int.mul_comm]; have : ((m * by_ : Nat) : Int) = (m : Int) * (by_ : Int) := Int.natCast_mul m by_; omega) (by omega)
   rw [hsz, Int.toNat_natCast, hp3] at hr
   refine exec_wp (w' := w.alloc (.cells cs e)) ?_ (hK ⟨w.heap.size, 0, undef, none⟩ _ (stp_alloc k w e _))
   simp only [execOp, ho, hxv.1, hxv.2, Sem.run_bind, hr]
   rfl
  ·intro hc; exact no_false hc
def stS : Value → Nat
 | .agg new => new.size
 | _ => 1
def stC (P : Program) (t : TypeId) : Value → List (U × U)
 | .agg new => [(.b (Nat.blt 0 new.size && Nat.beq (szT P t) new.size && new.toList.all (·.oneCell')), .b true)]
 | v => [(.b (v.oneCell' && Nat.beq (szT P t) 1), .b true)]
theorem stC_B {P : Program} {t : TypeId} {cs : Array Value} {j : Nat} {v : Value} (h : ∀ c ∈ stC P t v, c.1 = c.2) (hj : j + stS v ≤ cs.size) : ∀ c ∈ stB P t cs j v, c.1 = c.2 := by
 unfold stC at h
 unfold stB
 split at h
 ·rename_i new
  have h1 := h _ (List.mem_singleton.2 rfl)
  injection h1 with h1
  simp only [Bool.and_eq_true] at h1
  intro c hc
  simp only [List.mem_singleton] at hc
  subst hc
  simp only [U.b.injEq, Bool.and_eq_true]
  exact ⟨⟨⟨h1.1.1, by rw [Nat.ble_eq]; exact hj⟩, h1.1.2⟩, h1.2⟩
 ·rename_i hne
  have h1 := h _ (List.mem_singleton.2 rfl)
  injection h1 with h1
  simp only [Bool.and_eq_true] at h1
  have hs : stS v = 1 := by
   unfold stS
   cases v <;> first | rfl | exact absurd rfl (hne _)
  intro c hc
  have hc' : c = (.b (Nat.blt j cs.size && v.oneCell' && Nat.beq (szT P t) 1), .b true) := by
   cases v <;> first | exact List.mem_singleton.1 hc | exact absurd rfl (hne _)
  subst hc'
  simp only [U.b.injEq, Bool.and_eq_true]
  exact ⟨⟨by rw [Nat.blt_eq]; omega, h1.1⟩, h1.2⟩
def sx {P : Program} (k : Nat) (cs' : Array Value) : Step P olds w0 where
 rd := []
 wr := [k]
 skip := false
 must := true
 V _ _ := undef
 W i _ := match i.ps with
  | [some (.blk g T cs)] => [some (.blk g T cs')]
  | _ => []
 chk i := match i.o.op, i.vals, i.ps with
  | .store t _ _, [x, v], [some (.blk g T cs)] => (.v x, .v (.pointer (some ⟨g, offOf x, none⟩))) :: stC P t v
  | _, _, _ => no
 pre i := match i.vals, i.ps with
  | [x, v], [some (.blk g T cs)] => offOf x + stS v ≤ cs.size ∧ stW cs (offOf x) v = cs'
  | _, _ => True
 ok _ i L a w K Q hc hp hs hv hL hS hK := by
  obtain ⟨o, sem, vals, ps⟩ := i
  revert hc hK hs hv hL hp
  simp only
  split
  ·rename_i t y z x v g T cs ho
   intro hc hp hs hv hL hK
   have h1 := hc _ (List.mem_cons_self ..)
   injection h1 with h1
   have hxv : a.eval y = x ∧ a.eval z = v := by simpa [ho, Op.operands] using hv
   obtain ⟨hl, hr⟩ := one_pc (olds := olds) (w0 := w0) hL
   have hb := hS.blk k hr
   obtain ⟨hp1, hp2⟩ := hp trivial
   obtain ⟨w', hrun, hb', hg, hsz⟩ := st_run (P := P) hb (stC_B (fun c h => hc c (List.mem_cons_of_mem _ h)) hp1)
   rw [hp2] at hb'
   rw [← h1] at hrun
   refine exec_wp_skip (w' := w') (by simp only [execOp, ho, hxv.1, hxv.2, Sem.run_bind, hrun, Result.andThen_ok, Sem.run_pure]) (hK pay0 w' ?_)
   have hM : lookM (den olds w0 L) k = some (ckB g T cs) := by rw [lookM_den, hl]; rfl
   exact stp_one k _ (.inr ⟨g, ⟨k, List.mem_singleton.2 rfl, _, hM, rfl⟩, hg⟩) hb' fun x hx => by
    have : x = g := hx
    subst this
    exact ⟨hb'.lt, .inr ⟨k, List.mem_singleton.2 rfl, _, hM, rfl⟩⟩
  ·intro hc; exact no_false hc
def ir {P : Program} (k : Nat) : Step P olds w0 where
 rd := [k]
 wr := []
 skip := false
 must := true
 V i _ := match i.o.op, i.vals with
  | .indexAddr t _ _, [.slice A n c, j] => elA A (ixK j * ixS P t)
  | _, _ => undef
 W _ _ := []
 chk i := match i.o.op, i.vals, i.ps with
  | .indexAddr t _ _, [.slice A n c, j], [some (.row base e size v m xs)] => [(.v j, .v (.int .i64 (ixK j : Nat))), (.b (Nat.blt 0 (ixS P t)), .b true), (.v (.slice A n c), .v v), (.n n, .n m)]
  | _, _, _ => no
 pre i := match i.vals with
  | [.slice A n c, j] => ixK j < n
  | _ => True
 ok _ i L a w K Q hc hp hs hv hL hS hK := by
  obtain ⟨o, sem, vals, ps⟩ := i
  revert hc hK hs hv hL hp
  simp only
  split
  ·rename_i t y z A n c j base e size v m xs ho
   intro hc hp hs hv hL hK
   have h1 := hc _ (List.mem_cons_self ..)
   have h2 := hc _ (List.mem_cons_of_mem _ (List.mem_cons_self ..))
   have h3 := hc _ (List.mem_cons_of_mem _ (List.mem_cons_of_mem _ (List.mem_cons_self ..)))
   have h4 := hc _ (List.mem_cons_of_mem _ (List.mem_cons_of_mem _ (List.mem_cons_of_mem _ (List.mem_singleton.2 rfl))))
   injection h1 with h1
   injection h2 with h2
   injection h3 with h3
   injection h4 with h4
   subst h3 h4
   simp only [Nat.blt_eq] at h2
   have hxv : a.eval y = .slice A n c ∧ a.eval z = j := by simpa [ho, Op.operands] using hv
   obtain ⟨hu, he⟩ := elT_spec h2
   have hsz := szT_run (P := P) (e := elT P t) (by omega)
   have hp := hp trivial
   have hr := hS.row k (one_pc (olds := olds) (w0 := w0) hL).2
   obtain ⟨g, cap, hvv, _, _⟩ := hr.form (by omega)
   injection hvv with hA _ _
   subst hA
   have := run_index1 (P := P) (w := w) hu hsz g 0 n c (ixK j) hp
   rw [← h1] at this
   refine exec_wp (w' := w) ?_ (hK pay0 w (stp_none w))
   simp only [execOp, ho, hxv.1, hxv.2, Sem.run_bind, this, Result.andThen_ok, Sem.run_pure, he, elA]
  ·intro hc; exact no_false hc
def lr {P : Program} (k j : Nat) (u : Value) : Step P olds w0 where
 rd := [k]
 wr := []
 skip := false
 must := true
 V _ _ := u
 W _ _ := []
 chk i := match i.o.op, i.vals, i.ps with
  | .load t _, [x], [some (.row base e size (.slice A n c) m xs)] => [(.v x, .v (elA A (j * 1))), (.b (!rowT P t && (P.underlying t).isSome), .b true)]
  | _, _, _ => no
 pre i := match i.ps with
  | [some (.row base e size v m xs)] => xs[j]? = some u ∧ 0 < m
  | _ => True
 ok _ i L a w K Q hc hp hs hv hL hS hK := by
  obtain ⟨o, sem, vals, ps⟩ := i
  revert hc hK hs hv hL hp
  simp only
  split
  ·rename_i t y x base e size A n c m xs ho
   intro hc hp hs hv hL hK
   have h1 := hc _ (List.mem_cons_self ..)
   have h2 := hc _ (List.mem_cons_of_mem _ (List.mem_singleton.2 rfl))
   injection h1 with h1
   injection h2 with h2
   have hx : a.eval y = x := by simpa [ho, Op.operands] using hv
   obtain ⟨hp0, hm⟩ := hp trivial
   have hr := hS.row k (one_pc (olds := olds) (w0 := w0) hL).2
   obtain ⟨g, cap, hvv, _, _⟩ := hr.form hm
   injection hvv with hA _ _
   subst hA
   simp only [Bool.and_eq_true, Bool.not_eq_true'] at h2
   have hcell := hr.cells (g := g) rfl j u hp0
   have := ld_run (P := P) (t := t) (b := g) (o := j) (cs := [u]) (j := 0) (w := w) (by unfold ldB; rw [h2.1]; simp [h2.2]) fun i v hi => by
    cases i with
    | zero =>
     simp at hi
     rw [← hi, ← hcell, Addr.add_lit]
     simp
    | succ i => simp at hi
   have h1 : x = .pointer (some ⟨g, 0 + j * 1, none⟩) := h1
   rw [Nat.mul_one, Nat.zero_add] at h1
   rw [← h1] at this
   refine exec_wp (w' := w) ?_ (hK pay0 w (stp_none w))
   simp only [execOp, ho, hx, Sem.run_bind, this, Result.andThen_ok, Sem.run_pure, ldV, h2.1, cond_false]
   rfl
  ·intro hc; exact no_false hc
def rsk {P : Program} (kd : IntKind) (j j' l : Nat) : Step P olds w0 where
 rd := [j]
 wr := [j']
 skip := false
 must := true
 V i p := match i.vals, i.ps with
  | [.slice A n c, _], [some (.ry D A' z), _] => .slice (some ⟨p.g, p.c, none⟩) (z.drop l).length (c - l)
  | _, _ => undef
 W i p := match i.ps with
  | [some (.ry D A' z), _] => [some (.ry D (some ⟨p.g, p.c, none⟩) (z.drop l))]
  | _ => []
 chk i := match i.o.op, i.vals, i.ps with
  | .slice t _ (some _) none none, [.slice (some a) n c, x], [some (.ry D A' z), _] => [(.v (.slice (some a) n c), .v (.slice A' z.length c)), (.n (ixS P t), .n 1), (.o a.spot, .o none), (.v x, .v (.int kd (l : Nat)))]
  | _, _, _ => no
 pre i := match i.vals, i.ps with
  | [.slice A n c, _], [some (.ry D A' z), _] => l ≤ z.length ∧ z.length ≤ c
  | _, _ => True
 ok _ i L a w K Q hc hp hs hv hL hS hK := by
  obtain ⟨o, sem, vals, ps⟩ := i
  revert hc hK hs hv hL hp
  simp only
  split
  ·rename_i t y z ad n c x D A' l' q ho
   intro hc hp hs hv hL hK
   have h1 := hc _ (List.mem_cons_self ..)
   have h2 := hc _ (List.mem_cons_of_mem _ (List.mem_cons_self ..))
   have h3 := hc _ (List.mem_cons_of_mem _ (List.mem_cons_of_mem _ (List.mem_cons_self ..)))
   have h4 := hc _ (List.mem_cons_of_mem _ (List.mem_cons_of_mem _ (List.mem_cons_of_mem _ (List.mem_singleton.2 rfl))))
   injection h1 with h1
   injection h2 with h2
   injection h3 with h3
   injection h4 with h4
   injection h1 with hA hn
   subst hA hn h4
   obtain ⟨b, off, spot⟩ := ad
   have h3 : spot = none := h3
   subst h3
   obtain ⟨hp1, hp2⟩ := hp trivial
   have hxv : a.eval y = .slice (some ⟨b, off, none⟩) l'.length c ∧ a.eval z = .int kd (l : Nat) := by simpa [ho, Op.operands] using hv
   obtain ⟨hu, he⟩ := elT_spec (P := P) (t := t) (by omega)
   have hsz := szT_run (P := P) (e := elT P t) (by omega)
   have hel : P.elem t = elT P t := by simp [Program.elem, hu]
   have hel' : P.underlying t = some (.slice (P.elem t)) := by rw [hel]; exact hu
   have hsz' : (sizeOf (P.elem t)).run P w = .ok (ixS P t) w := by rw [hel, he]; exact hsz w
   have hrun : (Instr.slice t (.slice (some ⟨b, off, none⟩) l'.length c) (some (.int kd (l : Nat))) none none).run P w = .ok (sliced (some ⟨b, off, none⟩) l l'.length c 1) w := by
    rw [run_slice_l _ _ _ _ _ hel' _ _ (by omega) (by omega), hsz', Result.andThen_ok, Int.toNat_natCast, h2]
   have hrun2 : (execOp a.eval o).run P w = .ok (.value (sliced (some ⟨b, off, none⟩) l l'.length c 1)) w := by
    simp only [execOp, ho, hxv.1, Sem.run_bind, run_sliceAt_slice _ _ _ _ _ _ hel', Option.map_none, Option.map_some, hxv.2, hrun, Result.andThen_ok, Sem.run_pure]
   have hl0 : lookP L j = some (.ry D (some ⟨b, off, none⟩) l') := by
    simp only [List.cons_append, List.nil_append, List.map_cons, List.map_nil, List.cons.injEq] at hL
    exact hL.1.symm
   have hpc : RdB olds w0 D (some ⟨b, off, none⟩) l' ∧ Byts l' := hS.pure_ j (by simp [restr, hasN, lookM_den, hl0, Pc.den])
   obtain ⟨⟨hr, hB⟩, hz⟩ := hpc
   have hst : ∀ g' o', (l'.length - l > 0 → g' = b ∧ o' = off + l) → Stp (blksOf (lookM (den olds w0 L)) [j']) w w (lookM (den olds w0 (zipW [j'] [some (.ry D (some ⟨g', o', none⟩) (l'.drop l))]))) := fun g' o' he => by
    refine stp_one j' (ckP (RdB olds w0 D (some ⟨g', o', none⟩) (l'.drop l) ∧ Byts (l'.drop l))) (.inl (World.grownBy.refl w _)) ⟨⟨fun hpos => ?_, hB⟩, hz.drop l⟩ fun g hg => hg.elim
    rw [List.length_drop] at hpos
    obtain ⟨rfl, rfl⟩ := he hpos
    obtain ⟨ad', e, hb', hc'⟩ := hr (by omega)
    obtain rfl := Option.some.inj e
    refine ⟨_, rfl, hb', fun k u hu => ?_⟩
    have := hc' (l + k) u (by rw [← hu]; simp [u8s, List.map_drop])
    rw [Addr.add_lit] at this ⊢
    rwa [show off + (l + k) = off + l + k by omega] at this
   unfold sliced at hrun2
   split at hrun2
   ·refine exec_wp hrun2 ?_
    have := hK ⟨b, off, undef, none⟩ w (hst _ _ (fun h => by omega))
    simp only [List.length_drop] at this
    exact this
   ·refine exec_wp hrun2 ?_
    have := hK ⟨b, off + l, undef, none⟩ w (hst _ _ (fun h => ⟨rfl, rfl⟩))
    simp only [List.length_drop] at this
    rw [Option.map_some, Addr.add_lit, Nat.mul_one]
    exact this
  ·intro hc; exact no_false hc
theorem shr_v {P : Program} {t : TypeId} (x y : Int) (n : Nat) (hy : y = (n : Int)) (hn : n ≤ 16) : ∀ w, ((do let v ← binOp .shr t (.int .u16 x) (.int .i64 y); pure (Next.value v) : Sem Next).run P w) = .ok (.value (.int .u16 (x / 2 ^ n))) w := fun w => by
 subst hy
 rw [Sem.run_bind, binOp_shr, shift_shr_any _ _ _ _ (by omega)]
 have : min ((n : Nat) : Int).toNat IntKind.u16.bits = n := by rw [Int.toNat_natCast, show IntKind.u16.bits = 16 from rfl]; omega
 rw [this]
 rfl
theorem and1h (x : Int) (h0 : 0 ≤ x) (h1 : x < 65536) : bits .and .u16 x 1 = x % 2 := by
 have h31 : (BitVec.ofInt 16 1).toNat = 2 ^ 1 - 1 := by decide
 have key : (BitVec.ofInt 16 x &&& BitVec.ofInt 16 1).toNat = (x % ((2 ^ 16 : Nat) : Int)).toNat % 2 ^ 1 := by
  rw [BitVec.toNat_and, BitVec.toNat_ofInt, h31, Nat.and_two_pow_sub_one_eq_mod]
 show IntKind.u16.wrap ((BitVec.ofInt 16 x &&& BitVec.ofInt 16 1).toNat : Nat) = _
 rw [key, IntKind.wrap_u16]
 omega
theorem and3h (x : Int) (h0 : 0 ≤ x) (h1 : x < 65536) : bits .and .u16 x 3 = x % 4 := by
 have h31 : (BitVec.ofInt 16 3).toNat = 2 ^ 2 - 1 := by decide
 have key : (BitVec.ofInt 16 x &&& BitVec.ofInt 16 3).toNat = (x % ((2 ^ 16 : Nat) : Int)).toNat % 2 ^ 2 := by
  rw [BitVec.toNat_and, BitVec.toNat_ofInt, h31, Nat.and_two_pow_sub_one_eq_mod]
 show IntKind.u16.wrap ((BitVec.ofInt 16 x &&& BitVec.ofInt 16 3).toNat : Nat) = _
 rw [key, IntKind.wrap_u16]
 omega
theorem and8191h (x : Int) (h0 : 0 ≤ x) (h1 : x < 65536) : bits .and .u16 x 8191 = x % 8192 := by
 have h31 : (BitVec.ofInt 16 8191).toNat = 2 ^ 13 - 1 := by decide
 have key : (BitVec.ofInt 16 x &&& BitVec.ofInt 16 8191).toNat = (x % ((2 ^ 16 : Nat) : Int)).toNat % 2 ^ 13 := by
  rw [BitVec.toNat_and, BitVec.toNat_ofInt, h31, Nat.and_two_pow_sub_one_eq_mod]
 show IntKind.u16.wrap ((BitVec.ofInt 16 x &&& BitVec.ofInt 16 8191).toNat : Nat) = _
 rw [key, IntKind.wrap_u16]
 omega
theorem sh_in {x : Int} (n : Nat) (h0 : 0 ≤ x) (h1 : x < 65536) : 0 ≤ x / 2 ^ n ∧ x / 2 ^ n < 65536 := by
 have hp : (0 : Int) < 2 ^ n := Int.pow_pos (by omega)
 refine ⟨Int.ediv_nonneg h0 (Int.le_of_lt hp), Int.lt_of_le_of_lt (Int.ediv_le_self _ h0) h1⟩
theorem u16c_map : ∀ l : List Int, l.flatMap u16c = l.map (Value.int .u16)
 | [] => rfl
 | a :: l => by rw [List.flatMap_cons, List.map_cons, u16c_map l]; rfl
theorem u16c_at {l : List Int} {j : Nat} {x : Int} (h : l[j]? = some x) : (l.flatMap u16c)[j]? = some (.int .u16 x) := by
 rw [u16c_map, List.getElem?_map, h]
 rfl
section
variable {P : Program} {n : Nat} {a : Act} {w : World} {Q : Exit → Act → World → Prop}
theorem seq_join2 {X : Type} {c y : Code} {l0 : List (Nat × Value)} {L0 : PL} (_ : Env n l0 a) (_ : Stp olds w0 w (lookM (den olds w0 L0))) (I : X → Prop) (J : X → List (Nat × Value)) (L : X → PL)
  (h1 : ∀ K : Act → World → Prop, (∀ (x : X) (a' : Act) (w' : World) (lc : List (Nat × Value)) (Lc : PL), I x → Env n lc a' → Stp olds w0 w' (lookM (den olds w0 Lc)) → (endChk ⟨lc, Lc⟩ ⟨J x, L x⟩).map (·.1) = (endChk ⟨lc, Lc⟩ ⟨J x, L x⟩).map (·.2) → K a' w') → c.wp P (Exit.then K Q) a w)
  (h2 : ∀ x a' w', I x → Env n (J x) a' → Stp olds w0 w' (lookM (den olds w0 (L x))) → y.wp P Q a' w') : (Code.seq c y).wp P Q a w :=
 wp_seq (h1 _ fun x a' w' lc Lc hI hE hS hc => h2 x a' w' hI (end_env (s' := ⟨J x, L x⟩) (fst_snd hc) hE) (end_mem (s' := ⟨J x, L x⟩) (fst_snd hc) hS))
end
end
theorem set_next {l : List Value} {z x : Value} {n k : Nat} (hl : l.length = k) (hk : k < n) : (l ++ List.replicate (n - k) z).toArray.setIfInBounds k x = ((l ++ [x]) ++ List.replicate (n - (k + 1)) z).toArray := by
 apply Array.ext'
 rw [Array.toList_setIfInBounds]
 simp only
 rw [show n - k = (n - (k + 1)) + 1 by omega, List.replicate_succ, List.set_append_right _ _ (by omega), hl, Nat.sub_self, List.set_cons_zero, List.append_assoc]
 rfl
theorem setFrom_list : ∀ (vs : List Value) (cs : List Value) (o : Nat), o + vs.length ≤ cs.length → setFrom cs.toArray o vs = (cs.take o ++ vs ++ cs.drop (o + vs.length)).toArray := fun vs cs o h => by
 apply Array.ext_getElem?
 intro j
 rw [setFrom_at]
 simp only [List.size_toArray, List.getElem?_toArray]
 by_cases h1 : j < o
 ·rw [if_neg (by omega), List.append_assoc, List.getElem?_append_left (by simp; omega), List.getElem?_take_of_lt h1]
 ·by_cases h2 : j < o + vs.length
  ·rw [if_pos ⟨by omega, h2, by omega⟩, List.append_assoc, List.getElem?_append_right (by simp; omega), List.getElem?_append_left (by simp; omega)]
   simp only [List.length_take]
   rw [Nat.min_eq_left (by omega)]
  ·rw [if_neg (by omega), List.getElem?_append_right (by simp; omega)]
   simp only [List.length_append, List.length_take, List.getElem?_drop]
   rw [Nat.min_eq_left (by omega), show o + vs.length + (j - (o + vs.length)) = j by omega]
end Go.Proofs.YtmmfpgoodfgkbaaGreatDoor
