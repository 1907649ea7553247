/-
  THE WALKS of the thin package's making of a packet of the package: two sources and a list. Condition: the kind; fewer than 2^31 elements.
-/
import Derived.Test.YtmmfpgoodfgkbaaGreatGiven
namespace Go.Proofs.YtmmfpgoodfgkbaaGreat
open Go Go.RowKit
set_option linter.unusedVariables false

noncomputable def builtR (n : Nat) : Code := (Tryz.f29.body.bind (regionNo n)).getD .skip
theorem ent_cells_len : ∀ (l : List Ent), ∀ x ∈ l, (Ent.cells x).length = 2 := fun _ _ _ => rfl
/-- In 'built': the packet; nothing else that was there has turned. -/
structure BltC (p : Pkt) (w wx : World) : Prop where
  pk : Blk wx w.heap.size 53 p.cells
  below : Below w.heap.size w wx
theorem BltC.drew {p : Pkt} {w wx : World} (h : BltC p w wx) : BltC p w wx.drew := ⟨h.pk.drew, h.below.drew⟩
theorem BltC.alloc {p : Pkt} {w wx : World} (h : BltC p w wx) (o : Obj) : BltC p w (wx.alloc o) := ⟨h.pk.alloc o, h.below.alloc h.below.size o⟩
theorem BltC.grown {p : Pkt} {w wx w' : World} (h : BltC p w wx) {row : Option Nat} (hg : wx.grownBy w' row) (hr : ∀ k, row = some k → w.heap.size < k) : BltC p w w' :=
  ⟨h.pk.grown hg (fun e => by have := hr _ e.symm; omega), h.below.grown hg h.below.size (fun k hk => by have := hr k hk; omega)⟩

theorem elemB6 : Elem Tryz.prog 168 173 (.agg #[.int .u16 0, .int .u16 0]) 2 4 := ⟨Tryz.underlying168, by kernel_rfl, rfl, by omega, by omega⟩
set_option maxHeartbeats 1000000 in
set_option maxRecDepth 100000 in
theorem builtR17 (p : Pkt) (w w3 : World) (a : Act) (x : Nat) (s m f0 f1 : Int) (A : Option Addr) (j c : Nat) (xs : List Value) (hj : j ≤ 2147483647) (hx2 : w.heap.size + 2 ≤ x)
    {A0 : Option Addr} {len c0 j0 : Nat} (hE : Env 229 [(3, .pointer (some ⟨w.heap.size + 1, 0, none⟩)), (5, .pointer (some ⟨x, 0, none⟩)), (88, .slice A0 (len : Nat) c0), (89, .int .i64 (len : Nat)), (90, .int .i64 (j0 : Nat))] a) (hc : BltC p w w3) (hx : Blk w3 x 98 #[.int .u16 f0, .int .u16 f1]) (ho : Blk w3 (w.heap.size + 1) 170 #[.int .u32 s, .int .u32 m, .slice A j c]) (hown : w3.ownsRow (w.heap.size + 2) 173 2 (.slice A j c) j xs) (hxo : (Value.slice A j c).ownBlock ≠ some x) (Q : Exit → Act → World → Prop)
    (hQ : ∀ a' w' g' cap', Env 229 [(3, .pointer (some ⟨w.heap.size + 1, 0, none⟩)), (88, .slice A0 (len : Nat) c0), (89, .int .i64 (len : Nat)), (90, .int .i64 (j0 : Nat))] a' → BltC p w w' → Blk w' (w.heap.size + 1) 170 #[.int .u32 s, .int .u32 m, .slice (some ⟨g', 0, none⟩) (j + 1) cap'] → w'.ownsRow (w.heap.size + 2) 173 2 (.slice (some ⟨g', 0, none⟩) (j + 1) cap') (j + 1) (xs ++ #[.int .u16 f0, .int .u16 f1].toList) → Q .normal a' w') :
    (builtR 17).wp Tryz.prog Q a w3 := by
  conv => arg 2; whnf
  refine wp_region_mid (n := 229) [(11, 10), (14, 10), (14, 11)] (by kernel_rfl) (by kernel_rfl) (by kernel_rfl) (by kernel_rfl) hE.size
    [11, 14] (fun w' => Blk w' (w.heap.size + 1) 170 #[.int .u32 s, .int .u32 m, .slice A j c] ∧ w'.ownsRow (w.heap.size + 2) 173 2 (.slice A j c) j xs)
    (fun w' => BltC p w w' ∧ Blk w' x 98 #[.int .u16 f0, .int .u16 f1])
    (fun i v w' => match i with
      | 0 => v = .pointer (some ⟨w.heap.size + 1, 0, none⟩)
      | 1 => v = .pointer (some ⟨w.heap.size + 1, 0, none⟩)
      | 2 => v = .pointer (some ⟨w.heap.size + 1, 0, none⟩)
      | 3 => v = .pointer (some ⟨w.heap.size + 1, 2, none⟩)
      | 4 => v = .slice A j c
      | 5 => v = .pointer (some ⟨x, 0, none⟩)
      | 6 => v = .int .u16 f0
      | 7 => v = .pointer (some ⟨x, 1, none⟩)
      | 8 => v = .int .u16 f1
      | 9 => v = .agg #[.int .u16 f0, .int .u16 f1]
      | 10 => ∃ g10, Blk w' g10 173 #[.int .u16 f0, .int .u16 f1] ∧ w.heap.size + 2 ≤ g10 ∧ v = .slice (some ⟨g10, 0, none⟩) 1 1
      | 11 => ∃ g11 cap11, w'.ownsRow (w.heap.size + 2) 173 2 (.slice (some ⟨g11, 0, none⟩) (j + 1) cap11) (j + 1) (xs ++ #[.int .u16 f0, .int .u16 f1].toList) ∧ Blk w' (w.heap.size + 1) 170 #[.int .u32 s, .int .u32 m, .slice A j c] ∧ v = .slice (some ⟨g11, 0, none⟩) (j + 1) cap11
      | 12 => v = .pointer (some ⟨w.heap.size + 1, 0, none⟩)
      | 13 => v = .pointer (some ⟨w.heap.size + 1, 2, none⟩)
      | 14 => ∃ g14 cap14, w'.ownsRow (w.heap.size + 2) 173 2 (.slice (some ⟨g14, 0, none⟩) (j + 1) cap14) (j + 1) (xs ++ #[.int .u16 f0, .int .u16 f1].toList) ∧ Blk w' (w.heap.size + 1) 170 #[.int .u32 s, .int .u32 m, .slice (some ⟨g14, 0, none⟩) (j + 1) cap14]
      | _ => True)
    (fun i w1 w2 => match i with
      | 10 => ∃ o, w2 = w1.alloc o
      | 11 => ∃ row, w1.grownBy w2 row ∧ ∀ q, row = some q → w.heap.size + 2 ≤ q
      | 14 => w1.grownBy w2 (some (w.heap.size + 1))
      | _ => w2 = w1)
    (⟨ho.drew, own_drew hown⟩) ?hC0 ?hKeep ?hKeepI ?hDuty ?hEnd
  case hC0 => exact ⟨hc.drew, hx.drew⟩
  case hKeep =>
    intro i k v w1 w2 hne hnd hw hC0 hT hR
    match i, hT with
    | 10, hT =>
      match k, hR with
      | 11, _ => exact waits_no (by kernel_rfl) hw
      | 14, _ => exact waits_no (by kernel_rfl) hw
      | 10, _ => exact absurd rfl hne
      | 0, hR | 1, hR | 2, hR | 3, hR | 4, hR | 5, hR | 6, hR | 7, hR | 8, hR | 9, hR | 12, hR | 13, hR => exact hR
      | _ + 15, _ => trivial
    | 11, hT =>
      match k, hR with
      | 10, _ => exact absurd (by decide) hnd
      | 14, _ => exact waits_no (by kernel_rfl) hw
      | 11, _ => exact absurd rfl hne
      | 0, hR | 1, hR | 2, hR | 3, hR | 4, hR | 5, hR | 6, hR | 7, hR | 8, hR | 9, hR | 12, hR | 13, hR => exact hR
      | _ + 15, _ => trivial
    | 14, hT =>
      match k, hR with
      | 10, _ => exact absurd (by decide) hnd
      | 11, _ => exact absurd (by decide) hnd
      | 14, _ => exact absurd rfl hne
      | 0, hR | 1, hR | 2, hR | 3, hR | 4, hR | 5, hR | 6, hR | 7, hR | 8, hR | 9, hR | 12, hR | 13, hR => exact hR
      | _ + 15, _ => trivial
    | 0, hT | 1, hT | 2, hT | 3, hT | 4, hT | 5, hT | 6, hT | 7, hT | 8, hT | 9, hT | 12, hT | 13, hT => subst hT; exact hR
    | _ + 15, hT => subst hT; exact hR
  case hKeepI =>
    intro i w1 w2 hb hC0 hT hI
    match i, hT with
    | 10, hT =>
      obtain ⟨o, rfl⟩ := hT
      exact ⟨hI.1.alloc _, hI.2.alloc _⟩
    | 11, _ => exact absurd (by decide) hb
    | 14, _ => exact absurd (by decide) hb
    | 0, hT | 1, hT | 2, hT | 3, hT | 4, hT | 5, hT | 6, hT | 7, hT | 8, hT | 9, hT | 12, hT | 13, hT => subst hT; exact hI
    | _ + 15, hT => subst hT; exact hI
  case hDuty =>
    refine ⟨?_, ?_, ?_, ?_, ?_, ?_, ?_, ?_, ?_, ?_, ?_, ?_, ?_, ?_, ?_, trivial⟩
    · refine duty_plain rfl fun vs a w4 hO hI0 hC0 hD K hK => ?_
      have e3 : a.tmps[3]? = some (.pointer (some ⟨w.heap.size + 1, 0, none⟩)) := (hO 3 (by kernel_rfl)).trans (hE.get 3 rfl)
      clear hD hO hI0
      go_simp
      exact hK _ _ hC0 rfl rfl
    · refine duty_plain rfl fun vs a w4 hO hI0 hC0 hD K hK => ?_
      have e3 : a.tmps[3]? = some (.pointer (some ⟨w.heap.size + 1, 0, none⟩)) := (hO 3 (by kernel_rfl)).trans (hE.get 3 rfl)
      clear hD hO hI0
      go_simp
      exact hK _ _ hC0 rfl rfl
    · refine duty_plain rfl fun vs a w4 hO hI0 hC0 hD K hK => ?_
      have s95 : a.tmps[95]? = some (vs 1) := (hD.1 rfl).1
      have r1 : vs 1 = .pointer (some ⟨w.heap.size + 1, 0, none⟩) := (hD.1 rfl).2
      rw [r1] at s95
      clear r1
      clear hD hO hI0
      go_simp
      exact hK _ _ hC0 rfl rfl
    · refine duty_plain rfl fun vs a w4 hO hI0 hC0 hD K hK => ?_
      have s96 : a.tmps[96]? = some (vs 2) := (hD.1 rfl).1
      have r2 : vs 2 = .pointer (some ⟨w.heap.size + 1, 0, none⟩) := (hD.1 rfl).2
      rw [r2] at s96
      clear r2
      clear hD hO hI0
      go_simp
      exact hK _ _ hC0 rfl rfl
    · refine duty_plain rfl fun vs a w4 hO hI0 hC0 hD K hK => ?_
      have s97 : a.tmps[97]? = some (vs 3) := (hD.1 rfl).1
      have r3 : vs 3 = .pointer (some ⟨w.heap.size + 1, 2, none⟩) := (hD.1 rfl).2
      rw [r3] at s97
      clear r3
      have hI := hI0 (by kernel_rfl)
      have co : w4.cell? ⟨w.heap.size + 1, 2, none⟩ = some (.slice A j c) := hI.1.cell 2
      have hzo : w.heap.size + 1 < w4.heap.size := hI.1.lt
      clear hD hO hI0
      go_simp
      exact hK _ _ hC0 rfl rfl
    · refine duty_plain rfl fun vs a w4 hO hI0 hC0 hD K hK => ?_
      have e5 : a.tmps[5]? = some (.pointer (some ⟨x, 0, none⟩)) := (hO 5 (by kernel_rfl)).trans (hE.get 5 rfl)
      clear hD hO hI0
      go_simp
      exact hK _ _ hC0 rfl rfl
    · refine duty_plain rfl fun vs a w4 hO hI0 hC0 hD K hK => ?_
      have s99 : a.tmps[99]? = some (vs 5) := (hD.1 rfl).1
      have r5 : vs 5 = .pointer (some ⟨x, 0, none⟩) := (hD.1 rfl).2
      rw [r5] at s99
      clear r5
      clear hD hO hI0
      have ce : w4.cell? ⟨x, 0, none⟩ = some (.int .u16 f0) := hC0.2.cell 0
      have hzx : x < w4.heap.size := hC0.2.lt
      go_simp
      exact hK _ _ hC0 rfl rfl
    · refine duty_plain rfl fun vs a w4 hO hI0 hC0 hD K hK => ?_
      have e5 : a.tmps[5]? = some (.pointer (some ⟨x, 0, none⟩)) := (hO 5 (by kernel_rfl)).trans (hE.get 5 rfl)
      clear hD hO hI0
      go_simp
      exact hK _ _ hC0 rfl rfl
    · refine duty_plain rfl fun vs a w4 hO hI0 hC0 hD K hK => ?_
      have s101 : a.tmps[101]? = some (vs 7) := (hD.1 rfl).1
      have r7 : vs 7 = .pointer (some ⟨x, 1, none⟩) := (hD.1 rfl).2
      rw [r7] at s101
      clear r7
      clear hD hO hI0
      have ce : w4.cell? ⟨x, 1, none⟩ = some (.int .u16 f1) := hC0.2.cell 1
      have hzx : x < w4.heap.size := hC0.2.lt
      go_simp
      exact hK _ _ hC0 rfl rfl
    · refine duty_plain rfl fun vs a w4 hO hI0 hC0 hD K hK => ?_
      have s100 : a.tmps[100]? = some (vs 6) := (hD.1 rfl).1
      have r6 : vs 6 = .int .u16 f0 := (hD.1 rfl).2
      rw [r6] at s100
      clear r6
      have s102 : a.tmps[102]? = some (vs 8) := (hD.2.1 rfl).1
      have r8 : vs 8 = .int .u16 f1 := (hD.2.1 rfl).2
      rw [r8] at s102
      clear r8
      clear hD hO hI0
      go_simp
      exact hK _ _ hC0 rfl rfl
    · refine duty_plain rfl fun vs a w4 hO hI0 hC0 hD K hK => ?_
      have s103 : a.tmps[103]? = some (vs 9) := (hD.1 rfl).1
      have r9 : vs 9 = .agg #[.int .u16 f0, .int .u16 f1] := (hD.1 rfl).2
      rw [r9] at s103
      clear r9
      clear hD hO hI0
      have hzz : w.heap.size + 2 ≤ w4.heap.size := by have := hC0.2.lt; omega
      go_simp
      exact hK _ _ ⟨hC0.1.alloc _, hC0.2.alloc _⟩ ⟨_, blk_new _ _ _ rfl, by have := hC0.1.below.size; omega, rfl⟩ ⟨_, rfl⟩
    · refine duty_plain rfl fun vs a w4 hO hI0 hC0 hD K hK => ?_
      have s98 : a.tmps[98]? = some (vs 4) := (hD.1 rfl).1
      have r4 : vs 4 = .slice A j c := (hD.1 rfl).2
      rw [r4] at s98
      clear r4
      have s104 : a.tmps[104]? = some (vs 10) := (hD.2.1 rfl).1
      have q10 : ∃ g10, Blk w4 g10 173 #[.int .u16 f0, .int .u16 f1] ∧ w.heap.size + 2 ≤ g10 ∧ vs 10 = .slice (some ⟨g10, 0, none⟩) 1 1 := (hD.2.1 rfl).2
      obtain ⟨g10, p10_0, p10_1, r10⟩ := q10
      rw [r10] at s104
      clear r10
      have hI := hI0 (by kernel_rfl)
      clear hD hO hI0
      refine wp_app_src (.tmp 98) (.tmp 104) _ rfl elemB6 (w.heap.size + 2) _ j xs w4.heap.size _ 1 1 #[.int .u16 f0, .int .u16 f1].toList hI.2 (by simp [Act.eval, s98]) (by simp [Act.eval, s104]) (blk_reads p10_0 2 1 rfl) (by intro u hu; simp at hu; rcases hu with rfl | rfl <;> rfl) (by omega) (by have := p10_0.lt; omega) (by omega) fun g7 cap7 w7 hown7 hg7 hat7 => ?_
      exact hK _ _ ⟨hC0.1.grown hg7 (fun q hq => by have := (hI.2.lt q hq).1; omega), hC0.2.grown hg7 (fun e => hxo e.symm)⟩ ⟨g7, cap7, hown7, hI.1.grown hg7 (fun e => by have := (hI.2.lt _ e.symm).1; omega), rfl⟩ ⟨_, hg7, fun q hq => (hI.2.lt q hq).1⟩
    · refine duty_plain rfl fun vs a w4 hO hI0 hC0 hD K hK => ?_
      have s94 : a.tmps[94]? = some (vs 0) := (hD.1 rfl).1
      have r0 : vs 0 = .pointer (some ⟨w.heap.size + 1, 0, none⟩) := (hD.1 rfl).2
      rw [r0] at s94
      clear r0
      clear hD hO hI0
      go_simp
      exact hK _ _ hC0 rfl rfl
    · refine duty_plain rfl fun vs a w4 hO hI0 hC0 hD K hK => ?_
      have s106 : a.tmps[106]? = some (vs 12) := (hD.1 rfl).1
      have r12 : vs 12 = .pointer (some ⟨w.heap.size + 1, 0, none⟩) := (hD.1 rfl).2
      rw [r12] at s106
      clear r12
      clear hD hO hI0
      go_simp
      exact hK _ _ hC0 rfl rfl
    · refine duty_plain rfl fun vs a w4 hO hI0 hC0 hD K hK => ?_
      have s107 : a.tmps[107]? = some (vs 13) := (hD.1 rfl).1
      have r13 : vs 13 = .pointer (some ⟨w.heap.size + 1, 2, none⟩) := (hD.1 rfl).2
      rw [r13] at s107
      clear r13
      have s105 : a.tmps[105]? = some (vs 11) := (hD.2.1 rfl).1
      have q11 : ∃ g11 cap11, w4.ownsRow (w.heap.size + 2) 173 2 (.slice (some ⟨g11, 0, none⟩) (j + 1) cap11) (j + 1) (xs ++ #[.int .u16 f0, .int .u16 f1].toList) ∧ Blk w4 (w.heap.size + 1) 170 #[.int .u32 s, .int .u32 m, .slice A j c] ∧ vs 11 = .slice (some ⟨g11, 0, none⟩) (j + 1) cap11 := (hD.2.1 rfl).2
      obtain ⟨g11, cap11, p11_0, p11_1, r11⟩ := q11
      rw [r11] at s105
      clear r11
      clear hD hO hI0
      have co : w4.cell? ⟨w.heap.size + 1, 2, none⟩ = some (.slice A j c) := p11_1.cell 2
      have fo : w4.frozen? ⟨w.heap.size + 1, 2, none⟩ = false := p11_1.frozen 2
      have hzo : w.heap.size + 1 < w4.heap.size := p11_1.lt
      go_simp
      exact hK undef _ ⟨hC0.1.grown (grownBy_setCell _ _ _) (fun q hq => by injection hq with hq; simp at hq; omega), hC0.2.far (p := ⟨w.heap.size + 1, 2, none⟩) (by simp; omega) _⟩ ⟨_, _, own_setCell p11_0 (fun e => by have := (p11_0.lt _ e).1; simp at this) _, p11_1.set_ 2 _⟩ (grownBy_setCell _ _ _)
  case hEnd =>
    intro vs a' w' hC hM hR2
    obtain ⟨g7, cap7, h1, h2⟩ := hR2 14 (by decide) (by simp)
    exact hQ a' w' g7 cap7 (Env.mk' (hM.size.trans hE.size) (hM.defers.trans hE.defers) ⟨(hM.old 3 (by kernel_rfl)).trans (hE.get 3 rfl), (hM.old 88 (by kernel_rfl)).trans (hE.get 88 rfl), (hM.old 89 (by kernel_rfl)).trans (hE.get 89 rfl), (hM.old 90 (by kernel_rfl)).trans (hE.get 90 rfl), trivial⟩) hC.1 h2 h1

set_option maxHeartbeats 4000000 in
set_option maxRecDepth 100000 in
theorem builtL_6 (p : Pkt) (w : World) (hk : p.kind = 6) (hr : p.pairs.Lies w w.heap.size 2 Pair.cells) (hn : p.pairs.l.length ≤ 2147483646) :
    Calls Tryz.prog 29 #[.agg p.cells] w fun e w' =>
      ∃ g v, e = .returned (.iface 167 (.pointer (some ⟨g, 0, none⟩))) ∧ Blk w' g 170 #[.int .u32 p.sender, .int .u32 p.media, v] ∧ w.heap.size ≤ g ∧ w'.ownsRow w.heap.size 173 2 v p.pairs.l.length (p.pairs.l.flatMap Pair.cells) ∧ Below w.heap.size w w' := by
  refine calls_of_wp Tryz.func29 rfl ?_
  rw [Tryz.ntmps29]
  have hE0 : Env 229 [(0, .agg p.cells)] ⟨#[.agg p.cells] ++ Array.replicate (229 - (#[Value.agg p.cells] : Array Value).size) undef, []⟩ := Env.enter _ (by simp) ⟨by simp, trivial⟩
  generalize (⟨#[.agg p.cells] ++ Array.replicate (229 - (#[Value.agg p.cells] : Array Value).size) undef, []⟩ : Act) = a0 at hE0 ⊢
  have Hk := Lib.hid hk
  clear hk
  unfold Sl.Lies at hr
  obtain ⟨A, hA⟩ : ∃ A, A = p.pairs.A := ⟨_, rfl⟩
  obtain ⟨l, hl⟩ : ∃ l, l = p.pairs.l := ⟨_, rfl⟩
  obtain ⟨cc, hcc⟩ : ∃ cc, cc = p.pairs.c := ⟨_, rfl⟩
  have hfl : p.cells[14]? = some (.slice A (l.length : Nat) cc) := by rw [hA, hl, hcc]; rfl
  rw [← hA, ← hl] at hr
  rw [← hl] at hn ⊢
  clear hA hl hcc
  refine wp_seq_k fun K1 hK1 => ?_
  refine wp_region_lit ?_
  refine wpList_val hE0 1 rfl rfl fun K hK => ?_
  have e0 := hE0.get 0 rfl
  go_simp
  refine hK _ _ fun a2 hE2 => ?_
  clear hK K e0
  clear hE0 a0
  refine wpList_val hE2 2 rfl rfl fun K hK => ?_
  go_simp
  refine hK _ _ fun a3 hE3 => ?_
  clear hK K
  clear hE2 a2
  refine wpList_nil ?_
  have hc0 : BltC p w (w.alloc (.cells p.cells 53)) := ⟨blk_new _ _ _ rfl, (Below.refl _ _).alloc (Nat.le_refl _) _⟩
  have hz0 : (w.alloc (.cells p.cells 53)).heap.size = w.heap.size + 1 := by simp
  have hgoal : ∀ w1, BltC p w w1 → w1.heap.size = w.heap.size + 1 → K1 a3 w1 := ?_
  · exact hgoal _ hc0 hz0
  clear hc0 hz0
  intro w1 hc1 hz1
  refine hK1 _ _ ?_
  clear hK1
  refine wp_seq_k fun K4 hK4 => ?_
  refine wp_seq_k fun K5 hK5 => ?_
  refine wp_region_lit ?_
  refine wpList_val hE3 13 rfl rfl fun K hK => ?_
  have e1 := hE3.get 1 rfl
  go_simp
  refine hK _ _ fun a6 hE6 => ?_
  clear hK K e1
  clear hE3 a3
  refine wpList_val hE6 14 rfl rfl fun K hK => ?_
  have e13 := hE6.get 13 rfl
  have c0 : w1.cell? ⟨w.heap.size, 0, none⟩ = some (.int .i64 6) := (hc1.pk.cell 0).trans (by rw [← Hk.out]; rfl)
  have hzp : w.heap.size < w1.heap.size := hc1.pk.lt
  go_simp
  refine hK _ _ fun a7 hE7 => ?_
  clear hK K e13
  clear hE6 a6
  clear c0 hzp
  refine wpList_nil ?_
  refine hK5 _ _ ?_
  clear hK5
  refine wp_block ?_
  refine wp_seq_k fun K8 hK8 => ?_
  refine wp_region_lit ?_
  refine wpList_val hE7 16 rfl rfl fun K hK => ?_
  have e14 := hE7.get 14 rfl
  go_simp
  refine hK _ _ fun a9 hE9 => ?_
  clear hK K e14
  clear hE7 a7
  refine wpList_val hE9 15 rfl rfl fun K hK => ?_
  have e16 := hE9.get 16 rfl
  go_simp
  refine hK _ _ fun a10 hE10 => ?_
  clear hK K e16
  clear hE9 a9
  refine wpList_nil ?_
  refine hK8 _ _ ?_
  clear hK8
  refine wp_if_f hE10 15 rfl ?_
  refine wp_seq_k fun K11 hK11 => ?_
  refine wp_region_lit ?_
  refine wpList_val hE10 37 rfl rfl fun K hK => ?_
  have e14 := hE10.get 14 rfl
  go_simp
  refine hK _ _ fun a12 hE12 => ?_
  clear hK K e14
  clear hE10 a10
  refine wpList_val hE12 36 rfl rfl fun K hK => ?_
  have e37 := hE12.get 37 rfl
  go_simp
  refine hK _ _ fun a13 hE13 => ?_
  clear hK K e37
  clear hE12 a12
  refine wpList_nil ?_
  refine hK11 _ _ ?_
  clear hK11
  refine wp_if_f hE13 36 rfl ?_
  refine wp_seq_k fun K14 hK14 => ?_
  refine wp_region_lit ?_
  refine wpList_val hE13 50 rfl rfl fun K hK => ?_
  have e14 := hE13.get 14 rfl
  go_simp
  refine hK _ _ fun a15 hE15 => ?_
  clear hK K e14
  clear hE13 a13
  refine wpList_val hE15 49 rfl rfl fun K hK => ?_
  have e50 := hE15.get 50 rfl
  go_simp
  refine hK _ _ fun a16 hE16 => ?_
  clear hK K e50
  clear hE15 a15
  refine wpList_nil ?_
  refine hK14 _ _ ?_
  clear hK14
  refine wp_if_f hE16 49 rfl ?_
  refine wp_seq_k fun K17 hK17 => ?_
  refine wp_region_lit ?_
  refine wpList_val hE16 56 rfl rfl fun K hK => ?_
  have e14 := hE16.get 14 rfl
  go_simp
  refine hK _ _ fun a18 hE18 => ?_
  clear hK K e14
  clear hE16 a16
  refine wpList_val hE18 55 rfl rfl fun K hK => ?_
  have e56 := hE18.get 56 rfl
  go_simp
  refine hK _ _ fun a19 hE19 => ?_
  clear hK K e56
  clear hE18 a18
  refine wpList_nil ?_
  refine hK17 _ _ ?_
  clear hK17
  refine wp_if_f hE19 55 rfl ?_
  refine wp_seq_k fun K20 hK20 => ?_
  refine wp_region_lit ?_
  refine wpList_val hE19 66 rfl rfl fun K hK => ?_
  have e14 := hE19.get 14 rfl
  go_simp
  refine hK _ _ fun a21 hE21 => ?_
  clear hK K e14
  clear hE19 a19
  refine wpList_val hE21 65 rfl rfl fun K hK => ?_
  have e66 := hE21.get 66 rfl
  go_simp
  refine hK _ _ fun a22 hE22 => ?_
  clear hK K e66
  clear hE21 a21
  refine wpList_nil ?_
  refine hK20 _ _ ?_
  clear hK20
  refine wp_if_f hE22 65 rfl ?_
  refine wp_seq_k fun K23 hK23 => ?_
  refine wp_region_lit ?_
  refine wpList_val hE22 80 rfl rfl fun K hK => ?_
  have e14 := hE22.get 14 rfl
  go_simp
  refine hK _ _ fun a24 hE24 => ?_
  clear hK K e14
  clear hE22 a22
  refine wpList_val hE24 79 rfl rfl fun K hK => ?_
  have e80 := hE24.get 80 rfl
  go_simp
  refine hK _ _ fun a25 hE25 => ?_
  clear hK K e80
  clear hE24 a24
  refine wpList_nil ?_
  refine hK23 _ _ ?_
  clear hK23
  refine wp_if_t hE25 79 rfl ?_
  refine wp_seq_k fun K26 hK26 => ?_
  refine wp_region_lit ?_
  refine wpList_val hE25 81 rfl rfl fun K hK => ?_
  have e1 := hE25.get 1 rfl
  go_simp
  refine hK _ _ fun a27 hE27 => ?_
  clear hK K e1
  clear hE25 a25
  refine wpList_val hE27 82 rfl rfl fun K hK => ?_
  have e81 := hE27.get 81 rfl
  have c1 : w1.cell? ⟨w.heap.size, 1, none⟩ = some (.int .u32 p.sender) := hc1.pk.cell 1
  have c2 : w1.cell? ⟨w.heap.size, 2, none⟩ = some (.int .u32 p.media) := hc1.pk.cell 2
  have hzp : w.heap.size < w1.heap.size := hc1.pk.lt
  go_simp
  refine hK _ _ fun a28 hE28 => ?_
  clear hK K e81
  clear hE27 a27
  refine wpList_val hE28 83 rfl rfl fun K hK => ?_
  have e1 := hE28.get 1 rfl
  go_simp
  refine hK _ _ fun a29 hE29 => ?_
  clear hK K e1
  clear hE28 a28
  refine wpList_val hE29 84 rfl rfl fun K hK => ?_
  have e83 := hE29.get 83 rfl
  go_simp
  refine hK _ _ fun a30 hE30 => ?_
  clear hK K e83
  clear hE29 a29
  refine wpList_val hE30 85 rfl rfl fun K hK => ?_
  have e82 := hE30.get 82 rfl
  have e84 := hE30.get 84 rfl
  go_simp
  refine hK _ _ fun a31 hE31 => ?_
  clear hK K e82 e84
  clear hE30 a30
  refine wpList_val hE31 86 rfl rfl fun K hK => ?_
  have e85 := hE31.get 85 rfl
  go_simp
  refine hK _ _ fun a32 hE32 => ?_
  clear hK K e85
  clear hE31 a31
  refine wpList_val hE32 3 rfl rfl fun K hK => ?_
  have e86 := hE32.get 86 rfl
  go_simp
  refine hK _ _ fun a33 hE33 => ?_
  clear hK K e86
  clear hE32 a32
  clear c1 c2 hzp
  refine wpList_nil ?_
  have ho3 := blk_new w1 170 #[.int .u32 p.sender, .int .u32 p.media, .slice none 0 0] hz1
  have hc3 := hc1.alloc (.cells #[.int .u32 p.sender, .int .u32 p.media, .slice none 0 0] 170)
  have hz3 : (w1.alloc (.cells #[.int .u32 p.sender, .int .u32 p.media, .slice none 0 0] 170)).heap.size = w.heap.size + 2 := by simp [hz1]
  clear hc1 hz1
  generalize w1.alloc (.cells #[.int .u32 p.sender, .int .u32 p.media, .slice none 0 0] 170) = w3 at *
  refine hK26 _ _ ?_
  clear hK26
  refine wp_seq_k fun K34 hK34 => ?_
  refine wp_seq_k fun K35 hK35 => ?_
  refine wp_region_lit ?_
  refine wpList_val hE33 87 rfl rfl fun K hK => ?_
  have e1 := hE33.get 1 rfl
  go_simp
  refine hK _ _ fun a36 hE36 => ?_
  clear hK K e1
  clear hE33 a33
  refine wpList_val hE36 88 rfl rfl fun K hK => ?_
  have e87 := hE36.get 87 rfl
  have cf : w3.cell? ⟨w.heap.size, 14, none⟩ = some (.slice A (l.length : Nat) cc) := (hc3.pk.cell 14).trans hfl
  have hzp : w.heap.size < w3.heap.size := hc3.pk.lt
  go_simp
  refine hK _ _ fun a37 hE37 => ?_
  clear hK K e87
  clear hE36 a36
  clear cf hzp hfl
  refine wpList_val hE37 89 rfl rfl fun K hK => ?_
  have e88 := hE37.get 88 rfl
  go_simp
  refine hK _ _ fun a38 hE38 => ?_
  clear hK K e88
  clear hE37 a37
  refine wpList_val hE38 90 rfl rfl fun K hK => ?_
  go_simp
  refine hK _ _ fun a39 hE39 => ?_
  clear hK K
  clear hE38 a38
  refine wpList_nil ?_
  refine hK35 _ _ ?_
  clear hK35
  refine wp_block ?_
  refine wp_loop_up l.length (fun k a w' => ∃ A2 c2, Env 229 [(3, .pointer (some ⟨w.heap.size + 1, 0, none⟩)), (88, .slice A (l.length : Nat) cc), (89, .int .i64 (l.length : Nat)), (90, .int .i64 (k : Nat))] a ∧ BltC p w w' ∧ Blk w' (w.heap.size + 1) 170 #[.int .u32 p.sender, .int .u32 p.media, .slice A2 k c2] ∧ w'.ownsRow (w.heap.size + 2) 173 2 (.slice A2 k c2) k ((l.take k).flatMap Pair.cells) ∧ w.heap.size + 2 ≤ w'.heap.size) ⟨none, 0, hE39.keep ⟨hE39.get 3 rfl, hE39.get 88 rfl, hE39.get 89 rfl, hE39.get 90 rfl, trivial⟩, hc3, ho3, World.ownsRow_nil _ _ _ _, by omega⟩ ?_
  clear hc3 ho3 hz3 hE39 a39
  intro k a2 w2 hkl ⟨A2, c2, hE2, hC2, ho2, hown2, hz2⟩ K hK
  by_cases hlt : k < l.length
  case pos =>
    obtain ⟨b1, off, rfl, hbB⟩ := hr.addr (by omega) (by omega)
    have hrw := hr.below hC2.below
    obtain ⟨r, hrk⟩ : ∃ r, r = l[k] := ⟨_, rfl⟩
    have e0 := hrw.at2 (pair_cells_len l) k 0 hlt (by omega) (v := .int .u16 r.id) (by rw [hrk]; rfl)
    have e1 := hrw.at2 (pair_cells_len l) k 1 hlt (by omega) (v := .int .u16 r.mask) (by rw [hrk]; rfl)
    simp only [Nat.add_zero] at e0
    have Hrk := Lib.hid hrk
    clear hrk hr hrw
    obtain ⟨f0, f1⟩ := r
    simp only at e0 e1
    have hi1 : (k : Int) < (l.length : Int) := by omega
    have hi0 : (0 : Int) ≤ (k : Int) := by omega
    have hw1 : IntKind.i64.wrap ((k : Int) + 1) = (k : Int) + 1 := IntWalk.i64_in _ (by omega)
    have hzb : b1 < w2.heap.size := by omega
    refine wp_seq_k fun K40 hK40 => ?_
    refine wp_region_lit ?_
    refine wpList_val hE2 91 rfl rfl fun K hK => ?_
    have e89 := hE2.get 89 rfl
    have e90 := hE2.get 90 rfl
    go_simp
    refine hK _ _ fun a41 hE41 => ?_
    clear hK K e89 e90
    clear hE2 a2
    refine wpList_nil ?_
    refine hK40 _ _ ?_
    clear hK40
    refine wp_seq_k fun K42 hK42 => ?_
    refine wp_if_t hE41 91 rfl ?_
    refine wp_skip ?_
    refine hK42 _ _ ?_
    clear hK42
    refine wp_seq_k fun K43 hK43 => ?_
    refine wp_block ?_
    refine wp_seq_k fun K44 hK44 => ?_
    refine wp_region_lit ?_
    refine wpList_val hE41 92 rfl rfl fun K hK => ?_
    have e88 := hE41.get 88 rfl
    have e90 := hE41.get 90 rfl
    go_simp
    refine hK _ _ fun a45 hE45 => ?_
    clear hK K e88 e90
    clear hE41 a41
    refine wpList_val hE45 93 rfl rfl fun K hK => ?_
    have e92 := hE45.get 92 rfl
    go_simp
    refine hK _ _ fun a46 hE46 => ?_
    clear hK K e92
    clear hE45 a45
    refine wpList_val hE46 5 rfl rfl fun K hK => ?_
    go_simp
    refine hK _ _ fun a47 hE47 => ?_
    clear hK K
    clear hE46 a46
    refine wpList_none rfl fun K hK => ?_
    have e5 := hE47.get 5 rfl
    have e93 := hE47.get 93 rfl
    go_simp
    refine hK undef _ ?_
    clear hK K e5 e93
    refine wpList_nil ?_
    refine hK44 _ _ ?_
    clear hK44
    have hx := blk_new w2 98 #[.int .u16 f0, .int .u16 f1] rfl
    have hC3 := hC2.alloc (.cells #[.int .u16 f0, .int .u16 f1] 98)
    have ho3 := ho2.alloc (.cells #[.int .u16 f0, .int .u16 f1] 98)
    have hown3 := hown2.alloc (.cells #[.int .u16 f0, .int .u16 f1] 98)
    have hne3 : (Value.slice A2 k c2).ownBlock ≠ some w2.heap.size := fun e => by have := (hown2.lt _ e).2; omega
    clear e0 e1 hC2 ho2 hown2
    generalize w2.alloc (.cells #[.int .u16 f0, .int .u16 f1] 98) = w3 at *
    refine builtR17 p w w3 _ w2.heap.size p.sender p.media f0 f1 A2 k c2 _ (by omega) hz2 (hE47.keep ⟨hE47.get 3 rfl, hE47.get 5 rfl, hE47.get 88 rfl, hE47.get 89 rfl, hE47.get 90 rfl, trivial⟩) hC3 hx ho3 hown3 hne3 _ fun a5 w5 g5 cap5 hE5 hC5 ho5 hown5 => ?_
    clear hE47 a47
    refine hK43 _ _ ?_
    clear hK43
    refine wp_region_lit ?_
    refine wpList_val hE5 108 rfl rfl fun K hK => ?_
    have e90 := hE5.get 90 rfl
    go_simp
    refine hK _ _ fun a49 hE49 => ?_
    clear hK K e90
    clear hE5 a5
    refine wpList_val hE49 90 rfl rfl fun K hK => ?_
    have e108 := hE49.get 108 rfl
    go_simp
    refine hK _ _ fun a50 hE50 => ?_
    clear hK K e108
    clear hE49 a49
    refine wpList_nil ?_
    have et : (l.take (k + 1)).flatMap Pair.cells = (l.take k).flatMap Pair.cells ++ (⟨f0, f1⟩ : Pair).cells := by rw [flat_take_succ _ _ _ hlt, Hrk.out]
    exact hK _ _ hlt ⟨_, _, hE50.keep ⟨hE50.get 3 rfl, hE50.get 88 rfl, hE50.get 89 rfl, (hE50.get 90 rfl).trans (congrArg some (by go_num)), trivial⟩, hC5, ho5, own_eq hown5 rfl (by rw [et]; rfl), ho5.lt⟩
  case neg =>
    obtain rfl : k = l.length := by omega
    have hi1 : ¬ (l.length : Int) < (l.length : Int) := by omega
    refine wp_seq_k fun K51 hK51 => ?_
    refine wp_region_lit ?_
    refine wpList_val hE2 91 rfl rfl fun K hK => ?_
    have e89 := hE2.get 89 rfl
    have e90 := hE2.get 90 rfl
    go_simp
    refine hK _ _ fun a52 hE52 => ?_
    clear hK K e89 e90
    clear hE2 a2
    refine wpList_nil ?_
    refine hK51 _ _ ?_
    clear hK51
    refine wp_seq_k fun K53 hK53 => ?_
    refine wp_if_f hE52 91 rfl ?_
    refine wp_exit ?_
    refine hK34 _ _ ?_
    clear hK34
    refine wp_seq_k fun K54 hK54 => ?_
    refine wp_region_lit ?_
    refine wpList_val hE52 109 rfl rfl fun K hK => ?_
    have e3 := hE52.get 3 rfl
    go_simp
    refine hK _ _ fun a55 hE55 => ?_
    clear hK K e3
    clear hE52 a52
    refine wpList_val hE55 110 rfl rfl fun K hK => ?_
    have e109 := hE55.get 109 rfl
    go_simp
    refine hK _ _ fun a56 hE56 => ?_
    clear hK K e109
    clear hE55 a55
    refine wpList_val hE56 2 rfl rfl fun K hK => ?_
    have e110 := hE56.get 110 rfl
    go_simp
    refine hK _ _ fun a57 hE57 => ?_
    clear hK K e110
    clear hE56 a56
    refine wpList_nil ?_
    refine hK54 _ _ ?_
    clear hK54
    refine wp_ret ?_
    simp only [Exit.inBlock, Exit.then]
    refine bodyPost_ret (v := .iface 167 (.pointer (some ⟨w.heap.size + 1, 0, none⟩))) (by simp [results, Tryz.results29, go_sem, hE57.get 2 rfl]) hE57.defers ⟨_, _, rfl, ho2, by omega, own_base (own_eq hown2 rfl (by rw [List.take_length])) (by omega), hC2.below⟩

theorem elemB10 : Elem Tryz.prog 185 188 (.agg #[.int .u16 0, .int .u16 0, .int .u8 0]) 3 6 := ⟨Tryz.underlying185, by kernel_rfl, rfl, by omega, by omega⟩
set_option maxHeartbeats 1000000 in
set_option maxRecDepth 100000 in
theorem builtR31 (p : Pkt) (w w3 : World) (a : Act) (x : Nat) (s m f0 f1 f2 : Int) (A : Option Addr) (j c : Nat) (xs : List Value) (hj : j ≤ 2147483647) (hx2 : w.heap.size + 2 ≤ x)
    {A0 : Option Addr} {len c0 j0 : Nat} (hE : Env 229 [(6, .pointer (some ⟨w.heap.size + 1, 0, none⟩)), (8, .pointer (some ⟨x, 0, none⟩)), (150, .slice A0 (len : Nat) c0), (151, .int .i64 (len : Nat)), (152, .int .i64 (j0 : Nat))] a) (hc : BltC p w w3) (hx : Blk w3 x 101 #[.int .u16 f0, .int .u16 f1, .int .u8 f2]) (ho : Blk w3 (w.heap.size + 1) 187 #[.int .u32 s, .int .u32 m, .slice A j c]) (hown : w3.ownsRow (w.heap.size + 2) 188 3 (.slice A j c) j xs) (hxo : (Value.slice A j c).ownBlock ≠ some x) (Q : Exit → Act → World → Prop)
    (hQ : ∀ a' w' g' cap', Env 229 [(6, .pointer (some ⟨w.heap.size + 1, 0, none⟩)), (150, .slice A0 (len : Nat) c0), (151, .int .i64 (len : Nat)), (152, .int .i64 (j0 : Nat))] a' → BltC p w w' → Blk w' (w.heap.size + 1) 187 #[.int .u32 s, .int .u32 m, .slice (some ⟨g', 0, none⟩) (j + 1) cap'] → w'.ownsRow (w.heap.size + 2) 188 3 (.slice (some ⟨g', 0, none⟩) (j + 1) cap') (j + 1) (xs ++ #[.int .u16 f0, .int .u16 f1, .int .u8 f2].toList) → Q .normal a' w') :
    (builtR 31).wp Tryz.prog Q a w3 := by
  conv => arg 2; whnf
  refine wp_region_mid (n := 229) [(13, 12), (16, 12), (16, 13)] (by kernel_rfl) (by kernel_rfl) (by kernel_rfl) (by kernel_rfl) hE.size
    [13, 16] (fun w' => Blk w' (w.heap.size + 1) 187 #[.int .u32 s, .int .u32 m, .slice A j c] ∧ w'.ownsRow (w.heap.size + 2) 188 3 (.slice A j c) j xs)
    (fun w' => BltC p w w' ∧ Blk w' x 101 #[.int .u16 f0, .int .u16 f1, .int .u8 f2])
    (fun i v w' => match i with
      | 0 => v = .pointer (some ⟨w.heap.size + 1, 0, none⟩)
      | 1 => v = .pointer (some ⟨w.heap.size + 1, 0, none⟩)
      | 2 => v = .pointer (some ⟨w.heap.size + 1, 0, none⟩)
      | 3 => v = .pointer (some ⟨w.heap.size + 1, 2, none⟩)
      | 4 => v = .slice A j c
      | 5 => v = .pointer (some ⟨x, 0, none⟩)
      | 6 => v = .int .u16 f0
      | 7 => v = .pointer (some ⟨x, 1, none⟩)
      | 8 => v = .int .u16 f1
      | 9 => v = .pointer (some ⟨x, 2, none⟩)
      | 10 => v = .int .u8 f2
      | 11 => v = .agg #[.int .u16 f0, .int .u16 f1, .int .u8 f2]
      | 12 => ∃ g12, Blk w' g12 188 #[.int .u16 f0, .int .u16 f1, .int .u8 f2] ∧ w.heap.size + 2 ≤ g12 ∧ v = .slice (some ⟨g12, 0, none⟩) 1 1
      | 13 => ∃ g13 cap13, w'.ownsRow (w.heap.size + 2) 188 3 (.slice (some ⟨g13, 0, none⟩) (j + 1) cap13) (j + 1) (xs ++ #[.int .u16 f0, .int .u16 f1, .int .u8 f2].toList) ∧ Blk w' (w.heap.size + 1) 187 #[.int .u32 s, .int .u32 m, .slice A j c] ∧ v = .slice (some ⟨g13, 0, none⟩) (j + 1) cap13
      | 14 => v = .pointer (some ⟨w.heap.size + 1, 0, none⟩)
      | 15 => v = .pointer (some ⟨w.heap.size + 1, 2, none⟩)
      | 16 => ∃ g16 cap16, w'.ownsRow (w.heap.size + 2) 188 3 (.slice (some ⟨g16, 0, none⟩) (j + 1) cap16) (j + 1) (xs ++ #[.int .u16 f0, .int .u16 f1, .int .u8 f2].toList) ∧ Blk w' (w.heap.size + 1) 187 #[.int .u32 s, .int .u32 m, .slice (some ⟨g16, 0, none⟩) (j + 1) cap16]
      | _ => True)
    (fun i w1 w2 => match i with
      | 12 => ∃ o, w2 = w1.alloc o
      | 13 => ∃ row, w1.grownBy w2 row ∧ ∀ q, row = some q → w.heap.size + 2 ≤ q
      | 16 => w1.grownBy w2 (some (w.heap.size + 1))
      | _ => w2 = w1)
    (⟨ho.drew, own_drew hown⟩) ?hC0 ?hKeep ?hKeepI ?hDuty ?hEnd
  case hC0 => exact ⟨hc.drew, hx.drew⟩
  case hKeep =>
    intro i k v w1 w2 hne hnd hw hC0 hT hR
    match i, hT with
    | 12, hT =>
      match k, hR with
      | 13, _ => exact waits_no (by kernel_rfl) hw
      | 16, _ => exact waits_no (by kernel_rfl) hw
      | 12, _ => exact absurd rfl hne
      | 0, hR | 1, hR | 2, hR | 3, hR | 4, hR | 5, hR | 6, hR | 7, hR | 8, hR | 9, hR | 10, hR | 11, hR | 14, hR | 15, hR => exact hR
      | _ + 17, _ => trivial
    | 13, hT =>
      match k, hR with
      | 12, _ => exact absurd (by decide) hnd
      | 16, _ => exact waits_no (by kernel_rfl) hw
      | 13, _ => exact absurd rfl hne
      | 0, hR | 1, hR | 2, hR | 3, hR | 4, hR | 5, hR | 6, hR | 7, hR | 8, hR | 9, hR | 10, hR | 11, hR | 14, hR | 15, hR => exact hR
      | _ + 17, _ => trivial
    | 16, hT =>
      match k, hR with
      | 12, _ => exact absurd (by decide) hnd
      | 13, _ => exact absurd (by decide) hnd
      | 16, _ => exact absurd rfl hne
      | 0, hR | 1, hR | 2, hR | 3, hR | 4, hR | 5, hR | 6, hR | 7, hR | 8, hR | 9, hR | 10, hR | 11, hR | 14, hR | 15, hR => exact hR
      | _ + 17, _ => trivial
    | 0, hT | 1, hT | 2, hT | 3, hT | 4, hT | 5, hT | 6, hT | 7, hT | 8, hT | 9, hT | 10, hT | 11, hT | 14, hT | 15, hT => subst hT; exact hR
    | _ + 17, hT => subst hT; exact hR
  case hKeepI =>
    intro i w1 w2 hb hC0 hT hI
    match i, hT with
    | 12, hT =>
      obtain ⟨o, rfl⟩ := hT
      exact ⟨hI.1.alloc _, hI.2.alloc _⟩
    | 13, _ => exact absurd (by decide) hb
    | 16, _ => exact absurd (by decide) hb
    | 0, hT | 1, hT | 2, hT | 3, hT | 4, hT | 5, hT | 6, hT | 7, hT | 8, hT | 9, hT | 10, hT | 11, hT | 14, hT | 15, hT => subst hT; exact hI
    | _ + 17, hT => subst hT; exact hI
  case hDuty =>
    refine ⟨?_, ?_, ?_, ?_, ?_, ?_, ?_, ?_, ?_, ?_, ?_, ?_, ?_, ?_, ?_, ?_, ?_, trivial⟩
    · refine duty_plain rfl fun vs a w4 hO hI0 hC0 hD K hK => ?_
      have e6 : a.tmps[6]? = some (.pointer (some ⟨w.heap.size + 1, 0, none⟩)) := (hO 6 (by kernel_rfl)).trans (hE.get 6 rfl)
      clear hD hO hI0
      go_simp
      exact hK _ _ hC0 rfl rfl
    · refine duty_plain rfl fun vs a w4 hO hI0 hC0 hD K hK => ?_
      have e6 : a.tmps[6]? = some (.pointer (some ⟨w.heap.size + 1, 0, none⟩)) := (hO 6 (by kernel_rfl)).trans (hE.get 6 rfl)
      clear hD hO hI0
      go_simp
      exact hK _ _ hC0 rfl rfl
    · refine duty_plain rfl fun vs a w4 hO hI0 hC0 hD K hK => ?_
      have s157 : a.tmps[157]? = some (vs 1) := (hD.1 rfl).1
      have r1 : vs 1 = .pointer (some ⟨w.heap.size + 1, 0, none⟩) := (hD.1 rfl).2
      rw [r1] at s157
      clear r1
      clear hD hO hI0
      go_simp
      exact hK _ _ hC0 rfl rfl
    · refine duty_plain rfl fun vs a w4 hO hI0 hC0 hD K hK => ?_
      have s158 : a.tmps[158]? = some (vs 2) := (hD.1 rfl).1
      have r2 : vs 2 = .pointer (some ⟨w.heap.size + 1, 0, none⟩) := (hD.1 rfl).2
      rw [r2] at s158
      clear r2
      clear hD hO hI0
      go_simp
      exact hK _ _ hC0 rfl rfl
    · refine duty_plain rfl fun vs a w4 hO hI0 hC0 hD K hK => ?_
      have s159 : a.tmps[159]? = some (vs 3) := (hD.1 rfl).1
      have r3 : vs 3 = .pointer (some ⟨w.heap.size + 1, 2, none⟩) := (hD.1 rfl).2
      rw [r3] at s159
      clear r3
      have hI := hI0 (by kernel_rfl)
      have co : w4.cell? ⟨w.heap.size + 1, 2, none⟩ = some (.slice A j c) := hI.1.cell 2
      have hzo : w.heap.size + 1 < w4.heap.size := hI.1.lt
      clear hD hO hI0
      go_simp
      exact hK _ _ hC0 rfl rfl
    · refine duty_plain rfl fun vs a w4 hO hI0 hC0 hD K hK => ?_
      have e8 : a.tmps[8]? = some (.pointer (some ⟨x, 0, none⟩)) := (hO 8 (by kernel_rfl)).trans (hE.get 8 rfl)
      clear hD hO hI0
      go_simp
      exact hK _ _ hC0 rfl rfl
    · refine duty_plain rfl fun vs a w4 hO hI0 hC0 hD K hK => ?_
      have s161 : a.tmps[161]? = some (vs 5) := (hD.1 rfl).1
      have r5 : vs 5 = .pointer (some ⟨x, 0, none⟩) := (hD.1 rfl).2
      rw [r5] at s161
      clear r5
      clear hD hO hI0
      have ce : w4.cell? ⟨x, 0, none⟩ = some (.int .u16 f0) := hC0.2.cell 0
      have hzx : x < w4.heap.size := hC0.2.lt
      go_simp
      exact hK _ _ hC0 rfl rfl
    · refine duty_plain rfl fun vs a w4 hO hI0 hC0 hD K hK => ?_
      have e8 : a.tmps[8]? = some (.pointer (some ⟨x, 0, none⟩)) := (hO 8 (by kernel_rfl)).trans (hE.get 8 rfl)
      clear hD hO hI0
      go_simp
      exact hK _ _ hC0 rfl rfl
    · refine duty_plain rfl fun vs a w4 hO hI0 hC0 hD K hK => ?_
      have s163 : a.tmps[163]? = some (vs 7) := (hD.1 rfl).1
      have r7 : vs 7 = .pointer (some ⟨x, 1, none⟩) := (hD.1 rfl).2
      rw [r7] at s163
      clear r7
      clear hD hO hI0
      have ce : w4.cell? ⟨x, 1, none⟩ = some (.int .u16 f1) := hC0.2.cell 1
      have hzx : x < w4.heap.size := hC0.2.lt
      go_simp
      exact hK _ _ hC0 rfl rfl
    · refine duty_plain rfl fun vs a w4 hO hI0 hC0 hD K hK => ?_
      have e8 : a.tmps[8]? = some (.pointer (some ⟨x, 0, none⟩)) := (hO 8 (by kernel_rfl)).trans (hE.get 8 rfl)
      clear hD hO hI0
      go_simp
      exact hK _ _ hC0 rfl rfl
    · refine duty_plain rfl fun vs a w4 hO hI0 hC0 hD K hK => ?_
      have s165 : a.tmps[165]? = some (vs 9) := (hD.1 rfl).1
      have r9 : vs 9 = .pointer (some ⟨x, 2, none⟩) := (hD.1 rfl).2
      rw [r9] at s165
      clear r9
      clear hD hO hI0
      have ce : w4.cell? ⟨x, 2, none⟩ = some (.int .u8 f2) := hC0.2.cell 2
      have hzx : x < w4.heap.size := hC0.2.lt
      go_simp
      exact hK _ _ hC0 rfl rfl
    · refine duty_plain rfl fun vs a w4 hO hI0 hC0 hD K hK => ?_
      have s162 : a.tmps[162]? = some (vs 6) := (hD.1 rfl).1
      have r6 : vs 6 = .int .u16 f0 := (hD.1 rfl).2
      rw [r6] at s162
      clear r6
      have s164 : a.tmps[164]? = some (vs 8) := (hD.2.1 rfl).1
      have r8 : vs 8 = .int .u16 f1 := (hD.2.1 rfl).2
      rw [r8] at s164
      clear r8
      have s166 : a.tmps[166]? = some (vs 10) := (hD.2.2.1 rfl).1
      have r10 : vs 10 = .int .u8 f2 := (hD.2.2.1 rfl).2
      rw [r10] at s166
      clear r10
      clear hD hO hI0
      go_simp
      exact hK _ _ hC0 rfl rfl
    · refine duty_plain rfl fun vs a w4 hO hI0 hC0 hD K hK => ?_
      have s167 : a.tmps[167]? = some (vs 11) := (hD.1 rfl).1
      have r11 : vs 11 = .agg #[.int .u16 f0, .int .u16 f1, .int .u8 f2] := (hD.1 rfl).2
      rw [r11] at s167
      clear r11
      clear hD hO hI0
      have hzz : w.heap.size + 2 ≤ w4.heap.size := by have := hC0.2.lt; omega
      go_simp
      exact hK _ _ ⟨hC0.1.alloc _, hC0.2.alloc _⟩ ⟨_, blk_new _ _ _ rfl, by have := hC0.1.below.size; omega, rfl⟩ ⟨_, rfl⟩
    · refine duty_plain rfl fun vs a w4 hO hI0 hC0 hD K hK => ?_
      have s160 : a.tmps[160]? = some (vs 4) := (hD.1 rfl).1
      have r4 : vs 4 = .slice A j c := (hD.1 rfl).2
      rw [r4] at s160
      clear r4
      have s168 : a.tmps[168]? = some (vs 12) := (hD.2.1 rfl).1
      have q12 : ∃ g12, Blk w4 g12 188 #[.int .u16 f0, .int .u16 f1, .int .u8 f2] ∧ w.heap.size + 2 ≤ g12 ∧ vs 12 = .slice (some ⟨g12, 0, none⟩) 1 1 := (hD.2.1 rfl).2
      obtain ⟨g12, p12_0, p12_1, r12⟩ := q12
      rw [r12] at s168
      clear r12
      have hI := hI0 (by kernel_rfl)
      clear hD hO hI0
      refine wp_app_src (.tmp 160) (.tmp 168) _ rfl elemB10 (w.heap.size + 2) _ j xs w4.heap.size _ 1 1 #[.int .u16 f0, .int .u16 f1, .int .u8 f2].toList hI.2 (by simp [Act.eval, s160]) (by simp [Act.eval, s168]) (blk_reads p12_0 3 1 rfl) (by intro u hu; simp at hu; rcases hu with rfl | rfl | rfl <;> rfl) (by omega) (by have := p12_0.lt; omega) (by omega) fun g7 cap7 w7 hown7 hg7 hat7 => ?_
      exact hK _ _ ⟨hC0.1.grown hg7 (fun q hq => by have := (hI.2.lt q hq).1; omega), hC0.2.grown hg7 (fun e => hxo e.symm)⟩ ⟨g7, cap7, hown7, hI.1.grown hg7 (fun e => by have := (hI.2.lt _ e.symm).1; omega), rfl⟩ ⟨_, hg7, fun q hq => (hI.2.lt q hq).1⟩
    · refine duty_plain rfl fun vs a w4 hO hI0 hC0 hD K hK => ?_
      have s156 : a.tmps[156]? = some (vs 0) := (hD.1 rfl).1
      have r0 : vs 0 = .pointer (some ⟨w.heap.size + 1, 0, none⟩) := (hD.1 rfl).2
      rw [r0] at s156
      clear r0
      clear hD hO hI0
      go_simp
      exact hK _ _ hC0 rfl rfl
    · refine duty_plain rfl fun vs a w4 hO hI0 hC0 hD K hK => ?_
      have s170 : a.tmps[170]? = some (vs 14) := (hD.1 rfl).1
      have r14 : vs 14 = .pointer (some ⟨w.heap.size + 1, 0, none⟩) := (hD.1 rfl).2
      rw [r14] at s170
      clear r14
      clear hD hO hI0
      go_simp
      exact hK _ _ hC0 rfl rfl
    · refine duty_plain rfl fun vs a w4 hO hI0 hC0 hD K hK => ?_
      have s171 : a.tmps[171]? = some (vs 15) := (hD.1 rfl).1
      have r15 : vs 15 = .pointer (some ⟨w.heap.size + 1, 2, none⟩) := (hD.1 rfl).2
      rw [r15] at s171
      clear r15
      have s169 : a.tmps[169]? = some (vs 13) := (hD.2.1 rfl).1
      have q13 : ∃ g13 cap13, w4.ownsRow (w.heap.size + 2) 188 3 (.slice (some ⟨g13, 0, none⟩) (j + 1) cap13) (j + 1) (xs ++ #[.int .u16 f0, .int .u16 f1, .int .u8 f2].toList) ∧ Blk w4 (w.heap.size + 1) 187 #[.int .u32 s, .int .u32 m, .slice A j c] ∧ vs 13 = .slice (some ⟨g13, 0, none⟩) (j + 1) cap13 := (hD.2.1 rfl).2
      obtain ⟨g13, cap13, p13_0, p13_1, r13⟩ := q13
      rw [r13] at s169
      clear r13
      clear hD hO hI0
      have co : w4.cell? ⟨w.heap.size + 1, 2, none⟩ = some (.slice A j c) := p13_1.cell 2
      have fo : w4.frozen? ⟨w.heap.size + 1, 2, none⟩ = false := p13_1.frozen 2
      have hzo : w.heap.size + 1 < w4.heap.size := p13_1.lt
      go_simp
      exact hK undef _ ⟨hC0.1.grown (grownBy_setCell _ _ _) (fun q hq => by injection hq with hq; simp at hq; omega), hC0.2.far (p := ⟨w.heap.size + 1, 2, none⟩) (by simp; omega) _⟩ ⟨_, _, own_setCell p13_0 (fun e => by have := (p13_0.lt _ e).1; simp at this) _, p13_1.set_ 2 _⟩ (grownBy_setCell _ _ _)
  case hEnd =>
    intro vs a' w' hC hM hR2
    obtain ⟨g7, cap7, h1, h2⟩ := hR2 16 (by decide) (by simp)
    exact hQ a' w' g7 cap7 (Env.mk' (hM.size.trans hE.size) (hM.defers.trans hE.defers) ⟨(hM.old 6 (by kernel_rfl)).trans (hE.get 6 rfl), (hM.old 150 (by kernel_rfl)).trans (hE.get 150 rfl), (hM.old 151 (by kernel_rfl)).trans (hE.get 151 rfl), (hM.old 152 (by kernel_rfl)).trans (hE.get 152 rfl), trivial⟩) hC.1 h2 h1

set_option maxHeartbeats 4000000 in
set_option maxRecDepth 100000 in
theorem builtL_10 (p : Pkt) (w : World) (hk : p.kind = 10) (hr : p.slices.Lies w w.heap.size 3 Slc.cells) (hn : p.slices.l.length ≤ 2147483646) :
    Calls Tryz.prog 29 #[.agg p.cells] w fun e w' =>
      ∃ g v, e = .returned (.iface 184 (.pointer (some ⟨g, 0, none⟩))) ∧ Blk w' g 187 #[.int .u32 p.sender, .int .u32 p.media, v] ∧ w.heap.size ≤ g ∧ w'.ownsRow w.heap.size 188 3 v p.slices.l.length (p.slices.l.flatMap Slc.cells) ∧ Below w.heap.size w w' := by
  refine calls_of_wp Tryz.func29 rfl ?_
  rw [Tryz.ntmps29]
  have hE0 : Env 229 [(0, .agg p.cells)] ⟨#[.agg p.cells] ++ Array.replicate (229 - (#[Value.agg p.cells] : Array Value).size) undef, []⟩ := Env.enter _ (by simp) ⟨by simp, trivial⟩
  generalize (⟨#[.agg p.cells] ++ Array.replicate (229 - (#[Value.agg p.cells] : Array Value).size) undef, []⟩ : Act) = a0 at hE0 ⊢
  have Hk := Lib.hid hk
  clear hk
  unfold Sl.Lies at hr
  obtain ⟨A, hA⟩ : ∃ A, A = p.slices.A := ⟨_, rfl⟩
  obtain ⟨l, hl⟩ : ∃ l, l = p.slices.l := ⟨_, rfl⟩
  obtain ⟨cc, hcc⟩ : ∃ cc, cc = p.slices.c := ⟨_, rfl⟩
  have hfl : p.cells[15]? = some (.slice A (l.length : Nat) cc) := by rw [hA, hl, hcc]; rfl
  rw [← hA, ← hl] at hr
  rw [← hl] at hn ⊢
  clear hA hl hcc
  refine wp_seq_k fun K1 hK1 => ?_
  refine wp_region_lit ?_
  refine wpList_val hE0 1 rfl rfl fun K hK => ?_
  have e0 := hE0.get 0 rfl
  go_simp
  refine hK _ _ fun a2 hE2 => ?_
  clear hK K e0
  clear hE0 a0
  refine wpList_val hE2 2 rfl rfl fun K hK => ?_
  go_simp
  refine hK _ _ fun a3 hE3 => ?_
  clear hK K
  clear hE2 a2
  refine wpList_nil ?_
  have hc0 : BltC p w (w.alloc (.cells p.cells 53)) := ⟨blk_new _ _ _ rfl, (Below.refl _ _).alloc (Nat.le_refl _) _⟩
  have hz0 : (w.alloc (.cells p.cells 53)).heap.size = w.heap.size + 1 := by simp
  have hgoal : ∀ w1, BltC p w w1 → w1.heap.size = w.heap.size + 1 → K1 a3 w1 := ?_
  · exact hgoal _ hc0 hz0
  clear hc0 hz0
  intro w1 hc1 hz1
  refine hK1 _ _ ?_
  clear hK1
  refine wp_seq_k fun K4 hK4 => ?_
  refine wp_seq_k fun K5 hK5 => ?_
  refine wp_region_lit ?_
  refine wpList_val hE3 13 rfl rfl fun K hK => ?_
  have e1 := hE3.get 1 rfl
  go_simp
  refine hK _ _ fun a6 hE6 => ?_
  clear hK K e1
  clear hE3 a3
  refine wpList_val hE6 14 rfl rfl fun K hK => ?_
  have e13 := hE6.get 13 rfl
  have c0 : w1.cell? ⟨w.heap.size, 0, none⟩ = some (.int .i64 10) := (hc1.pk.cell 0).trans (by rw [← Hk.out]; rfl)
  have hzp : w.heap.size < w1.heap.size := hc1.pk.lt
  go_simp
  refine hK _ _ fun a7 hE7 => ?_
  clear hK K e13
  clear hE6 a6
  clear c0 hzp
  refine wpList_nil ?_
  refine hK5 _ _ ?_
  clear hK5
  refine wp_block ?_
  refine wp_seq_k fun K8 hK8 => ?_
  refine wp_region_lit ?_
  refine wpList_val hE7 16 rfl rfl fun K hK => ?_
  have e14 := hE7.get 14 rfl
  go_simp
  refine hK _ _ fun a9 hE9 => ?_
  clear hK K e14
  clear hE7 a7
  refine wpList_val hE9 15 rfl rfl fun K hK => ?_
  have e16 := hE9.get 16 rfl
  go_simp
  refine hK _ _ fun a10 hE10 => ?_
  clear hK K e16
  clear hE9 a9
  refine wpList_nil ?_
  refine hK8 _ _ ?_
  clear hK8
  refine wp_if_f hE10 15 rfl ?_
  refine wp_seq_k fun K11 hK11 => ?_
  refine wp_region_lit ?_
  refine wpList_val hE10 37 rfl rfl fun K hK => ?_
  have e14 := hE10.get 14 rfl
  go_simp
  refine hK _ _ fun a12 hE12 => ?_
  clear hK K e14
  clear hE10 a10
  refine wpList_val hE12 36 rfl rfl fun K hK => ?_
  have e37 := hE12.get 37 rfl
  go_simp
  refine hK _ _ fun a13 hE13 => ?_
  clear hK K e37
  clear hE12 a12
  refine wpList_nil ?_
  refine hK11 _ _ ?_
  clear hK11
  refine wp_if_f hE13 36 rfl ?_
  refine wp_seq_k fun K14 hK14 => ?_
  refine wp_region_lit ?_
  refine wpList_val hE13 50 rfl rfl fun K hK => ?_
  have e14 := hE13.get 14 rfl
  go_simp
  refine hK _ _ fun a15 hE15 => ?_
  clear hK K e14
  clear hE13 a13
  refine wpList_val hE15 49 rfl rfl fun K hK => ?_
  have e50 := hE15.get 50 rfl
  go_simp
  refine hK _ _ fun a16 hE16 => ?_
  clear hK K e50
  clear hE15 a15
  refine wpList_nil ?_
  refine hK14 _ _ ?_
  clear hK14
  refine wp_if_f hE16 49 rfl ?_
  refine wp_seq_k fun K17 hK17 => ?_
  refine wp_region_lit ?_
  refine wpList_val hE16 56 rfl rfl fun K hK => ?_
  have e14 := hE16.get 14 rfl
  go_simp
  refine hK _ _ fun a18 hE18 => ?_
  clear hK K e14
  clear hE16 a16
  refine wpList_val hE18 55 rfl rfl fun K hK => ?_
  have e56 := hE18.get 56 rfl
  go_simp
  refine hK _ _ fun a19 hE19 => ?_
  clear hK K e56
  clear hE18 a18
  refine wpList_nil ?_
  refine hK17 _ _ ?_
  clear hK17
  refine wp_if_f hE19 55 rfl ?_
  refine wp_seq_k fun K20 hK20 => ?_
  refine wp_region_lit ?_
  refine wpList_val hE19 66 rfl rfl fun K hK => ?_
  have e14 := hE19.get 14 rfl
  go_simp
  refine hK _ _ fun a21 hE21 => ?_
  clear hK K e14
  clear hE19 a19
  refine wpList_val hE21 65 rfl rfl fun K hK => ?_
  have e66 := hE21.get 66 rfl
  go_simp
  refine hK _ _ fun a22 hE22 => ?_
  clear hK K e66
  clear hE21 a21
  refine wpList_nil ?_
  refine hK20 _ _ ?_
  clear hK20
  refine wp_if_f hE22 65 rfl ?_
  refine wp_seq_k fun K23 hK23 => ?_
  refine wp_region_lit ?_
  refine wpList_val hE22 80 rfl rfl fun K hK => ?_
  have e14 := hE22.get 14 rfl
  go_simp
  refine hK _ _ fun a24 hE24 => ?_
  clear hK K e14
  clear hE22 a22
  refine wpList_val hE24 79 rfl rfl fun K hK => ?_
  have e80 := hE24.get 80 rfl
  go_simp
  refine hK _ _ fun a25 hE25 => ?_
  clear hK K e80
  clear hE24 a24
  refine wpList_nil ?_
  refine hK23 _ _ ?_
  clear hK23
  refine wp_if_f hE25 79 rfl ?_
  refine wp_seq_k fun K26 hK26 => ?_
  refine wp_region_lit ?_
  refine wpList_val hE25 112 rfl rfl fun K hK => ?_
  have e14 := hE25.get 14 rfl
  go_simp
  refine hK _ _ fun a27 hE27 => ?_
  clear hK K e14
  clear hE25 a25
  refine wpList_val hE27 111 rfl rfl fun K hK => ?_
  have e112 := hE27.get 112 rfl
  go_simp
  refine hK _ _ fun a28 hE28 => ?_
  clear hK K e112
  clear hE27 a27
  refine wpList_nil ?_
  refine hK26 _ _ ?_
  clear hK26
  refine wp_if_f hE28 111 rfl ?_
  refine wp_seq_k fun K29 hK29 => ?_
  refine wp_region_lit ?_
  refine wpList_val hE28 121 rfl rfl fun K hK => ?_
  have e14 := hE28.get 14 rfl
  go_simp
  refine hK _ _ fun a30 hE30 => ?_
  clear hK K e14
  clear hE28 a28
  refine wpList_val hE30 120 rfl rfl fun K hK => ?_
  have e121 := hE30.get 121 rfl
  go_simp
  refine hK _ _ fun a31 hE31 => ?_
  clear hK K e121
  clear hE30 a30
  refine wpList_nil ?_
  refine hK29 _ _ ?_
  clear hK29
  refine wp_if_f hE31 120 rfl ?_
  refine wp_seq_k fun K32 hK32 => ?_
  refine wp_region_lit ?_
  refine wpList_val hE31 133 rfl rfl fun K hK => ?_
  have e14 := hE31.get 14 rfl
  go_simp
  refine hK _ _ fun a33 hE33 => ?_
  clear hK K e14
  clear hE31 a31
  refine wpList_val hE33 132 rfl rfl fun K hK => ?_
  have e133 := hE33.get 133 rfl
  go_simp
  refine hK _ _ fun a34 hE34 => ?_
  clear hK K e133
  clear hE33 a33
  refine wpList_nil ?_
  refine hK32 _ _ ?_
  clear hK32
  refine wp_if_f hE34 132 rfl ?_
  refine wp_seq_k fun K35 hK35 => ?_
  refine wp_region_lit ?_
  refine wpList_val hE34 142 rfl rfl fun K hK => ?_
  have e14 := hE34.get 14 rfl
  go_simp
  refine hK _ _ fun a36 hE36 => ?_
  clear hK K e14
  clear hE34 a34
  refine wpList_val hE36 141 rfl rfl fun K hK => ?_
  have e142 := hE36.get 142 rfl
  go_simp
  refine hK _ _ fun a37 hE37 => ?_
  clear hK K e142
  clear hE36 a36
  refine wpList_nil ?_
  refine hK35 _ _ ?_
  clear hK35
  refine wp_if_t hE37 141 rfl ?_
  refine wp_seq_k fun K38 hK38 => ?_
  refine wp_region_lit ?_
  refine wpList_val hE37 143 rfl rfl fun K hK => ?_
  have e1 := hE37.get 1 rfl
  go_simp
  refine hK _ _ fun a39 hE39 => ?_
  clear hK K e1
  clear hE37 a37
  refine wpList_val hE39 144 rfl rfl fun K hK => ?_
  have e143 := hE39.get 143 rfl
  have c1 : w1.cell? ⟨w.heap.size, 1, none⟩ = some (.int .u32 p.sender) := hc1.pk.cell 1
  have c2 : w1.cell? ⟨w.heap.size, 2, none⟩ = some (.int .u32 p.media) := hc1.pk.cell 2
  have hzp : w.heap.size < w1.heap.size := hc1.pk.lt
  go_simp
  refine hK _ _ fun a40 hE40 => ?_
  clear hK K e143
  clear hE39 a39
  refine wpList_val hE40 145 rfl rfl fun K hK => ?_
  have e1 := hE40.get 1 rfl
  go_simp
  refine hK _ _ fun a41 hE41 => ?_
  clear hK K e1
  clear hE40 a40
  refine wpList_val hE41 146 rfl rfl fun K hK => ?_
  have e145 := hE41.get 145 rfl
  go_simp
  refine hK _ _ fun a42 hE42 => ?_
  clear hK K e145
  clear hE41 a41
  refine wpList_val hE42 147 rfl rfl fun K hK => ?_
  have e144 := hE42.get 144 rfl
  have e146 := hE42.get 146 rfl
  go_simp
  refine hK _ _ fun a43 hE43 => ?_
  clear hK K e144 e146
  clear hE42 a42
  refine wpList_val hE43 148 rfl rfl fun K hK => ?_
  have e147 := hE43.get 147 rfl
  go_simp
  refine hK _ _ fun a44 hE44 => ?_
  clear hK K e147
  clear hE43 a43
  refine wpList_val hE44 6 rfl rfl fun K hK => ?_
  have e148 := hE44.get 148 rfl
  go_simp
  refine hK _ _ fun a45 hE45 => ?_
  clear hK K e148
  clear hE44 a44
  clear c1 c2 hzp
  refine wpList_nil ?_
  have ho3 := blk_new w1 187 #[.int .u32 p.sender, .int .u32 p.media, .slice none 0 0] hz1
  have hc3 := hc1.alloc (.cells #[.int .u32 p.sender, .int .u32 p.media, .slice none 0 0] 187)
  have hz3 : (w1.alloc (.cells #[.int .u32 p.sender, .int .u32 p.media, .slice none 0 0] 187)).heap.size = w.heap.size + 2 := by simp [hz1]
  clear hc1 hz1
  generalize w1.alloc (.cells #[.int .u32 p.sender, .int .u32 p.media, .slice none 0 0] 187) = w3 at *
  refine hK38 _ _ ?_
  clear hK38
  refine wp_seq_k fun K46 hK46 => ?_
  refine wp_seq_k fun K47 hK47 => ?_
  refine wp_region_lit ?_
  refine wpList_val hE45 149 rfl rfl fun K hK => ?_
  have e1 := hE45.get 1 rfl
  go_simp
  refine hK _ _ fun a48 hE48 => ?_
  clear hK K e1
  clear hE45 a45
  refine wpList_val hE48 150 rfl rfl fun K hK => ?_
  have e149 := hE48.get 149 rfl
  have cf : w3.cell? ⟨w.heap.size, 15, none⟩ = some (.slice A (l.length : Nat) cc) := (hc3.pk.cell 15).trans hfl
  have hzp : w.heap.size < w3.heap.size := hc3.pk.lt
  go_simp
  refine hK _ _ fun a49 hE49 => ?_
  clear hK K e149
  clear hE48 a48
  clear cf hzp hfl
  refine wpList_val hE49 151 rfl rfl fun K hK => ?_
  have e150 := hE49.get 150 rfl
  go_simp
  refine hK _ _ fun a50 hE50 => ?_
  clear hK K e150
  clear hE49 a49
  refine wpList_val hE50 152 rfl rfl fun K hK => ?_
  go_simp
  refine hK _ _ fun a51 hE51 => ?_
  clear hK K
  clear hE50 a50
  refine wpList_nil ?_
  refine hK47 _ _ ?_
  clear hK47
  refine wp_block ?_
  refine wp_loop_up l.length (fun k a w' => ∃ A2 c2, Env 229 [(6, .pointer (some ⟨w.heap.size + 1, 0, none⟩)), (150, .slice A (l.length : Nat) cc), (151, .int .i64 (l.length : Nat)), (152, .int .i64 (k : Nat))] a ∧ BltC p w w' ∧ Blk w' (w.heap.size + 1) 187 #[.int .u32 p.sender, .int .u32 p.media, .slice A2 k c2] ∧ w'.ownsRow (w.heap.size + 2) 188 3 (.slice A2 k c2) k ((l.take k).flatMap Slc.cells) ∧ w.heap.size + 2 ≤ w'.heap.size) ⟨none, 0, hE51.keep ⟨hE51.get 6 rfl, hE51.get 150 rfl, hE51.get 151 rfl, hE51.get 152 rfl, trivial⟩, hc3, ho3, World.ownsRow_nil _ _ _ _, by omega⟩ ?_
  clear hc3 ho3 hz3 hE51 a51
  intro k a2 w2 hkl ⟨A2, c2, hE2, hC2, ho2, hown2, hz2⟩ K hK
  by_cases hlt : k < l.length
  case pos =>
    obtain ⟨b1, off, rfl, hbB⟩ := hr.addr (by omega) (by omega)
    have hrw := hr.below hC2.below
    obtain ⟨r, hrk⟩ : ∃ r, r = l[k] := ⟨_, rfl⟩
    have e0 := hrw.at2 (slc_cells_len l) k 0 hlt (by omega) (v := .int .u16 r.first) (by rw [hrk]; rfl)
    have e1 := hrw.at2 (slc_cells_len l) k 1 hlt (by omega) (v := .int .u16 r.number) (by rw [hrk]; rfl)
    have e2 := hrw.at2 (slc_cells_len l) k 2 hlt (by omega) (v := .int .u8 r.pic) (by rw [hrk]; rfl)
    simp only [Nat.add_zero] at e0
    have Hrk := Lib.hid hrk
    clear hrk hr hrw
    obtain ⟨f0, f1, f2⟩ := r
    simp only at e0 e1 e2
    have hi1 : (k : Int) < (l.length : Int) := by omega
    have hi0 : (0 : Int) ≤ (k : Int) := by omega
    have hw1 : IntKind.i64.wrap ((k : Int) + 1) = (k : Int) + 1 := IntWalk.i64_in _ (by omega)
    have hzb : b1 < w2.heap.size := by omega
    refine wp_seq_k fun K52 hK52 => ?_
    refine wp_region_lit ?_
    refine wpList_val hE2 153 rfl rfl fun K hK => ?_
    have e151 := hE2.get 151 rfl
    have e152 := hE2.get 152 rfl
    go_simp
    refine hK _ _ fun a53 hE53 => ?_
    clear hK K e151 e152
    clear hE2 a2
    refine wpList_nil ?_
    refine hK52 _ _ ?_
    clear hK52
    refine wp_seq_k fun K54 hK54 => ?_
    refine wp_if_t hE53 153 rfl ?_
    refine wp_skip ?_
    refine hK54 _ _ ?_
    clear hK54
    refine wp_seq_k fun K55 hK55 => ?_
    refine wp_block ?_
    refine wp_seq_k fun K56 hK56 => ?_
    refine wp_region_lit ?_
    refine wpList_val hE53 154 rfl rfl fun K hK => ?_
    have e150 := hE53.get 150 rfl
    have e152 := hE53.get 152 rfl
    go_simp
    refine hK _ _ fun a57 hE57 => ?_
    clear hK K e150 e152
    clear hE53 a53
    refine wpList_val hE57 155 rfl rfl fun K hK => ?_
    have e154 := hE57.get 154 rfl
    go_simp
    refine hK _ _ fun a58 hE58 => ?_
    clear hK K e154
    clear hE57 a57
    refine wpList_val hE58 8 rfl rfl fun K hK => ?_
    go_simp
    refine hK _ _ fun a59 hE59 => ?_
    clear hK K
    clear hE58 a58
    refine wpList_none rfl fun K hK => ?_
    have e8 := hE59.get 8 rfl
    have e155 := hE59.get 155 rfl
    go_simp
    refine hK undef _ ?_
    clear hK K e8 e155
    refine wpList_nil ?_
    refine hK56 _ _ ?_
    clear hK56
    have hx := blk_new w2 101 #[.int .u16 f0, .int .u16 f1, .int .u8 f2] rfl
    have hC3 := hC2.alloc (.cells #[.int .u16 f0, .int .u16 f1, .int .u8 f2] 101)
    have ho3 := ho2.alloc (.cells #[.int .u16 f0, .int .u16 f1, .int .u8 f2] 101)
    have hown3 := hown2.alloc (.cells #[.int .u16 f0, .int .u16 f1, .int .u8 f2] 101)
    have hne3 : (Value.slice A2 k c2).ownBlock ≠ some w2.heap.size := fun e => by have := (hown2.lt _ e).2; omega
    clear e0 e1 e2 hC2 ho2 hown2
    generalize w2.alloc (.cells #[.int .u16 f0, .int .u16 f1, .int .u8 f2] 101) = w3 at *
    refine builtR31 p w w3 _ w2.heap.size p.sender p.media f0 f1 f2 A2 k c2 _ (by omega) hz2 (hE59.keep ⟨hE59.get 6 rfl, hE59.get 8 rfl, hE59.get 150 rfl, hE59.get 151 rfl, hE59.get 152 rfl, trivial⟩) hC3 hx ho3 hown3 hne3 _ fun a5 w5 g5 cap5 hE5 hC5 ho5 hown5 => ?_
    clear hE59 a59
    refine hK55 _ _ ?_
    clear hK55
    refine wp_region_lit ?_
    refine wpList_val hE5 172 rfl rfl fun K hK => ?_
    have e152 := hE5.get 152 rfl
    go_simp
    refine hK _ _ fun a61 hE61 => ?_
    clear hK K e152
    clear hE5 a5
    refine wpList_val hE61 152 rfl rfl fun K hK => ?_
    have e172 := hE61.get 172 rfl
    go_simp
    refine hK _ _ fun a62 hE62 => ?_
    clear hK K e172
    clear hE61 a61
    refine wpList_nil ?_
    have et : (l.take (k + 1)).flatMap Slc.cells = (l.take k).flatMap Slc.cells ++ (⟨f0, f1, f2⟩ : Slc).cells := by rw [flat_take_succ _ _ _ hlt, Hrk.out]
    exact hK _ _ hlt ⟨_, _, hE62.keep ⟨hE62.get 6 rfl, hE62.get 150 rfl, hE62.get 151 rfl, (hE62.get 152 rfl).trans (congrArg some (by go_num)), trivial⟩, hC5, ho5, own_eq hown5 rfl (by rw [et]; rfl), ho5.lt⟩
  case neg =>
    obtain rfl : k = l.length := by omega
    have hi1 : ¬ (l.length : Int) < (l.length : Int) := by omega
    refine wp_seq_k fun K63 hK63 => ?_
    refine wp_region_lit ?_
    refine wpList_val hE2 153 rfl rfl fun K hK => ?_
    have e151 := hE2.get 151 rfl
    have e152 := hE2.get 152 rfl
    go_simp
    refine hK _ _ fun a64 hE64 => ?_
    clear hK K e151 e152
    clear hE2 a2
    refine wpList_nil ?_
    refine hK63 _ _ ?_
    clear hK63
    refine wp_seq_k fun K65 hK65 => ?_
    refine wp_if_f hE64 153 rfl ?_
    refine wp_exit ?_
    refine hK46 _ _ ?_
    clear hK46
    refine wp_seq_k fun K66 hK66 => ?_
    refine wp_region_lit ?_
    refine wpList_val hE64 173 rfl rfl fun K hK => ?_
    have e6 := hE64.get 6 rfl
    go_simp
    refine hK _ _ fun a67 hE67 => ?_
    clear hK K e6
    clear hE64 a64
    refine wpList_val hE67 174 rfl rfl fun K hK => ?_
    have e173 := hE67.get 173 rfl
    go_simp
    refine hK _ _ fun a68 hE68 => ?_
    clear hK K e173
    clear hE67 a67
    refine wpList_val hE68 2 rfl rfl fun K hK => ?_
    have e174 := hE68.get 174 rfl
    go_simp
    refine hK _ _ fun a69 hE69 => ?_
    clear hK K e174
    clear hE68 a68
    refine wpList_nil ?_
    refine hK66 _ _ ?_
    clear hK66
    refine wp_ret ?_
    simp only [Exit.inBlock, Exit.then]
    refine bodyPost_ret (v := .iface 184 (.pointer (some ⟨w.heap.size + 1, 0, none⟩))) (by simp [results, Tryz.results29, go_sem, hE69.get 2 rfl]) hE69.defers ⟨_, _, rfl, ho2, by omega, own_base (own_eq hown2 rfl (by rw [List.take_length])) (by omega), hC2.below⟩

theorem elemB11 : Elem Tryz.prog 190 194 (.agg #[.int .u32 0, .int .u8 0]) 2 8 := ⟨Tryz.underlying190, by kernel_rfl, rfl, by omega, by omega⟩
set_option maxHeartbeats 1000000 in
set_option maxRecDepth 100000 in
theorem builtR39 (p : Pkt) (w w3 : World) (a : Act) (x : Nat) (s m f0 f1 : Int) (A : Option Addr) (j c : Nat) (xs : List Value) (hj : j ≤ 2147483647) (hx2 : w.heap.size + 2 ≤ x)
    {A0 : Option Addr} {len c0 j0 : Nat} (hE : Env 229 [(9, .pointer (some ⟨w.heap.size + 1, 0, none⟩)), (11, .pointer (some ⟨x, 0, none⟩)), (184, .slice A0 (len : Nat) c0), (185, .int .i64 (len : Nat)), (186, .int .i64 (j0 : Nat))] a) (hc : BltC p w w3) (hx : Blk w3 x 104 #[.int .u32 f0, .int .u8 f1]) (ho : Blk w3 (w.heap.size + 1) 192 #[.int .u32 s, .int .u32 m, .slice A j c]) (hown : w3.ownsRow (w.heap.size + 2) 194 2 (.slice A j c) j xs) (hxo : (Value.slice A j c).ownBlock ≠ some x) (Q : Exit → Act → World → Prop)
    (hQ : ∀ a' w' g' cap', Env 229 [(9, .pointer (some ⟨w.heap.size + 1, 0, none⟩)), (184, .slice A0 (len : Nat) c0), (185, .int .i64 (len : Nat)), (186, .int .i64 (j0 : Nat))] a' → BltC p w w' → Blk w' (w.heap.size + 1) 192 #[.int .u32 s, .int .u32 m, .slice (some ⟨g', 0, none⟩) (j + 1) cap'] → w'.ownsRow (w.heap.size + 2) 194 2 (.slice (some ⟨g', 0, none⟩) (j + 1) cap') (j + 1) (xs ++ #[.int .u32 f0, .int .u8 f1].toList) → Q .normal a' w') :
    (builtR 39).wp Tryz.prog Q a w3 := by
  conv => arg 2; whnf
  refine wp_region_mid (n := 229) [(11, 10), (14, 10), (14, 11)] (by kernel_rfl) (by kernel_rfl) (by kernel_rfl) (by kernel_rfl) hE.size
    [11, 14] (fun w' => Blk w' (w.heap.size + 1) 192 #[.int .u32 s, .int .u32 m, .slice A j c] ∧ w'.ownsRow (w.heap.size + 2) 194 2 (.slice A j c) j xs)
    (fun w' => BltC p w w' ∧ Blk w' x 104 #[.int .u32 f0, .int .u8 f1])
    (fun i v w' => match i with
      | 0 => v = .pointer (some ⟨w.heap.size + 1, 0, none⟩)
      | 1 => v = .pointer (some ⟨w.heap.size + 1, 0, none⟩)
      | 2 => v = .pointer (some ⟨w.heap.size + 1, 0, none⟩)
      | 3 => v = .pointer (some ⟨w.heap.size + 1, 2, none⟩)
      | 4 => v = .slice A j c
      | 5 => v = .pointer (some ⟨x, 0, none⟩)
      | 6 => v = .int .u32 f0
      | 7 => v = .pointer (some ⟨x, 1, none⟩)
      | 8 => v = .int .u8 f1
      | 9 => v = .agg #[.int .u32 f0, .int .u8 f1]
      | 10 => ∃ g10, Blk w' g10 194 #[.int .u32 f0, .int .u8 f1] ∧ w.heap.size + 2 ≤ g10 ∧ v = .slice (some ⟨g10, 0, none⟩) 1 1
      | 11 => ∃ g11 cap11, w'.ownsRow (w.heap.size + 2) 194 2 (.slice (some ⟨g11, 0, none⟩) (j + 1) cap11) (j + 1) (xs ++ #[.int .u32 f0, .int .u8 f1].toList) ∧ Blk w' (w.heap.size + 1) 192 #[.int .u32 s, .int .u32 m, .slice A j c] ∧ v = .slice (some ⟨g11, 0, none⟩) (j + 1) cap11
      | 12 => v = .pointer (some ⟨w.heap.size + 1, 0, none⟩)
      | 13 => v = .pointer (some ⟨w.heap.size + 1, 2, none⟩)
      | 14 => ∃ g14 cap14, w'.ownsRow (w.heap.size + 2) 194 2 (.slice (some ⟨g14, 0, none⟩) (j + 1) cap14) (j + 1) (xs ++ #[.int .u32 f0, .int .u8 f1].toList) ∧ Blk w' (w.heap.size + 1) 192 #[.int .u32 s, .int .u32 m, .slice (some ⟨g14, 0, none⟩) (j + 1) cap14]
      | _ => True)
    (fun i w1 w2 => match i with
      | 10 => ∃ o, w2 = w1.alloc o
      | 11 => ∃ row, w1.grownBy w2 row ∧ ∀ q, row = some q → w.heap.size + 2 ≤ q
      | 14 => w1.grownBy w2 (some (w.heap.size + 1))
      | _ => w2 = w1)
    (⟨ho.drew, own_drew hown⟩) ?hC0 ?hKeep ?hKeepI ?hDuty ?hEnd
  case hC0 => exact ⟨hc.drew, hx.drew⟩
  case hKeep =>
    intro i k v w1 w2 hne hnd hw hC0 hT hR
    match i, hT with
    | 10, hT =>
      match k, hR with
      | 11, _ => exact waits_no (by kernel_rfl) hw
      | 14, _ => exact waits_no (by kernel_rfl) hw
      | 10, _ => exact absurd rfl hne
      | 0, hR | 1, hR | 2, hR | 3, hR | 4, hR | 5, hR | 6, hR | 7, hR | 8, hR | 9, hR | 12, hR | 13, hR => exact hR
      | _ + 15, _ => trivial
    | 11, hT =>
      match k, hR with
      | 10, _ => exact absurd (by decide) hnd
      | 14, _ => exact waits_no (by kernel_rfl) hw
      | 11, _ => exact absurd rfl hne
      | 0, hR | 1, hR | 2, hR | 3, hR | 4, hR | 5, hR | 6, hR | 7, hR | 8, hR | 9, hR | 12, hR | 13, hR => exact hR
      | _ + 15, _ => trivial
    | 14, hT =>
      match k, hR with
      | 10, _ => exact absurd (by decide) hnd
      | 11, _ => exact absurd (by decide) hnd
      | 14, _ => exact absurd rfl hne
      | 0, hR | 1, hR | 2, hR | 3, hR | 4, hR | 5, hR | 6, hR | 7, hR | 8, hR | 9, hR | 12, hR | 13, hR => exact hR
      | _ + 15, _ => trivial
    | 0, hT | 1, hT | 2, hT | 3, hT | 4, hT | 5, hT | 6, hT | 7, hT | 8, hT | 9, hT | 12, hT | 13, hT => subst hT; exact hR
    | _ + 15, hT => subst hT; exact hR
  case hKeepI =>
    intro i w1 w2 hb hC0 hT hI
    match i, hT with
    | 10, hT =>
      obtain ⟨o, rfl⟩ := hT
      exact ⟨hI.1.alloc _, hI.2.alloc _⟩
    | 11, _ => exact absurd (by decide) hb
    | 14, _ => exact absurd (by decide) hb
    | 0, hT | 1, hT | 2, hT | 3, hT | 4, hT | 5, hT | 6, hT | 7, hT | 8, hT | 9, hT | 12, hT | 13, hT => subst hT; exact hI
    | _ + 15, hT => subst hT; exact hI
  case hDuty =>
    refine ⟨?_, ?_, ?_, ?_, ?_, ?_, ?_, ?_, ?_, ?_, ?_, ?_, ?_, ?_, ?_, trivial⟩
    · refine duty_plain rfl fun vs a w4 hO hI0 hC0 hD K hK => ?_
      have e9 : a.tmps[9]? = some (.pointer (some ⟨w.heap.size + 1, 0, none⟩)) := (hO 9 (by kernel_rfl)).trans (hE.get 9 rfl)
      clear hD hO hI0
      go_simp
      exact hK _ _ hC0 rfl rfl
    · refine duty_plain rfl fun vs a w4 hO hI0 hC0 hD K hK => ?_
      have e9 : a.tmps[9]? = some (.pointer (some ⟨w.heap.size + 1, 0, none⟩)) := (hO 9 (by kernel_rfl)).trans (hE.get 9 rfl)
      clear hD hO hI0
      go_simp
      exact hK _ _ hC0 rfl rfl
    · refine duty_plain rfl fun vs a w4 hO hI0 hC0 hD K hK => ?_
      have s191 : a.tmps[191]? = some (vs 1) := (hD.1 rfl).1
      have r1 : vs 1 = .pointer (some ⟨w.heap.size + 1, 0, none⟩) := (hD.1 rfl).2
      rw [r1] at s191
      clear r1
      clear hD hO hI0
      go_simp
      exact hK _ _ hC0 rfl rfl
    · refine duty_plain rfl fun vs a w4 hO hI0 hC0 hD K hK => ?_
      have s192 : a.tmps[192]? = some (vs 2) := (hD.1 rfl).1
      have r2 : vs 2 = .pointer (some ⟨w.heap.size + 1, 0, none⟩) := (hD.1 rfl).2
      rw [r2] at s192
      clear r2
      clear hD hO hI0
      go_simp
      exact hK _ _ hC0 rfl rfl
    · refine duty_plain rfl fun vs a w4 hO hI0 hC0 hD K hK => ?_
      have s193 : a.tmps[193]? = some (vs 3) := (hD.1 rfl).1
      have r3 : vs 3 = .pointer (some ⟨w.heap.size + 1, 2, none⟩) := (hD.1 rfl).2
      rw [r3] at s193
      clear r3
      have hI := hI0 (by kernel_rfl)
      have co : w4.cell? ⟨w.heap.size + 1, 2, none⟩ = some (.slice A j c) := hI.1.cell 2
      have hzo : w.heap.size + 1 < w4.heap.size := hI.1.lt
      clear hD hO hI0
      go_simp
      exact hK _ _ hC0 rfl rfl
    · refine duty_plain rfl fun vs a w4 hO hI0 hC0 hD K hK => ?_
      have e11 : a.tmps[11]? = some (.pointer (some ⟨x, 0, none⟩)) := (hO 11 (by kernel_rfl)).trans (hE.get 11 rfl)
      clear hD hO hI0
      go_simp
      exact hK _ _ hC0 rfl rfl
    · refine duty_plain rfl fun vs a w4 hO hI0 hC0 hD K hK => ?_
      have s195 : a.tmps[195]? = some (vs 5) := (hD.1 rfl).1
      have r5 : vs 5 = .pointer (some ⟨x, 0, none⟩) := (hD.1 rfl).2
      rw [r5] at s195
      clear r5
      clear hD hO hI0
      have ce : w4.cell? ⟨x, 0, none⟩ = some (.int .u32 f0) := hC0.2.cell 0
      have hzx : x < w4.heap.size := hC0.2.lt
      go_simp
      exact hK _ _ hC0 rfl rfl
    · refine duty_plain rfl fun vs a w4 hO hI0 hC0 hD K hK => ?_
      have e11 : a.tmps[11]? = some (.pointer (some ⟨x, 0, none⟩)) := (hO 11 (by kernel_rfl)).trans (hE.get 11 rfl)
      clear hD hO hI0
      go_simp
      exact hK _ _ hC0 rfl rfl
    · refine duty_plain rfl fun vs a w4 hO hI0 hC0 hD K hK => ?_
      have s197 : a.tmps[197]? = some (vs 7) := (hD.1 rfl).1
      have r7 : vs 7 = .pointer (some ⟨x, 1, none⟩) := (hD.1 rfl).2
      rw [r7] at s197
      clear r7
      clear hD hO hI0
      have ce : w4.cell? ⟨x, 1, none⟩ = some (.int .u8 f1) := hC0.2.cell 1
      have hzx : x < w4.heap.size := hC0.2.lt
      go_simp
      exact hK _ _ hC0 rfl rfl
    · refine duty_plain rfl fun vs a w4 hO hI0 hC0 hD K hK => ?_
      have s196 : a.tmps[196]? = some (vs 6) := (hD.1 rfl).1
      have r6 : vs 6 = .int .u32 f0 := (hD.1 rfl).2
      rw [r6] at s196
      clear r6
      have s198 : a.tmps[198]? = some (vs 8) := (hD.2.1 rfl).1
      have r8 : vs 8 = .int .u8 f1 := (hD.2.1 rfl).2
      rw [r8] at s198
      clear r8
      clear hD hO hI0
      go_simp
      exact hK _ _ hC0 rfl rfl
    · refine duty_plain rfl fun vs a w4 hO hI0 hC0 hD K hK => ?_
      have s199 : a.tmps[199]? = some (vs 9) := (hD.1 rfl).1
      have r9 : vs 9 = .agg #[.int .u32 f0, .int .u8 f1] := (hD.1 rfl).2
      rw [r9] at s199
      clear r9
      clear hD hO hI0
      have hzz : w.heap.size + 2 ≤ w4.heap.size := by have := hC0.2.lt; omega
      go_simp
      exact hK _ _ ⟨hC0.1.alloc _, hC0.2.alloc _⟩ ⟨_, blk_new _ _ _ rfl, by have := hC0.1.below.size; omega, rfl⟩ ⟨_, rfl⟩
    · refine duty_plain rfl fun vs a w4 hO hI0 hC0 hD K hK => ?_
      have s194 : a.tmps[194]? = some (vs 4) := (hD.1 rfl).1
      have r4 : vs 4 = .slice A j c := (hD.1 rfl).2
      rw [r4] at s194
      clear r4
      have s200 : a.tmps[200]? = some (vs 10) := (hD.2.1 rfl).1
      have q10 : ∃ g10, Blk w4 g10 194 #[.int .u32 f0, .int .u8 f1] ∧ w.heap.size + 2 ≤ g10 ∧ vs 10 = .slice (some ⟨g10, 0, none⟩) 1 1 := (hD.2.1 rfl).2
      obtain ⟨g10, p10_0, p10_1, r10⟩ := q10
      rw [r10] at s200
      clear r10
      have hI := hI0 (by kernel_rfl)
      clear hD hO hI0
      refine wp_app_src (.tmp 194) (.tmp 200) _ rfl elemB11 (w.heap.size + 2) _ j xs w4.heap.size _ 1 1 #[.int .u32 f0, .int .u8 f1].toList hI.2 (by simp [Act.eval, s194]) (by simp [Act.eval, s200]) (blk_reads p10_0 2 1 rfl) (by intro u hu; simp at hu; rcases hu with rfl | rfl <;> rfl) (by omega) (by have := p10_0.lt; omega) (by omega) fun g7 cap7 w7 hown7 hg7 hat7 => ?_
      exact hK _ _ ⟨hC0.1.grown hg7 (fun q hq => by have := (hI.2.lt q hq).1; omega), hC0.2.grown hg7 (fun e => hxo e.symm)⟩ ⟨g7, cap7, hown7, hI.1.grown hg7 (fun e => by have := (hI.2.lt _ e.symm).1; omega), rfl⟩ ⟨_, hg7, fun q hq => (hI.2.lt q hq).1⟩
    · refine duty_plain rfl fun vs a w4 hO hI0 hC0 hD K hK => ?_
      have s190 : a.tmps[190]? = some (vs 0) := (hD.1 rfl).1
      have r0 : vs 0 = .pointer (some ⟨w.heap.size + 1, 0, none⟩) := (hD.1 rfl).2
      rw [r0] at s190
      clear r0
      clear hD hO hI0
      go_simp
      exact hK _ _ hC0 rfl rfl
    · refine duty_plain rfl fun vs a w4 hO hI0 hC0 hD K hK => ?_
      have s202 : a.tmps[202]? = some (vs 12) := (hD.1 rfl).1
      have r12 : vs 12 = .pointer (some ⟨w.heap.size + 1, 0, none⟩) := (hD.1 rfl).2
      rw [r12] at s202
      clear r12
      clear hD hO hI0
      go_simp
      exact hK _ _ hC0 rfl rfl
    · refine duty_plain rfl fun vs a w4 hO hI0 hC0 hD K hK => ?_
      have s203 : a.tmps[203]? = some (vs 13) := (hD.1 rfl).1
      have r13 : vs 13 = .pointer (some ⟨w.heap.size + 1, 2, none⟩) := (hD.1 rfl).2
      rw [r13] at s203
      clear r13
      have s201 : a.tmps[201]? = some (vs 11) := (hD.2.1 rfl).1
      have q11 : ∃ g11 cap11, w4.ownsRow (w.heap.size + 2) 194 2 (.slice (some ⟨g11, 0, none⟩) (j + 1) cap11) (j + 1) (xs ++ #[.int .u32 f0, .int .u8 f1].toList) ∧ Blk w4 (w.heap.size + 1) 192 #[.int .u32 s, .int .u32 m, .slice A j c] ∧ vs 11 = .slice (some ⟨g11, 0, none⟩) (j + 1) cap11 := (hD.2.1 rfl).2
      obtain ⟨g11, cap11, p11_0, p11_1, r11⟩ := q11
      rw [r11] at s201
      clear r11
      clear hD hO hI0
      have co : w4.cell? ⟨w.heap.size + 1, 2, none⟩ = some (.slice A j c) := p11_1.cell 2
      have fo : w4.frozen? ⟨w.heap.size + 1, 2, none⟩ = false := p11_1.frozen 2
      have hzo : w.heap.size + 1 < w4.heap.size := p11_1.lt
      go_simp
      exact hK undef _ ⟨hC0.1.grown (grownBy_setCell _ _ _) (fun q hq => by injection hq with hq; simp at hq; omega), hC0.2.far (p := ⟨w.heap.size + 1, 2, none⟩) (by simp; omega) _⟩ ⟨_, _, own_setCell p11_0 (fun e => by have := (p11_0.lt _ e).1; simp at this) _, p11_1.set_ 2 _⟩ (grownBy_setCell _ _ _)
  case hEnd =>
    intro vs a' w' hC hM hR2
    obtain ⟨g7, cap7, h1, h2⟩ := hR2 14 (by decide) (by simp)
    exact hQ a' w' g7 cap7 (Env.mk' (hM.size.trans hE.size) (hM.defers.trans hE.defers) ⟨(hM.old 9 (by kernel_rfl)).trans (hE.get 9 rfl), (hM.old 184 (by kernel_rfl)).trans (hE.get 184 rfl), (hM.old 185 (by kernel_rfl)).trans (hE.get 185 rfl), (hM.old 186 (by kernel_rfl)).trans (hE.get 186 rfl), trivial⟩) hC.1 h2 h1

set_option maxHeartbeats 4000000 in
set_option maxRecDepth 100000 in
theorem builtL_11 (p : Pkt) (w : World) (hk : p.kind = 11) (hr : p.entries.Lies w w.heap.size 2 Ent.cells) (hn : p.entries.l.length ≤ 2147483646) :
    Calls Tryz.prog 29 #[.agg p.cells] w fun e w' =>
      ∃ g v, e = .returned (.iface 189 (.pointer (some ⟨g, 0, none⟩))) ∧ Blk w' g 192 #[.int .u32 p.sender, .int .u32 p.media, v] ∧ w.heap.size ≤ g ∧ w'.ownsRow w.heap.size 194 2 v p.entries.l.length (p.entries.l.flatMap Ent.cells) ∧ Below w.heap.size w w' := by
  refine calls_of_wp Tryz.func29 rfl ?_
  rw [Tryz.ntmps29]
  have hE0 : Env 229 [(0, .agg p.cells)] ⟨#[.agg p.cells] ++ Array.replicate (229 - (#[Value.agg p.cells] : Array Value).size) undef, []⟩ := Env.enter _ (by simp) ⟨by simp, trivial⟩
  generalize (⟨#[.agg p.cells] ++ Array.replicate (229 - (#[Value.agg p.cells] : Array Value).size) undef, []⟩ : Act) = a0 at hE0 ⊢
  have Hk := Lib.hid hk
  clear hk
  unfold Sl.Lies at hr
  obtain ⟨A, hA⟩ : ∃ A, A = p.entries.A := ⟨_, rfl⟩
  obtain ⟨l, hl⟩ : ∃ l, l = p.entries.l := ⟨_, rfl⟩
  obtain ⟨cc, hcc⟩ : ∃ cc, cc = p.entries.c := ⟨_, rfl⟩
  have hfl : p.cells[16]? = some (.slice A (l.length : Nat) cc) := by rw [hA, hl, hcc]; rfl
  rw [← hA, ← hl] at hr
  rw [← hl] at hn ⊢
  clear hA hl hcc
  refine wp_seq_k fun K1 hK1 => ?_
  refine wp_region_lit ?_
  refine wpList_val hE0 1 rfl rfl fun K hK => ?_
  have e0 := hE0.get 0 rfl
  go_simp
  refine hK _ _ fun a2 hE2 => ?_
  clear hK K e0
  clear hE0 a0
  refine wpList_val hE2 2 rfl rfl fun K hK => ?_
  go_simp
  refine hK _ _ fun a3 hE3 => ?_
  clear hK K
  clear hE2 a2
  refine wpList_nil ?_
  have hc0 : BltC p w (w.alloc (.cells p.cells 53)) := ⟨blk_new _ _ _ rfl, (Below.refl _ _).alloc (Nat.le_refl _) _⟩
  have hz0 : (w.alloc (.cells p.cells 53)).heap.size = w.heap.size + 1 := by simp
  have hgoal : ∀ w1, BltC p w w1 → w1.heap.size = w.heap.size + 1 → K1 a3 w1 := ?_
  · exact hgoal _ hc0 hz0
  clear hc0 hz0
  intro w1 hc1 hz1
  refine hK1 _ _ ?_
  clear hK1
  refine wp_seq_k fun K4 hK4 => ?_
  refine wp_seq_k fun K5 hK5 => ?_
  refine wp_region_lit ?_
  refine wpList_val hE3 13 rfl rfl fun K hK => ?_
  have e1 := hE3.get 1 rfl
  go_simp
  refine hK _ _ fun a6 hE6 => ?_
  clear hK K e1
  clear hE3 a3
  refine wpList_val hE6 14 rfl rfl fun K hK => ?_
  have e13 := hE6.get 13 rfl
  have c0 : w1.cell? ⟨w.heap.size, 0, none⟩ = some (.int .i64 11) := (hc1.pk.cell 0).trans (by rw [← Hk.out]; rfl)
  have hzp : w.heap.size < w1.heap.size := hc1.pk.lt
  go_simp
  refine hK _ _ fun a7 hE7 => ?_
  clear hK K e13
  clear hE6 a6
  clear c0 hzp
  refine wpList_nil ?_
  refine hK5 _ _ ?_
  clear hK5
  refine wp_block ?_
  refine wp_seq_k fun K8 hK8 => ?_
  refine wp_region_lit ?_
  refine wpList_val hE7 16 rfl rfl fun K hK => ?_
  have e14 := hE7.get 14 rfl
  go_simp
  refine hK _ _ fun a9 hE9 => ?_
  clear hK K e14
  clear hE7 a7
  refine wpList_val hE9 15 rfl rfl fun K hK => ?_
  have e16 := hE9.get 16 rfl
  go_simp
  refine hK _ _ fun a10 hE10 => ?_
  clear hK K e16
  clear hE9 a9
  refine wpList_nil ?_
  refine hK8 _ _ ?_
  clear hK8
  refine wp_if_f hE10 15 rfl ?_
  refine wp_seq_k fun K11 hK11 => ?_
  refine wp_region_lit ?_
  refine wpList_val hE10 37 rfl rfl fun K hK => ?_
  have e14 := hE10.get 14 rfl
  go_simp
  refine hK _ _ fun a12 hE12 => ?_
  clear hK K e14
  clear hE10 a10
  refine wpList_val hE12 36 rfl rfl fun K hK => ?_
  have e37 := hE12.get 37 rfl
  go_simp
  refine hK _ _ fun a13 hE13 => ?_
  clear hK K e37
  clear hE12 a12
  refine wpList_nil ?_
  refine hK11 _ _ ?_
  clear hK11
  refine wp_if_f hE13 36 rfl ?_
  refine wp_seq_k fun K14 hK14 => ?_
  refine wp_region_lit ?_
  refine wpList_val hE13 50 rfl rfl fun K hK => ?_
  have e14 := hE13.get 14 rfl
  go_simp
  refine hK _ _ fun a15 hE15 => ?_
  clear hK K e14
  clear hE13 a13
  refine wpList_val hE15 49 rfl rfl fun K hK => ?_
  have e50 := hE15.get 50 rfl
  go_simp
  refine hK _ _ fun a16 hE16 => ?_
  clear hK K e50
  clear hE15 a15
  refine wpList_nil ?_
  refine hK14 _ _ ?_
  clear hK14
  refine wp_if_f hE16 49 rfl ?_
  refine wp_seq_k fun K17 hK17 => ?_
  refine wp_region_lit ?_
  refine wpList_val hE16 56 rfl rfl fun K hK => ?_
  have e14 := hE16.get 14 rfl
  go_simp
  refine hK _ _ fun a18 hE18 => ?_
  clear hK K e14
  clear hE16 a16
  refine wpList_val hE18 55 rfl rfl fun K hK => ?_
  have e56 := hE18.get 56 rfl
  go_simp
  refine hK _ _ fun a19 hE19 => ?_
  clear hK K e56
  clear hE18 a18
  refine wpList_nil ?_
  refine hK17 _ _ ?_
  clear hK17
  refine wp_if_f hE19 55 rfl ?_
  refine wp_seq_k fun K20 hK20 => ?_
  refine wp_region_lit ?_
  refine wpList_val hE19 66 rfl rfl fun K hK => ?_
  have e14 := hE19.get 14 rfl
  go_simp
  refine hK _ _ fun a21 hE21 => ?_
  clear hK K e14
  clear hE19 a19
  refine wpList_val hE21 65 rfl rfl fun K hK => ?_
  have e66 := hE21.get 66 rfl
  go_simp
  refine hK _ _ fun a22 hE22 => ?_
  clear hK K e66
  clear hE21 a21
  refine wpList_nil ?_
  refine hK20 _ _ ?_
  clear hK20
  refine wp_if_f hE22 65 rfl ?_
  refine wp_seq_k fun K23 hK23 => ?_
  refine wp_region_lit ?_
  refine wpList_val hE22 80 rfl rfl fun K hK => ?_
  have e14 := hE22.get 14 rfl
  go_simp
  refine hK _ _ fun a24 hE24 => ?_
  clear hK K e14
  clear hE22 a22
  refine wpList_val hE24 79 rfl rfl fun K hK => ?_
  have e80 := hE24.get 80 rfl
  go_simp
  refine hK _ _ fun a25 hE25 => ?_
  clear hK K e80
  clear hE24 a24
  refine wpList_nil ?_
  refine hK23 _ _ ?_
  clear hK23
  refine wp_if_f hE25 79 rfl ?_
  refine wp_seq_k fun K26 hK26 => ?_
  refine wp_region_lit ?_
  refine wpList_val hE25 112 rfl rfl fun K hK => ?_
  have e14 := hE25.get 14 rfl
  go_simp
  refine hK _ _ fun a27 hE27 => ?_
  clear hK K e14
  clear hE25 a25
  refine wpList_val hE27 111 rfl rfl fun K hK => ?_
  have e112 := hE27.get 112 rfl
  go_simp
  refine hK _ _ fun a28 hE28 => ?_
  clear hK K e112
  clear hE27 a27
  refine wpList_nil ?_
  refine hK26 _ _ ?_
  clear hK26
  refine wp_if_f hE28 111 rfl ?_
  refine wp_seq_k fun K29 hK29 => ?_
  refine wp_region_lit ?_
  refine wpList_val hE28 121 rfl rfl fun K hK => ?_
  have e14 := hE28.get 14 rfl
  go_simp
  refine hK _ _ fun a30 hE30 => ?_
  clear hK K e14
  clear hE28 a28
  refine wpList_val hE30 120 rfl rfl fun K hK => ?_
  have e121 := hE30.get 121 rfl
  go_simp
  refine hK _ _ fun a31 hE31 => ?_
  clear hK K e121
  clear hE30 a30
  refine wpList_nil ?_
  refine hK29 _ _ ?_
  clear hK29
  refine wp_if_f hE31 120 rfl ?_
  refine wp_seq_k fun K32 hK32 => ?_
  refine wp_region_lit ?_
  refine wpList_val hE31 133 rfl rfl fun K hK => ?_
  have e14 := hE31.get 14 rfl
  go_simp
  refine hK _ _ fun a33 hE33 => ?_
  clear hK K e14
  clear hE31 a31
  refine wpList_val hE33 132 rfl rfl fun K hK => ?_
  have e133 := hE33.get 133 rfl
  go_simp
  refine hK _ _ fun a34 hE34 => ?_
  clear hK K e133
  clear hE33 a33
  refine wpList_nil ?_
  refine hK32 _ _ ?_
  clear hK32
  refine wp_if_f hE34 132 rfl ?_
  refine wp_seq_k fun K35 hK35 => ?_
  refine wp_region_lit ?_
  refine wpList_val hE34 142 rfl rfl fun K hK => ?_
  have e14 := hE34.get 14 rfl
  go_simp
  refine hK _ _ fun a36 hE36 => ?_
  clear hK K e14
  clear hE34 a34
  refine wpList_val hE36 141 rfl rfl fun K hK => ?_
  have e142 := hE36.get 142 rfl
  go_simp
  refine hK _ _ fun a37 hE37 => ?_
  clear hK K e142
  clear hE36 a36
  refine wpList_nil ?_
  refine hK35 _ _ ?_
  clear hK35
  refine wp_if_f hE37 141 rfl ?_
  refine wp_seq_k fun K38 hK38 => ?_
  refine wp_region_lit ?_
  refine wpList_val hE37 176 rfl rfl fun K hK => ?_
  have e14 := hE37.get 14 rfl
  go_simp
  refine hK _ _ fun a39 hE39 => ?_
  clear hK K e14
  clear hE37 a37
  refine wpList_val hE39 175 rfl rfl fun K hK => ?_
  have e176 := hE39.get 176 rfl
  go_simp
  refine hK _ _ fun a40 hE40 => ?_
  clear hK K e176
  clear hE39 a39
  refine wpList_nil ?_
  refine hK38 _ _ ?_
  clear hK38
  refine wp_if_t hE40 175 rfl ?_
  refine wp_seq_k fun K41 hK41 => ?_
  refine wp_region_lit ?_
  refine wpList_val hE40 177 rfl rfl fun K hK => ?_
  have e1 := hE40.get 1 rfl
  go_simp
  refine hK _ _ fun a42 hE42 => ?_
  clear hK K e1
  clear hE40 a40
  refine wpList_val hE42 178 rfl rfl fun K hK => ?_
  have e177 := hE42.get 177 rfl
  have c1 : w1.cell? ⟨w.heap.size, 1, none⟩ = some (.int .u32 p.sender) := hc1.pk.cell 1
  have c2 : w1.cell? ⟨w.heap.size, 2, none⟩ = some (.int .u32 p.media) := hc1.pk.cell 2
  have hzp : w.heap.size < w1.heap.size := hc1.pk.lt
  go_simp
  refine hK _ _ fun a43 hE43 => ?_
  clear hK K e177
  clear hE42 a42
  refine wpList_val hE43 179 rfl rfl fun K hK => ?_
  have e1 := hE43.get 1 rfl
  go_simp
  refine hK _ _ fun a44 hE44 => ?_
  clear hK K e1
  clear hE43 a43
  refine wpList_val hE44 180 rfl rfl fun K hK => ?_
  have e179 := hE44.get 179 rfl
  go_simp
  refine hK _ _ fun a45 hE45 => ?_
  clear hK K e179
  clear hE44 a44
  refine wpList_val hE45 181 rfl rfl fun K hK => ?_
  have e178 := hE45.get 178 rfl
  have e180 := hE45.get 180 rfl
  go_simp
  refine hK _ _ fun a46 hE46 => ?_
  clear hK K e178 e180
  clear hE45 a45
  refine wpList_val hE46 182 rfl rfl fun K hK => ?_
  have e181 := hE46.get 181 rfl
  go_simp
  refine hK _ _ fun a47 hE47 => ?_
  clear hK K e181
  clear hE46 a46
  refine wpList_val hE47 9 rfl rfl fun K hK => ?_
  have e182 := hE47.get 182 rfl
  go_simp
  refine hK _ _ fun a48 hE48 => ?_
  clear hK K e182
  clear hE47 a47
  clear c1 c2 hzp
  refine wpList_nil ?_
  have ho3 := blk_new w1 192 #[.int .u32 p.sender, .int .u32 p.media, .slice none 0 0] hz1
  have hc3 := hc1.alloc (.cells #[.int .u32 p.sender, .int .u32 p.media, .slice none 0 0] 192)
  have hz3 : (w1.alloc (.cells #[.int .u32 p.sender, .int .u32 p.media, .slice none 0 0] 192)).heap.size = w.heap.size + 2 := by simp [hz1]
  clear hc1 hz1
  generalize w1.alloc (.cells #[.int .u32 p.sender, .int .u32 p.media, .slice none 0 0] 192) = w3 at *
  refine hK41 _ _ ?_
  clear hK41
  refine wp_seq_k fun K49 hK49 => ?_
  refine wp_seq_k fun K50 hK50 => ?_
  refine wp_region_lit ?_
  refine wpList_val hE48 183 rfl rfl fun K hK => ?_
  have e1 := hE48.get 1 rfl
  go_simp
  refine hK _ _ fun a51 hE51 => ?_
  clear hK K e1
  clear hE48 a48
  refine wpList_val hE51 184 rfl rfl fun K hK => ?_
  have e183 := hE51.get 183 rfl
  have cf : w3.cell? ⟨w.heap.size, 16, none⟩ = some (.slice A (l.length : Nat) cc) := (hc3.pk.cell 16).trans hfl
  have hzp : w.heap.size < w3.heap.size := hc3.pk.lt
  go_simp
  refine hK _ _ fun a52 hE52 => ?_
  clear hK K e183
  clear hE51 a51
  clear cf hzp hfl
  refine wpList_val hE52 185 rfl rfl fun K hK => ?_
  have e184 := hE52.get 184 rfl
  go_simp
  refine hK _ _ fun a53 hE53 => ?_
  clear hK K e184
  clear hE52 a52
  refine wpList_val hE53 186 rfl rfl fun K hK => ?_
  go_simp
  refine hK _ _ fun a54 hE54 => ?_
  clear hK K
  clear hE53 a53
  refine wpList_nil ?_
  refine hK50 _ _ ?_
  clear hK50
  refine wp_block ?_
  refine wp_loop_up l.length (fun k a w' => ∃ A2 c2, Env 229 [(9, .pointer (some ⟨w.heap.size + 1, 0, none⟩)), (184, .slice A (l.length : Nat) cc), (185, .int .i64 (l.length : Nat)), (186, .int .i64 (k : Nat))] a ∧ BltC p w w' ∧ Blk w' (w.heap.size + 1) 192 #[.int .u32 p.sender, .int .u32 p.media, .slice A2 k c2] ∧ w'.ownsRow (w.heap.size + 2) 194 2 (.slice A2 k c2) k ((l.take k).flatMap Ent.cells) ∧ w.heap.size + 2 ≤ w'.heap.size) ⟨none, 0, hE54.keep ⟨hE54.get 9 rfl, hE54.get 184 rfl, hE54.get 185 rfl, hE54.get 186 rfl, trivial⟩, hc3, ho3, World.ownsRow_nil _ _ _ _, by omega⟩ ?_
  clear hc3 ho3 hz3 hE54 a54
  intro k a2 w2 hkl ⟨A2, c2, hE2, hC2, ho2, hown2, hz2⟩ K hK
  by_cases hlt : k < l.length
  case pos =>
    obtain ⟨b1, off, rfl, hbB⟩ := hr.addr (by omega) (by omega)
    have hrw := hr.below hC2.below
    obtain ⟨r, hrk⟩ : ∃ r, r = l[k] := ⟨_, rfl⟩
    have e0 := hrw.at2 (ent_cells_len l) k 0 hlt (by omega) (v := .int .u32 r.ssrc) (by rw [hrk]; rfl)
    have e1 := hrw.at2 (ent_cells_len l) k 1 hlt (by omega) (v := .int .u8 r.n) (by rw [hrk]; rfl)
    simp only [Nat.add_zero] at e0
    have Hrk := Lib.hid hrk
    clear hrk hr hrw
    obtain ⟨f0, f1⟩ := r
    simp only at e0 e1
    have hi1 : (k : Int) < (l.length : Int) := by omega
    have hi0 : (0 : Int) ≤ (k : Int) := by omega
    have hw1 : IntKind.i64.wrap ((k : Int) + 1) = (k : Int) + 1 := IntWalk.i64_in _ (by omega)
    have hzb : b1 < w2.heap.size := by omega
    refine wp_seq_k fun K55 hK55 => ?_
    refine wp_region_lit ?_
    refine wpList_val hE2 187 rfl rfl fun K hK => ?_
    have e185 := hE2.get 185 rfl
    have e186 := hE2.get 186 rfl
    go_simp
    refine hK _ _ fun a56 hE56 => ?_
    clear hK K e185 e186
    clear hE2 a2
    refine wpList_nil ?_
    refine hK55 _ _ ?_
    clear hK55
    refine wp_seq_k fun K57 hK57 => ?_
    refine wp_if_t hE56 187 rfl ?_
    refine wp_skip ?_
    refine hK57 _ _ ?_
    clear hK57
    refine wp_seq_k fun K58 hK58 => ?_
    refine wp_block ?_
    refine wp_seq_k fun K59 hK59 => ?_
    refine wp_region_lit ?_
    refine wpList_val hE56 188 rfl rfl fun K hK => ?_
    have e184 := hE56.get 184 rfl
    have e186 := hE56.get 186 rfl
    go_simp
    refine hK _ _ fun a60 hE60 => ?_
    clear hK K e184 e186
    clear hE56 a56
    refine wpList_val hE60 189 rfl rfl fun K hK => ?_
    have e188 := hE60.get 188 rfl
    go_simp
    refine hK _ _ fun a61 hE61 => ?_
    clear hK K e188
    clear hE60 a60
    refine wpList_val hE61 11 rfl rfl fun K hK => ?_
    go_simp
    refine hK _ _ fun a62 hE62 => ?_
    clear hK K
    clear hE61 a61
    refine wpList_none rfl fun K hK => ?_
    have e11 := hE62.get 11 rfl
    have e189 := hE62.get 189 rfl
    go_simp
    refine hK undef _ ?_
    clear hK K e11 e189
    refine wpList_nil ?_
    refine hK59 _ _ ?_
    clear hK59
    have hx := blk_new w2 104 #[.int .u32 f0, .int .u8 f1] rfl
    have hC3 := hC2.alloc (.cells #[.int .u32 f0, .int .u8 f1] 104)
    have ho3 := ho2.alloc (.cells #[.int .u32 f0, .int .u8 f1] 104)
    have hown3 := hown2.alloc (.cells #[.int .u32 f0, .int .u8 f1] 104)
    have hne3 : (Value.slice A2 k c2).ownBlock ≠ some w2.heap.size := fun e => by have := (hown2.lt _ e).2; omega
    clear e0 e1 hC2 ho2 hown2
    generalize w2.alloc (.cells #[.int .u32 f0, .int .u8 f1] 104) = w3 at *
    refine builtR39 p w w3 _ w2.heap.size p.sender p.media f0 f1 A2 k c2 _ (by omega) hz2 (hE62.keep ⟨hE62.get 9 rfl, hE62.get 11 rfl, hE62.get 184 rfl, hE62.get 185 rfl, hE62.get 186 rfl, trivial⟩) hC3 hx ho3 hown3 hne3 _ fun a5 w5 g5 cap5 hE5 hC5 ho5 hown5 => ?_
    clear hE62 a62
    refine hK58 _ _ ?_
    clear hK58
    refine wp_region_lit ?_
    refine wpList_val hE5 204 rfl rfl fun K hK => ?_
    have e186 := hE5.get 186 rfl
    go_simp
    refine hK _ _ fun a64 hE64 => ?_
    clear hK K e186
    clear hE5 a5
    refine wpList_val hE64 186 rfl rfl fun K hK => ?_
    have e204 := hE64.get 204 rfl
    go_simp
    refine hK _ _ fun a65 hE65 => ?_
    clear hK K e204
    clear hE64 a64
    refine wpList_nil ?_
    have et : (l.take (k + 1)).flatMap Ent.cells = (l.take k).flatMap Ent.cells ++ (⟨f0, f1⟩ : Ent).cells := by rw [flat_take_succ _ _ _ hlt, Hrk.out]
    exact hK _ _ hlt ⟨_, _, hE65.keep ⟨hE65.get 9 rfl, hE65.get 184 rfl, hE65.get 185 rfl, (hE65.get 186 rfl).trans (congrArg some (by go_num)), trivial⟩, hC5, ho5, own_eq hown5 rfl (by rw [et]; rfl), ho5.lt⟩
  case neg =>
    obtain rfl : k = l.length := by omega
    have hi1 : ¬ (l.length : Int) < (l.length : Int) := by omega
    refine wp_seq_k fun K66 hK66 => ?_
    refine wp_region_lit ?_
    refine wpList_val hE2 187 rfl rfl fun K hK => ?_
    have e185 := hE2.get 185 rfl
    have e186 := hE2.get 186 rfl
    go_simp
    refine hK _ _ fun a67 hE67 => ?_
    clear hK K e185 e186
    clear hE2 a2
    refine wpList_nil ?_
    refine hK66 _ _ ?_
    clear hK66
    refine wp_seq_k fun K68 hK68 => ?_
    refine wp_if_f hE67 187 rfl ?_
    refine wp_exit ?_
    refine hK49 _ _ ?_
    clear hK49
    refine wp_seq_k fun K69 hK69 => ?_
    refine wp_region_lit ?_
    refine wpList_val hE67 205 rfl rfl fun K hK => ?_
    have e9 := hE67.get 9 rfl
    go_simp
    refine hK _ _ fun a70 hE70 => ?_
    clear hK K e9
    clear hE67 a67
    refine wpList_val hE70 206 rfl rfl fun K hK => ?_
    have e205 := hE70.get 205 rfl
    go_simp
    refine hK _ _ fun a71 hE71 => ?_
    clear hK K e205
    clear hE70 a70
    refine wpList_val hE71 2 rfl rfl fun K hK => ?_
    have e206 := hE71.get 206 rfl
    go_simp
    refine hK _ _ fun a72 hE72 => ?_
    clear hK K e206
    clear hE71 a71
    refine wpList_nil ?_
    refine hK69 _ _ ?_
    clear hK69
    refine wp_ret ?_
    simp only [Exit.inBlock, Exit.then]
    refine bodyPost_ret (v := .iface 189 (.pointer (some ⟨w.heap.size + 1, 0, none⟩))) (by simp [results, Tryz.results29, go_sem, hE72.get 2 rfl]) hE72.defers ⟨_, _, rfl, ho2, by omega, own_base (own_eq hown2 rfl (by rw [List.take_length])) (by omega), hC2.below⟩

end Go.Proofs.YtmmfpgoodfgkbaaGreat
