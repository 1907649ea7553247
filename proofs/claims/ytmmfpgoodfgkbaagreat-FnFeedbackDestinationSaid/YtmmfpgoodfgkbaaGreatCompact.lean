/-
  THE WALK of the reference's leaving out of what a kind does not have. Condition: the kind.
-/
import Derived.Test.YtmmfpgoodfgkbaaGreatWords
import Derived.Test.YtmmfpgoodfgkbaaGreatForm0
namespace Go.Proofs.YtmmfpgoodfgkbaaGreat
open Go Go.RowKit
set_option linter.unusedVariables false

def Sl.nil {α : Type} : Sl α := ⟨none, 0, []⟩
/-- The zero packet. -/
def Pkt.zero : Pkt := ⟨0, 0, 0, 0, 0, 0, 0, Sl.nil, Sl.nil, Sl.nil, Sl.nil, ByteArray.empty, 0, Sl.nil, Sl.nil, Sl.nil, Sl.nil, 0, Sl.nil, 0, 0, 0, 0, 0, Sl.nil, Sl.nil, false, 0, 0, 0⟩
theorem pkt_one (p : Pkt) : p.cells.all (·.oneCell') = true := by kernel_rfl
noncomputable def compR (n : Nat) : Code := (Tryz.f25.body.bind (regionNo n)).getD .skip
/-- In 'Compact': the packet; nothing else that was there has turned. -/
structure CompC (p : Pkt) (w wx : World) : Prop where
  pk : Blk wx w.heap.size 38 p.cells
  rs : Blk wx (w.heap.size + 1) 38 Pkt.zero.cells
  below : Below w.heap.size w wx
theorem CompC.drew {p : Pkt} {w wx : World} (h : CompC p w wx) : CompC p w wx.drew := ⟨h.pk.drew, h.rs.drew, h.below.drew⟩
theorem CompC.setOut {p : Pkt} {w wx : World} (h : CompC p w wx) (i : Nat) (u : Value) : CompC p w (wx.setCell ⟨w.heap.size + 1 + 1, i, none⟩ u) :=
  ⟨h.pk.far (p := ⟨w.heap.size + 1 + 1, i, none⟩) (by simp; omega) _, h.rs.far (p := ⟨w.heap.size + 1 + 1, i, none⟩) (by simp) _, h.below.setCell (p := ⟨w.heap.size + 1 + 1, i, none⟩) (show w.heap.size ≤ w.heap.size + 1 + 1 by omega) _⟩

set_option maxHeartbeats 1000000 in
set_option maxRecDepth 100000 in
theorem compactR17 (p : Pkt) (w w3 : World) (a : Act) (hE : Env 141 [(1, .pointer (some ⟨w.heap.size, 0, none⟩)), (2, .pointer (some ⟨w.heap.size + 1, 0, none⟩)), (3, .pointer (some ⟨w.heap.size + 1 + 1, 0, none⟩))] a) (hc : CompC p w w3) (hb : Blk w3 (w.heap.size + 1 + 1) 38 (Pkt.cells (⟨p.kind, p.sender, 0, 0, 0, 0, 0, Sl.nil, Sl.nil, Sl.nil, Sl.nil, ByteArray.empty, 0, Sl.nil, Sl.nil, Sl.nil, Sl.nil, 0, Sl.nil, 0, 0, 0, 0, 0, Sl.nil, Sl.nil, false, 0, 0, 0⟩ : Pkt))) (Q : Exit → Act → World → Prop)
    (hQ : ∀ a' w', Env 141 [(2, .pointer (some ⟨w.heap.size + 1, 0, none⟩)), (3, .pointer (some ⟨w.heap.size + 1 + 1, 0, none⟩))] a' → CompC p w w' → Blk w' (w.heap.size + 1 + 1) 38 (Pkt.cells (⟨p.kind, p.sender, p.media, 0, 0, 0, 0, Sl.nil, Sl.nil, Sl.nil, Sl.nil, ByteArray.empty, 0, Sl.nil, p.pairs, Sl.nil, Sl.nil, 0, Sl.nil, 0, 0, 0, 0, 0, Sl.nil, Sl.nil, false, 0, 0, 0⟩ : Pkt)) → Q .normal a' w') :
    (compR 17).wp Tryz.prog Q a w3 := by
  conv => arg 2; whnf
  refine wp_region_mid (n := 141) [(7, 5)] (by kernel_rfl) (by kernel_rfl) (by kernel_rfl) (by kernel_rfl) hE.size
    [5, 7] (fun w' => Blk w' (w.heap.size + 1 + 1) 38 (Pkt.cells (⟨p.kind, p.sender, 0, 0, 0, 0, 0, Sl.nil, Sl.nil, Sl.nil, Sl.nil, ByteArray.empty, 0, Sl.nil, Sl.nil, Sl.nil, Sl.nil, 0, Sl.nil, 0, 0, 0, 0, 0, Sl.nil, Sl.nil, false, 0, 0, 0⟩ : Pkt)))
    (fun w' => CompC p w w')
    (fun i v w' => match i with
      | 0 => v = .pointer (some ⟨w.heap.size, 2, none⟩)
      | 1 => v = .int .u32 p.media
      | 2 => v = .pointer (some ⟨w.heap.size, 14, none⟩)
      | 3 => v = .slice p.pairs.A (p.pairs.l.length : Nat) p.pairs.c
      | 4 => v = .pointer (some ⟨w.heap.size + 1 + 1, 2, none⟩)
      | 5 => Blk w' (w.heap.size + 1 + 1) 38 (Pkt.cells (⟨p.kind, p.sender, p.media, 0, 0, 0, 0, Sl.nil, Sl.nil, Sl.nil, Sl.nil, ByteArray.empty, 0, Sl.nil, Sl.nil, Sl.nil, Sl.nil, 0, Sl.nil, 0, 0, 0, 0, 0, Sl.nil, Sl.nil, false, 0, 0, 0⟩ : Pkt))
      | 6 => v = .pointer (some ⟨w.heap.size + 1 + 1, 14, none⟩)
      | 7 => Blk w' (w.heap.size + 1 + 1) 38 (Pkt.cells (⟨p.kind, p.sender, p.media, 0, 0, 0, 0, Sl.nil, Sl.nil, Sl.nil, Sl.nil, ByteArray.empty, 0, Sl.nil, p.pairs, Sl.nil, Sl.nil, 0, Sl.nil, 0, 0, 0, 0, 0, Sl.nil, Sl.nil, false, 0, 0, 0⟩ : Pkt))
      | _ => True)
    (fun i w1 w2 => match i with
      | 5 => w1.grownBy w2 (some (w.heap.size + 1 + 1))
      | 7 => w1.grownBy w2 (some (w.heap.size + 1 + 1))
      | _ => w2 = w1)
    (hb.drew) ?hC0 ?hKeep ?hKeepI ?hDuty ?hEnd
  case hC0 => exact hc.drew
  case hKeep =>
    intro i k v w1 w2 hne hnd hw hC0 hT hR
    match i, hT with
    | 5, hT =>
      match k, hR with
      | 7, _ => exact waits_no (by kernel_rfl) hw
      | 5, _ => exact absurd rfl hne
      | 0, hR | 1, hR | 2, hR | 3, hR | 4, hR | 6, hR => exact hR
      | _ + 8, _ => trivial
    | 7, hT =>
      match k, hR with
      | 5, _ => exact absurd (by decide) hnd
      | 7, _ => exact absurd rfl hne
      | 0, hR | 1, hR | 2, hR | 3, hR | 4, hR | 6, hR => exact hR
      | _ + 8, _ => trivial
    | 0, hT | 1, hT | 2, hT | 3, hT | 4, hT | 6, hT => subst hT; exact hR
    | _ + 8, hT => subst hT; exact hR
  case hKeepI =>
    intro i w1 w2 hb hC0 hT hI
    match i, hT with
    | 5, _ => exact absurd (by decide) hb
    | 7, _ => exact absurd (by decide) hb
    | 0, hT | 1, hT | 2, hT | 3, hT | 4, hT | 6, hT => subst hT; exact hI
    | _ + 8, hT => subst hT; exact hI
  case hDuty =>
    refine ⟨?_, ?_, ?_, ?_, ?_, ?_, ?_, ?_, trivial⟩
    · refine duty_plain rfl fun vs a w4 hO hI0 hC0 hD K hK => ?_
      have e1 : a.tmps[1]? = some (.pointer (some ⟨w.heap.size, 0, none⟩)) := (hO 1 (by kernel_rfl)).trans (hE.get 1 rfl)
      clear hD hO hI0
      go_simp
      exact hK _ _ hC0 rfl rfl
    · refine duty_plain rfl fun vs a w4 hO hI0 hC0 hD K hK => ?_
      have s96 : a.tmps[96]? = some (vs 0) := (hD.1 rfl).1
      have r0 : vs 0 = .pointer (some ⟨w.heap.size, 2, none⟩) := (hD.1 rfl).2
      rw [r0] at s96
      clear r0
      clear hD hO hI0
      have cf : w4.cell? ⟨w.heap.size, 2, none⟩ = some (.int .u32 p.media) := hC0.pk.cell 2
      have hz0 : w.heap.size < w4.heap.size := hC0.pk.lt
      go_simp
      exact hK _ _ hC0 rfl rfl
    · refine duty_plain rfl fun vs a w4 hO hI0 hC0 hD K hK => ?_
      have e1 : a.tmps[1]? = some (.pointer (some ⟨w.heap.size, 0, none⟩)) := (hO 1 (by kernel_rfl)).trans (hE.get 1 rfl)
      clear hD hO hI0
      go_simp
      exact hK _ _ hC0 rfl rfl
    · refine duty_plain rfl fun vs a w4 hO hI0 hC0 hD K hK => ?_
      have s98 : a.tmps[98]? = some (vs 2) := (hD.1 rfl).1
      have r2 : vs 2 = .pointer (some ⟨w.heap.size, 14, none⟩) := (hD.1 rfl).2
      rw [r2] at s98
      clear r2
      clear hD hO hI0
      have cf : w4.cell? ⟨w.heap.size, 14, none⟩ = some (.slice p.pairs.A (p.pairs.l.length : Nat) p.pairs.c) := hC0.pk.cell 14
      have hz0 : w.heap.size < w4.heap.size := hC0.pk.lt
      go_simp
      exact hK _ _ hC0 rfl rfl
    · refine duty_plain rfl fun vs a w4 hO hI0 hC0 hD K hK => ?_
      have e3 : a.tmps[3]? = some (.pointer (some ⟨w.heap.size + 1 + 1, 0, none⟩)) := (hO 3 (by kernel_rfl)).trans (hE.get 3 rfl)
      clear hD hO hI0
      go_simp
      exact hK _ _ hC0 rfl rfl
    · refine duty_plain rfl fun vs a w4 hO hI0 hC0 hD K hK => ?_
      have s100 : a.tmps[100]? = some (vs 4) := (hD.1 rfl).1
      have r4 : vs 4 = .pointer (some ⟨w.heap.size + 1 + 1, 2, none⟩) := (hD.1 rfl).2
      rw [r4] at s100
      clear r4
      have s97 : a.tmps[97]? = some (vs 1) := (hD.2.1 rfl).1
      have r1 : vs 1 = .int .u32 p.media := (hD.2.1 rfl).2
      rw [r1] at s97
      clear r1
      have hb := hI0 (by kernel_rfl)
      clear hD hO hI0
      have co : ∃ u, w4.cell? ⟨w.heap.size + 1 + 1, 2, none⟩ = some u := ⟨_, (hb.cell 2).trans rfl⟩
      obtain ⟨u, co⟩ := co
      have fo : w4.frozen? ⟨w.heap.size + 1 + 1, 2, none⟩ = false := hb.frozen 2
      have hz2 : w.heap.size + 1 + 1 < w4.heap.size := hb.lt
      go_simp
      exact hK undef _ (hC0.setOut _ _) (show Blk _ (w.heap.size + 1 + 1) _ (Pkt.cells (⟨p.kind, p.sender, p.media, 0, 0, 0, 0, Sl.nil, Sl.nil, Sl.nil, Sl.nil, ByteArray.empty, 0, Sl.nil, Sl.nil, Sl.nil, Sl.nil, 0, Sl.nil, 0, 0, 0, 0, 0, Sl.nil, Sl.nil, false, 0, 0, 0⟩ : Pkt)) from hb.set_ 2 _) (grownBy_setCell _ _ _)
    · refine duty_plain rfl fun vs a w4 hO hI0 hC0 hD K hK => ?_
      have e3 : a.tmps[3]? = some (.pointer (some ⟨w.heap.size + 1 + 1, 0, none⟩)) := (hO 3 (by kernel_rfl)).trans (hE.get 3 rfl)
      clear hD hO hI0
      go_simp
      exact hK _ _ hC0 rfl rfl
    · refine duty_plain rfl fun vs a w4 hO hI0 hC0 hD K hK => ?_
      have s101 : a.tmps[101]? = some (vs 6) := (hD.1 rfl).1
      have r6 : vs 6 = .pointer (some ⟨w.heap.size + 1 + 1, 14, none⟩) := (hD.1 rfl).2
      rw [r6] at s101
      clear r6
      have s99 : a.tmps[99]? = some (vs 3) := (hD.2.1 rfl).1
      have r3 : vs 3 = .slice p.pairs.A (p.pairs.l.length : Nat) p.pairs.c := (hD.2.1 rfl).2
      rw [r3] at s99
      clear r3
      have q5 : Blk w4 (w.heap.size + 1 + 1) 38 (Pkt.cells (⟨p.kind, p.sender, p.media, 0, 0, 0, 0, Sl.nil, Sl.nil, Sl.nil, Sl.nil, ByteArray.empty, 0, Sl.nil, Sl.nil, Sl.nil, Sl.nil, 0, Sl.nil, 0, 0, 0, 0, 0, Sl.nil, Sl.nil, false, 0, 0, 0⟩ : Pkt)) := (hD.2.2.1 rfl).2
      have p5_0 := q5
      clear q5
      clear hD hO hI0
      have hb := p5_0
      have co : ∃ u, w4.cell? ⟨w.heap.size + 1 + 1, 14, none⟩ = some u := ⟨_, (hb.cell 14).trans rfl⟩
      obtain ⟨u, co⟩ := co
      have fo : w4.frozen? ⟨w.heap.size + 1 + 1, 14, none⟩ = false := hb.frozen 14
      have hz2 : w.heap.size + 1 + 1 < w4.heap.size := hb.lt
      go_simp
      exact hK undef _ (hC0.setOut _ _) (show Blk _ (w.heap.size + 1 + 1) _ (Pkt.cells (⟨p.kind, p.sender, p.media, 0, 0, 0, 0, Sl.nil, Sl.nil, Sl.nil, Sl.nil, ByteArray.empty, 0, Sl.nil, p.pairs, Sl.nil, Sl.nil, 0, Sl.nil, 0, 0, 0, 0, 0, Sl.nil, Sl.nil, false, 0, 0, 0⟩ : Pkt)) from hb.set_ 14 _) (grownBy_setCell _ _ _)
  case hEnd =>
    intro vs a' w' hC hM hR2
    exact hQ a' w' (Env.mk' (hM.size.trans hE.size) (hM.defers.trans hE.defers) ⟨(hM.old 2 (by kernel_rfl)).trans (hE.get 2 rfl), (hM.old 3 (by kernel_rfl)).trans (hE.get 3 rfl), trivial⟩) hC (hR2 7 (by decide) (by simp))

set_option maxHeartbeats 2000000 in
set_option maxRecDepth 100000 in
theorem compact_6 (p : Pkt) (w : World) (hk : p.kind = 6) :
    Calls Tryz.prog 25 #[.agg p.cells] w fun e w' => e = .returned (.agg (Pkt.cells (⟨p.kind, p.sender, p.media, 0, 0, 0, 0, Sl.nil, Sl.nil, Sl.nil, Sl.nil, ByteArray.empty, 0, Sl.nil, p.pairs, Sl.nil, Sl.nil, 0, Sl.nil, 0, 0, 0, 0, 0, Sl.nil, Sl.nil, false, 0, 0, 0⟩ : Pkt))) ∧ Below w.heap.size w w' := by
  refine calls_of_wp Tryz.func25 rfl ?_
  rw [Tryz.ntmps25]
  have hE0 : Env 141 [(0, .agg p.cells)] ⟨#[.agg p.cells] ++ Array.replicate (141 - (#[Value.agg p.cells] : Array Value).size) undef, []⟩ := Env.enter _ (by simp) ⟨by simp, trivial⟩
  generalize (⟨#[.agg p.cells] ++ Array.replicate (141 - (#[Value.agg p.cells] : Array Value).size) undef, []⟩ : Act) = a0 at hE0 ⊢
  have Hk := Lib.hid hk
  clear hk
  refine wp_seq_k fun K1 hK1 => ?_
  refine wp_region_lit ?_
  refine wpList_val hE0 1 rfl rfl fun K hK => ?_
  have e0 := hE0.get 0 rfl
  go_simp
  refine hK _ _ fun a2 hE2 => ?_
  clear hK K e0
  clear hE0 a0
  refine wpList_val hE2 2 rfl rfl fun K hK => ?_
  go_simp
  refine hK _ _ fun a3 hE3 => ?_
  clear hK K
  clear hE2 a2
  refine wpList_nil ?_
  have hpk := (blk_new w 38 p.cells rfl).alloc (.cells Pkt.zero.cells 38)
  have hrs := blk_new (w.alloc (.cells p.cells 38)) 38 Pkt.zero.cells (B := w.heap.size + 1) (by simp)
  have hB := ((Below.refl w.heap.size w).alloc (Nat.le_refl _) (.cells p.cells 38)).alloc (by simp) (.cells Pkt.zero.cells 38)
  have hz1 : ((w.alloc (.cells p.cells 38)).alloc (.cells Pkt.zero.cells 38)).heap.size = w.heap.size + 1 + 1 := by simp
  have hgoal : ∀ w1, Blk w1 w.heap.size 38 p.cells → Blk w1 (w.heap.size + 1) 38 Pkt.zero.cells → Below w.heap.size w w1 → w1.heap.size = w.heap.size + 1 + 1 → K1 a3 w1 := ?_
  · exact hgoal _ hpk hrs hB hz1
  clear hpk hrs hB hz1
  intro w1 hpk hrs hB hz1
  refine hK1 _ _ ?_
  clear hK1 K1
  refine wp_seq_k fun K4 hK4 => ?_
  refine wp_region_lit ?_
  refine wpList_val hE3 4 rfl rfl fun K hK => ?_
  have e1 := hE3.get 1 rfl
  go_simp
  refine hK _ _ fun a5 hE5 => ?_
  clear hK K e1
  clear hE3 a3
  refine wpList_val hE5 5 rfl rfl fun K hK => ?_
  have e4 := hE5.get 4 rfl
  have c0 : w1.cell? ⟨w.heap.size, 0, none⟩ = some (.int .i64 p.kind) := hpk.cell 0
  have c1 : w1.cell? ⟨w.heap.size, 1, none⟩ = some (.int .u32 p.sender) := hpk.cell 1
  have hz0 : w.heap.size < w1.heap.size := hpk.lt
  go_simp
  refine hK _ _ fun a6 hE6 => ?_
  clear hK K e4
  clear hE5 a5
  refine wpList_val hE6 6 rfl rfl fun K hK => ?_
  have e1 := hE6.get 1 rfl
  go_simp
  refine hK _ _ fun a7 hE7 => ?_
  clear hK K e1
  clear hE6 a6
  refine wpList_val hE7 7 rfl rfl fun K hK => ?_
  have e6 := hE7.get 6 rfl
  go_simp
  refine hK _ _ fun a8 hE8 => ?_
  clear hK K e6
  clear hE7 a7
  refine wpList_val hE8 8 rfl rfl fun K hK => ?_
  have e5 := hE8.get 5 rfl
  have e7 := hE8.get 7 rfl
  go_simp
  refine hK _ _ fun a9 hE9 => ?_
  clear hK K e5 e7
  clear hE8 a8
  refine wpList_val hE9 3 rfl rfl fun K hK => ?_
  go_simp
  refine hK _ _ fun a10 hE10 => ?_
  clear hK K
  clear hE9 a9
  have hz := blk_new w1 38 Pkt.zero.cells rfl
  rw [hz1] at hz
  clear c0 c1 hz0
  refine wpList_none rfl fun K hK => ?_
  have e3 := hE10.get 3 rfl
  have e8 := hE10.get 8 rfl
  refine wp_store_blk 38 (.tmp 3) (.tmp 8) rfl (w.heap.size + 1 + 1) Pkt.zero.cells (Pkt.cells (⟨p.kind, p.sender, 0, 0, 0, 0, 0, Sl.nil, Sl.nil, Sl.nil, Sl.nil, ByteArray.empty, 0, Sl.nil, Sl.nil, Sl.nil, Sl.nil, 0, Sl.nil, 0, 0, 0, 0, 0, Sl.nil, Sl.nil, false, 0, 0, 0⟩ : Pkt)) 38 (hE10.ev 3 rfl) (hE10.ev 8 rfl) hz rfl (by kernel_rfl) (pkt_one _) fun w3 hb3 hg3 hz3 => ?_
  refine hK undef _ ?_
  clear hK K e3 e8
  refine wpList_nil ?_
  have hc : CompC p w w3 := ⟨(hpk.alloc _).grown hg3 (by simp; omega), (hrs.alloc _).grown hg3 (by simp), (hB.alloc hB.size _).grown hg3 (by simp; omega) (fun k hk => by injection hk; omega)⟩
  clear hpk hrs hB hg3 hz3 hz hz1
  refine hK4 _ _ ?_
  clear hK4 K4
  refine wp_seq_k fun K12 hK12 => ?_
  refine wp_seq_k fun K13 hK13 => ?_
  refine wp_region_lit ?_
  refine wpList_val hE10 9 rfl rfl fun K hK => ?_
  have e1 := hE10.get 1 rfl
  go_simp
  refine hK _ _ fun a14 hE14 => ?_
  clear hK K e1
  clear hE10 a10
  refine wpList_val hE14 10 rfl rfl fun K hK => ?_
  have e9 := hE14.get 9 rfl
  have c0 : w3.cell? ⟨w.heap.size, 0, none⟩ = some (.int .i64 6) := (hc.pk.cell 0).trans (by rw [← Hk.out]; rfl)
  have hz0 : w.heap.size < w3.heap.size := hc.pk.lt
  go_simp
  refine hK _ _ fun a15 hE15 => ?_
  clear hK K e9
  clear hE14 a14
  clear c0 hz0
  refine wpList_nil ?_
  refine hK13 _ _ ?_
  clear hK13 K13
  refine wp_block ?_
  refine wp_seq_k fun K16 hK16 => ?_
  refine wp_region_lit ?_
  refine wpList_val hE15 36 rfl rfl fun K hK => ?_
  have e10 := hE15.get 10 rfl
  go_simp
  refine hK _ _ fun a17 hE17 => ?_
  clear hK K e10
  clear hE15 a15
  refine wpList_val hE17 35 rfl rfl fun K hK => ?_
  have e36 := hE17.get 36 rfl
  go_simp
  refine hK _ _ fun a18 hE18 => ?_
  clear hK K e36
  clear hE17 a17
  refine wpList_nil ?_
  refine hK16 _ _ ?_
  clear hK16 K16
  refine wp_if_f hE18 35 rfl ?_
  refine wp_seq_k fun K19 hK19 => ?_
  refine wp_region_lit ?_
  refine wpList_val hE18 41 rfl rfl fun K hK => ?_
  have e10 := hE18.get 10 rfl
  go_simp
  refine hK _ _ fun a20 hE20 => ?_
  clear hK K e10
  clear hE18 a18
  refine wpList_val hE20 40 rfl rfl fun K hK => ?_
  have e41 := hE20.get 41 rfl
  go_simp
  refine hK _ _ fun a21 hE21 => ?_
  clear hK K e41
  clear hE20 a20
  refine wpList_nil ?_
  refine hK19 _ _ ?_
  clear hK19 K19
  refine wp_if_f hE21 40 rfl ?_
  refine wp_seq_k fun K22 hK22 => ?_
  refine wp_region_lit ?_
  refine wpList_val hE21 61 rfl rfl fun K hK => ?_
  have e10 := hE21.get 10 rfl
  go_simp
  refine hK _ _ fun a23 hE23 => ?_
  clear hK K e10
  clear hE21 a21
  refine wpList_val hE23 60 rfl rfl fun K hK => ?_
  have e61 := hE23.get 61 rfl
  go_simp
  refine hK _ _ fun a24 hE24 => ?_
  clear hK K e61
  clear hE23 a23
  refine wpList_nil ?_
  refine hK22 _ _ ?_
  clear hK22 K22
  refine wp_if_f hE24 60 rfl ?_
  refine wp_seq_k fun K25 hK25 => ?_
  refine wp_region_lit ?_
  refine wpList_val hE24 69 rfl rfl fun K hK => ?_
  have e10 := hE24.get 10 rfl
  go_simp
  refine hK _ _ fun a26 hE26 => ?_
  clear hK K e10
  clear hE24 a24
  refine wpList_val hE26 68 rfl rfl fun K hK => ?_
  have e69 := hE26.get 69 rfl
  go_simp
  refine hK _ _ fun a27 hE27 => ?_
  clear hK K e69
  clear hE26 a26
  refine wpList_nil ?_
  refine hK25 _ _ ?_
  clear hK25 K25
  refine wp_if_f hE27 68 rfl ?_
  refine wp_seq_k fun K28 hK28 => ?_
  refine wp_region_lit ?_
  refine wpList_val hE27 75 rfl rfl fun K hK => ?_
  have e10 := hE27.get 10 rfl
  go_simp
  refine hK _ _ fun a29 hE29 => ?_
  clear hK K e10
  clear hE27 a27
  refine wpList_val hE29 74 rfl rfl fun K hK => ?_
  have e75 := hE29.get 75 rfl
  go_simp
  refine hK _ _ fun a30 hE30 => ?_
  clear hK K e75
  clear hE29 a29
  refine wpList_nil ?_
  refine hK28 _ _ ?_
  clear hK28 K28
  refine wp_if_f hE30 74 rfl ?_
  refine wp_seq_k fun K31 hK31 => ?_
  refine wp_region_lit ?_
  refine wpList_val hE30 84 rfl rfl fun K hK => ?_
  have e10 := hE30.get 10 rfl
  go_simp
  refine hK _ _ fun a32 hE32 => ?_
  clear hK K e10
  clear hE30 a30
  refine wpList_val hE32 83 rfl rfl fun K hK => ?_
  have e84 := hE32.get 84 rfl
  go_simp
  refine hK _ _ fun a33 hE33 => ?_
  clear hK K e84
  clear hE32 a32
  refine wpList_nil ?_
  refine hK31 _ _ ?_
  clear hK31 K31
  refine wp_if_f hE33 83 rfl ?_
  refine wp_seq_k fun K34 hK34 => ?_
  refine wp_region_lit ?_
  refine wpList_val hE33 95 rfl rfl fun K hK => ?_
  have e10 := hE33.get 10 rfl
  go_simp
  refine hK _ _ fun a35 hE35 => ?_
  clear hK K e10
  clear hE33 a33
  refine wpList_val hE35 94 rfl rfl fun K hK => ?_
  have e95 := hE35.get 95 rfl
  go_simp
  refine hK _ _ fun a36 hE36 => ?_
  clear hK K e95
  clear hE35 a35
  refine wpList_nil ?_
  refine hK34 _ _ ?_
  clear hK34 K34
  refine wp_if_t hE36 94 rfl ?_
  refine compactR17 p w w3 _ (hE36.keep ⟨hE36.get 1 rfl, hE36.get 2 rfl, hE36.get 3 rfl, trivial⟩) hc hb3 _ fun a4 w4 hE4 hc4 hb4 => ?_
  clear hE36 a36
  clear hc hb3
  refine hK12 _ _ ?_
  clear hK12 K12
  refine wp_seq_k fun K37 hK37 => ?_
  have hE38 := hE4.keep (l' := [(2, _), (3, _)]) ⟨hE4.get 2 rfl, hE4.get 3 rfl, trivial⟩
  clear hE4
  refine wp_region_lit ?_
  refine wpList_val hE38 140 rfl rfl fun K hK => ?_
  have e3 := hE38.get 3 rfl
  refine wp_load_blk 38 (.tmp 3) rfl (w.heap.size + 1 + 1) (hE38.ev 3 rfl) 38 _ _ hb4 Tryz.underlying38 rfl (by kernel_rfl) ?_
  refine hK _ _ fun a39 hE39 => ?_
  clear hK K e3
  clear hE38 a4
  refine wpList_none rfl fun K hK => ?_
  have e2 := hE39.get 2 rfl
  have e140 := hE39.get 140 rfl
  refine wp_store_blk 38 (.tmp 2) (.tmp 140) rfl (w.heap.size + 1) Pkt.zero.cells _ 38 (hE39.ev 2 rfl) (hE39.ev 140 rfl) hc4.rs rfl (by kernel_rfl) (pkt_one _) fun w5 hb5 hg5 hz5 => ?_
  refine hK undef _ ?_
  clear hK K e2 e140
  refine wpList_nil ?_
  refine hK37 _ _ ?_
  clear hK37 K37
  refine wp_ret ?_
  refine bodyPost_ret (results_cell_row Tryz.results25 _ _ (w.heap.size + 1) 38 _ (0, 0) _ (by simp [hE39.get 2 rfl]) hb5 Tryz.underlying38 rfl (by kernel_rfl)) hE39.defers ⟨rfl, hc4.below.grown hg5 (by have := hc4.below.size; omega) (fun k hk => by injection hk; omega)⟩

set_option maxHeartbeats 1000000 in
set_option maxRecDepth 100000 in
theorem compactR22 (p : Pkt) (w w3 : World) (a : Act) (hE : Env 141 [(1, .pointer (some ⟨w.heap.size, 0, none⟩)), (2, .pointer (some ⟨w.heap.size + 1, 0, none⟩)), (3, .pointer (some ⟨w.heap.size + 1 + 1, 0, none⟩))] a) (hc : CompC p w w3) (hb : Blk w3 (w.heap.size + 1 + 1) 38 (Pkt.cells (⟨p.kind, p.sender, 0, 0, 0, 0, 0, Sl.nil, Sl.nil, Sl.nil, Sl.nil, ByteArray.empty, 0, Sl.nil, Sl.nil, Sl.nil, Sl.nil, 0, Sl.nil, 0, 0, 0, 0, 0, Sl.nil, Sl.nil, false, 0, 0, 0⟩ : Pkt))) (Q : Exit → Act → World → Prop)
    (hQ : ∀ a' w', Env 141 [(2, .pointer (some ⟨w.heap.size + 1, 0, none⟩)), (3, .pointer (some ⟨w.heap.size + 1 + 1, 0, none⟩))] a' → CompC p w w' → Blk w' (w.heap.size + 1 + 1) 38 (Pkt.cells (⟨p.kind, p.sender, p.media, 0, 0, 0, 0, Sl.nil, Sl.nil, Sl.nil, Sl.nil, ByteArray.empty, 0, Sl.nil, Sl.nil, p.slices, Sl.nil, 0, Sl.nil, 0, 0, 0, 0, 0, Sl.nil, Sl.nil, false, 0, 0, 0⟩ : Pkt)) → Q .normal a' w') :
    (compR 22).wp Tryz.prog Q a w3 := by
  conv => arg 2; whnf
  refine wp_region_mid (n := 141) [(7, 5)] (by kernel_rfl) (by kernel_rfl) (by kernel_rfl) (by kernel_rfl) hE.size
    [5, 7] (fun w' => Blk w' (w.heap.size + 1 + 1) 38 (Pkt.cells (⟨p.kind, p.sender, 0, 0, 0, 0, 0, Sl.nil, Sl.nil, Sl.nil, Sl.nil, ByteArray.empty, 0, Sl.nil, Sl.nil, Sl.nil, Sl.nil, 0, Sl.nil, 0, 0, 0, 0, 0, Sl.nil, Sl.nil, false, 0, 0, 0⟩ : Pkt)))
    (fun w' => CompC p w w')
    (fun i v w' => match i with
      | 0 => v = .pointer (some ⟨w.heap.size, 2, none⟩)
      | 1 => v = .int .u32 p.media
      | 2 => v = .pointer (some ⟨w.heap.size, 15, none⟩)
      | 3 => v = .slice p.slices.A (p.slices.l.length : Nat) p.slices.c
      | 4 => v = .pointer (some ⟨w.heap.size + 1 + 1, 2, none⟩)
      | 5 => Blk w' (w.heap.size + 1 + 1) 38 (Pkt.cells (⟨p.kind, p.sender, p.media, 0, 0, 0, 0, Sl.nil, Sl.nil, Sl.nil, Sl.nil, ByteArray.empty, 0, Sl.nil, Sl.nil, Sl.nil, Sl.nil, 0, Sl.nil, 0, 0, 0, 0, 0, Sl.nil, Sl.nil, false, 0, 0, 0⟩ : Pkt))
      | 6 => v = .pointer (some ⟨w.heap.size + 1 + 1, 15, none⟩)
      | 7 => Blk w' (w.heap.size + 1 + 1) 38 (Pkt.cells (⟨p.kind, p.sender, p.media, 0, 0, 0, 0, Sl.nil, Sl.nil, Sl.nil, Sl.nil, ByteArray.empty, 0, Sl.nil, Sl.nil, p.slices, Sl.nil, 0, Sl.nil, 0, 0, 0, 0, 0, Sl.nil, Sl.nil, false, 0, 0, 0⟩ : Pkt))
      | _ => True)
    (fun i w1 w2 => match i with
      | 5 => w1.grownBy w2 (some (w.heap.size + 1 + 1))
      | 7 => w1.grownBy w2 (some (w.heap.size + 1 + 1))
      | _ => w2 = w1)
    (hb.drew) ?hC0 ?hKeep ?hKeepI ?hDuty ?hEnd
  case hC0 => exact hc.drew
  case hKeep =>
    intro i k v w1 w2 hne hnd hw hC0 hT hR
    match i, hT with
    | 5, hT =>
      match k, hR with
      | 7, _ => exact waits_no (by kernel_rfl) hw
      | 5, _ => exact absurd rfl hne
      | 0, hR | 1, hR | 2, hR | 3, hR | 4, hR | 6, hR => exact hR
      | _ + 8, _ => trivial
    | 7, hT =>
      match k, hR with
      | 5, _ => exact absurd (by decide) hnd
      | 7, _ => exact absurd rfl hne
      | 0, hR | 1, hR | 2, hR | 3, hR | 4, hR | 6, hR => exact hR
      | _ + 8, _ => trivial
    | 0, hT | 1, hT | 2, hT | 3, hT | 4, hT | 6, hT => subst hT; exact hR
    | _ + 8, hT => subst hT; exact hR
  case hKeepI =>
    intro i w1 w2 hb hC0 hT hI
    match i, hT with
    | 5, _ => exact absurd (by decide) hb
    | 7, _ => exact absurd (by decide) hb
    | 0, hT | 1, hT | 2, hT | 3, hT | 4, hT | 6, hT => subst hT; exact hI
    | _ + 8, hT => subst hT; exact hI
  case hDuty =>
    refine ⟨?_, ?_, ?_, ?_, ?_, ?_, ?_, ?_, trivial⟩
    · refine duty_plain rfl fun vs a w4 hO hI0 hC0 hD K hK => ?_
      have e1 : a.tmps[1]? = some (.pointer (some ⟨w.heap.size, 0, none⟩)) := (hO 1 (by kernel_rfl)).trans (hE.get 1 rfl)
      clear hD hO hI0
      go_simp
      exact hK _ _ hC0 rfl rfl
    · refine duty_plain rfl fun vs a w4 hO hI0 hC0 hD K hK => ?_
      have s110 : a.tmps[110]? = some (vs 0) := (hD.1 rfl).1
      have r0 : vs 0 = .pointer (some ⟨w.heap.size, 2, none⟩) := (hD.1 rfl).2
      rw [r0] at s110
      clear r0
      clear hD hO hI0
      have cf : w4.cell? ⟨w.heap.size, 2, none⟩ = some (.int .u32 p.media) := hC0.pk.cell 2
      have hz0 : w.heap.size < w4.heap.size := hC0.pk.lt
      go_simp
      exact hK _ _ hC0 rfl rfl
    · refine duty_plain rfl fun vs a w4 hO hI0 hC0 hD K hK => ?_
      have e1 : a.tmps[1]? = some (.pointer (some ⟨w.heap.size, 0, none⟩)) := (hO 1 (by kernel_rfl)).trans (hE.get 1 rfl)
      clear hD hO hI0
      go_simp
      exact hK _ _ hC0 rfl rfl
    · refine duty_plain rfl fun vs a w4 hO hI0 hC0 hD K hK => ?_
      have s112 : a.tmps[112]? = some (vs 2) := (hD.1 rfl).1
      have r2 : vs 2 = .pointer (some ⟨w.heap.size, 15, none⟩) := (hD.1 rfl).2
      rw [r2] at s112
      clear r2
      clear hD hO hI0
      have cf : w4.cell? ⟨w.heap.size, 15, none⟩ = some (.slice p.slices.A (p.slices.l.length : Nat) p.slices.c) := hC0.pk.cell 15
      have hz0 : w.heap.size < w4.heap.size := hC0.pk.lt
      go_simp
      exact hK _ _ hC0 rfl rfl
    · refine duty_plain rfl fun vs a w4 hO hI0 hC0 hD K hK => ?_
      have e3 : a.tmps[3]? = some (.pointer (some ⟨w.heap.size + 1 + 1, 0, none⟩)) := (hO 3 (by kernel_rfl)).trans (hE.get 3 rfl)
      clear hD hO hI0
      go_simp
      exact hK _ _ hC0 rfl rfl
    · refine duty_plain rfl fun vs a w4 hO hI0 hC0 hD K hK => ?_
      have s114 : a.tmps[114]? = some (vs 4) := (hD.1 rfl).1
      have r4 : vs 4 = .pointer (some ⟨w.heap.size + 1 + 1, 2, none⟩) := (hD.1 rfl).2
      rw [r4] at s114
      clear r4
      have s111 : a.tmps[111]? = some (vs 1) := (hD.2.1 rfl).1
      have r1 : vs 1 = .int .u32 p.media := (hD.2.1 rfl).2
      rw [r1] at s111
      clear r1
      have hb := hI0 (by kernel_rfl)
      clear hD hO hI0
      have co : ∃ u, w4.cell? ⟨w.heap.size + 1 + 1, 2, none⟩ = some u := ⟨_, (hb.cell 2).trans rfl⟩
      obtain ⟨u, co⟩ := co
      have fo : w4.frozen? ⟨w.heap.size + 1 + 1, 2, none⟩ = false := hb.frozen 2
      have hz2 : w.heap.size + 1 + 1 < w4.heap.size := hb.lt
      go_simp
      exact hK undef _ (hC0.setOut _ _) (show Blk _ (w.heap.size + 1 + 1) _ (Pkt.cells (⟨p.kind, p.sender, p.media, 0, 0, 0, 0, Sl.nil, Sl.nil, Sl.nil, Sl.nil, ByteArray.empty, 0, Sl.nil, Sl.nil, Sl.nil, Sl.nil, 0, Sl.nil, 0, 0, 0, 0, 0, Sl.nil, Sl.nil, false, 0, 0, 0⟩ : Pkt)) from hb.set_ 2 _) (grownBy_setCell _ _ _)
    · refine duty_plain rfl fun vs a w4 hO hI0 hC0 hD K hK => ?_
      have e3 : a.tmps[3]? = some (.pointer (some ⟨w.heap.size + 1 + 1, 0, none⟩)) := (hO 3 (by kernel_rfl)).trans (hE.get 3 rfl)
      clear hD hO hI0
      go_simp
      exact hK _ _ hC0 rfl rfl
    · refine duty_plain rfl fun vs a w4 hO hI0 hC0 hD K hK => ?_
      have s115 : a.tmps[115]? = some (vs 6) := (hD.1 rfl).1
      have r6 : vs 6 = .pointer (some ⟨w.heap.size + 1 + 1, 15, none⟩) := (hD.1 rfl).2
      rw [r6] at s115
      clear r6
      have s113 : a.tmps[113]? = some (vs 3) := (hD.2.1 rfl).1
      have r3 : vs 3 = .slice p.slices.A (p.slices.l.length : Nat) p.slices.c := (hD.2.1 rfl).2
      rw [r3] at s113
      clear r3
      have q5 : Blk w4 (w.heap.size + 1 + 1) 38 (Pkt.cells (⟨p.kind, p.sender, p.media, 0, 0, 0, 0, Sl.nil, Sl.nil, Sl.nil, Sl.nil, ByteArray.empty, 0, Sl.nil, Sl.nil, Sl.nil, Sl.nil, 0, Sl.nil, 0, 0, 0, 0, 0, Sl.nil, Sl.nil, false, 0, 0, 0⟩ : Pkt)) := (hD.2.2.1 rfl).2
      have p5_0 := q5
      clear q5
      clear hD hO hI0
      have hb := p5_0
      have co : ∃ u, w4.cell? ⟨w.heap.size + 1 + 1, 15, none⟩ = some u := ⟨_, (hb.cell 15).trans rfl⟩
      obtain ⟨u, co⟩ := co
      have fo : w4.frozen? ⟨w.heap.size + 1 + 1, 15, none⟩ = false := hb.frozen 15
      have hz2 : w.heap.size + 1 + 1 < w4.heap.size := hb.lt
      go_simp
      exact hK undef _ (hC0.setOut _ _) (show Blk _ (w.heap.size + 1 + 1) _ (Pkt.cells (⟨p.kind, p.sender, p.media, 0, 0, 0, 0, Sl.nil, Sl.nil, Sl.nil, Sl.nil, ByteArray.empty, 0, Sl.nil, Sl.nil, p.slices, Sl.nil, 0, Sl.nil, 0, 0, 0, 0, 0, Sl.nil, Sl.nil, false, 0, 0, 0⟩ : Pkt)) from hb.set_ 15 _) (grownBy_setCell _ _ _)
  case hEnd =>
    intro vs a' w' hC hM hR2
    exact hQ a' w' (Env.mk' (hM.size.trans hE.size) (hM.defers.trans hE.defers) ⟨(hM.old 2 (by kernel_rfl)).trans (hE.get 2 rfl), (hM.old 3 (by kernel_rfl)).trans (hE.get 3 rfl), trivial⟩) hC (hR2 7 (by decide) (by simp))

set_option maxHeartbeats 2000000 in
set_option maxRecDepth 100000 in
theorem compact_10 (p : Pkt) (w : World) (hk : p.kind = 10) :
    Calls Tryz.prog 25 #[.agg p.cells] w fun e w' => e = .returned (.agg (Pkt.cells (⟨p.kind, p.sender, p.media, 0, 0, 0, 0, Sl.nil, Sl.nil, Sl.nil, Sl.nil, ByteArray.empty, 0, Sl.nil, Sl.nil, p.slices, Sl.nil, 0, Sl.nil, 0, 0, 0, 0, 0, Sl.nil, Sl.nil, false, 0, 0, 0⟩ : Pkt))) ∧ Below w.heap.size w w' := by
  refine calls_of_wp Tryz.func25 rfl ?_
  rw [Tryz.ntmps25]
  have hE0 : Env 141 [(0, .agg p.cells)] ⟨#[.agg p.cells] ++ Array.replicate (141 - (#[Value.agg p.cells] : Array Value).size) undef, []⟩ := Env.enter _ (by simp) ⟨by simp, trivial⟩
  generalize (⟨#[.agg p.cells] ++ Array.replicate (141 - (#[Value.agg p.cells] : Array Value).size) undef, []⟩ : Act) = a0 at hE0 ⊢
  have Hk := Lib.hid hk
  clear hk
  refine wp_seq_k fun K1 hK1 => ?_
  refine wp_region_lit ?_
  refine wpList_val hE0 1 rfl rfl fun K hK => ?_
  have e0 := hE0.get 0 rfl
  go_simp
  refine hK _ _ fun a2 hE2 => ?_
  clear hK K e0
  clear hE0 a0
  refine wpList_val hE2 2 rfl rfl fun K hK => ?_
  go_simp
  refine hK _ _ fun a3 hE3 => ?_
  clear hK K
  clear hE2 a2
  refine wpList_nil ?_
  have hpk := (blk_new w 38 p.cells rfl).alloc (.cells Pkt.zero.cells 38)
  have hrs := blk_new (w.alloc (.cells p.cells 38)) 38 Pkt.zero.cells (B := w.heap.size + 1) (by simp)
  have hB := ((Below.refl w.heap.size w).alloc (Nat.le_refl _) (.cells p.cells 38)).alloc (by simp) (.cells Pkt.zero.cells 38)
  have hz1 : ((w.alloc (.cells p.cells 38)).alloc (.cells Pkt.zero.cells 38)).heap.size = w.heap.size + 1 + 1 := by simp
  have hgoal : ∀ w1, Blk w1 w.heap.size 38 p.cells → Blk w1 (w.heap.size + 1) 38 Pkt.zero.cells → Below w.heap.size w w1 → w1.heap.size = w.heap.size + 1 + 1 → K1 a3 w1 := ?_
  · exact hgoal _ hpk hrs hB hz1
  clear hpk hrs hB hz1
  intro w1 hpk hrs hB hz1
  refine hK1 _ _ ?_
  clear hK1 K1
  refine wp_seq_k fun K4 hK4 => ?_
  refine wp_region_lit ?_
  refine wpList_val hE3 4 rfl rfl fun K hK => ?_
  have e1 := hE3.get 1 rfl
  go_simp
  refine hK _ _ fun a5 hE5 => ?_
  clear hK K e1
  clear hE3 a3
  refine wpList_val hE5 5 rfl rfl fun K hK => ?_
  have e4 := hE5.get 4 rfl
  have c0 : w1.cell? ⟨w.heap.size, 0, none⟩ = some (.int .i64 p.kind) := hpk.cell 0
  have c1 : w1.cell? ⟨w.heap.size, 1, none⟩ = some (.int .u32 p.sender) := hpk.cell 1
  have hz0 : w.heap.size < w1.heap.size := hpk.lt
  go_simp
  refine hK _ _ fun a6 hE6 => ?_
  clear hK K e4
  clear hE5 a5
  refine wpList_val hE6 6 rfl rfl fun K hK => ?_
  have e1 := hE6.get 1 rfl
  go_simp
  refine hK _ _ fun a7 hE7 => ?_
  clear hK K e1
  clear hE6 a6
  refine wpList_val hE7 7 rfl rfl fun K hK => ?_
  have e6 := hE7.get 6 rfl
  go_simp
  refine hK _ _ fun a8 hE8 => ?_
  clear hK K e6
  clear hE7 a7
  refine wpList_val hE8 8 rfl rfl fun K hK => ?_
  have e5 := hE8.get 5 rfl
  have e7 := hE8.get 7 rfl
  go_simp
  refine hK _ _ fun a9 hE9 => ?_
  clear hK K e5 e7
  clear hE8 a8
  refine wpList_val hE9 3 rfl rfl fun K hK => ?_
  go_simp
  refine hK _ _ fun a10 hE10 => ?_
  clear hK K
  clear hE9 a9
  have hz := blk_new w1 38 Pkt.zero.cells rfl
  rw [hz1] at hz
  clear c0 c1 hz0
  refine wpList_none rfl fun K hK => ?_
  have e3 := hE10.get 3 rfl
  have e8 := hE10.get 8 rfl
  refine wp_store_blk 38 (.tmp 3) (.tmp 8) rfl (w.heap.size + 1 + 1) Pkt.zero.cells (Pkt.cells (⟨p.kind, p.sender, 0, 0, 0, 0, 0, Sl.nil, Sl.nil, Sl.nil, Sl.nil, ByteArray.empty, 0, Sl.nil, Sl.nil, Sl.nil, Sl.nil, 0, Sl.nil, 0, 0, 0, 0, 0, Sl.nil, Sl.nil, false, 0, 0, 0⟩ : Pkt)) 38 (hE10.ev 3 rfl) (hE10.ev 8 rfl) hz rfl (by kernel_rfl) (pkt_one _) fun w3 hb3 hg3 hz3 => ?_
  refine hK undef _ ?_
  clear hK K e3 e8
  refine wpList_nil ?_
  have hc : CompC p w w3 := ⟨(hpk.alloc _).grown hg3 (by simp; omega), (hrs.alloc _).grown hg3 (by simp), (hB.alloc hB.size _).grown hg3 (by simp; omega) (fun k hk => by injection hk; omega)⟩
  clear hpk hrs hB hg3 hz3 hz hz1
  refine hK4 _ _ ?_
  clear hK4 K4
  refine wp_seq_k fun K12 hK12 => ?_
  refine wp_seq_k fun K13 hK13 => ?_
  refine wp_region_lit ?_
  refine wpList_val hE10 9 rfl rfl fun K hK => ?_
  have e1 := hE10.get 1 rfl
  go_simp
  refine hK _ _ fun a14 hE14 => ?_
  clear hK K e1
  clear hE10 a10
  refine wpList_val hE14 10 rfl rfl fun K hK => ?_
  have e9 := hE14.get 9 rfl
  have c0 : w3.cell? ⟨w.heap.size, 0, none⟩ = some (.int .i64 10) := (hc.pk.cell 0).trans (by rw [← Hk.out]; rfl)
  have hz0 : w.heap.size < w3.heap.size := hc.pk.lt
  go_simp
  refine hK _ _ fun a15 hE15 => ?_
  clear hK K e9
  clear hE14 a14
  clear c0 hz0
  refine wpList_nil ?_
  refine hK13 _ _ ?_
  clear hK13 K13
  refine wp_block ?_
  refine wp_seq_k fun K16 hK16 => ?_
  refine wp_region_lit ?_
  refine wpList_val hE15 36 rfl rfl fun K hK => ?_
  have e10 := hE15.get 10 rfl
  go_simp
  refine hK _ _ fun a17 hE17 => ?_
  clear hK K e10
  clear hE15 a15
  refine wpList_val hE17 35 rfl rfl fun K hK => ?_
  have e36 := hE17.get 36 rfl
  go_simp
  refine hK _ _ fun a18 hE18 => ?_
  clear hK K e36
  clear hE17 a17
  refine wpList_nil ?_
  refine hK16 _ _ ?_
  clear hK16 K16
  refine wp_if_f hE18 35 rfl ?_
  refine wp_seq_k fun K19 hK19 => ?_
  refine wp_region_lit ?_
  refine wpList_val hE18 41 rfl rfl fun K hK => ?_
  have e10 := hE18.get 10 rfl
  go_simp
  refine hK _ _ fun a20 hE20 => ?_
  clear hK K e10
  clear hE18 a18
  refine wpList_val hE20 40 rfl rfl fun K hK => ?_
  have e41 := hE20.get 41 rfl
  go_simp
  refine hK _ _ fun a21 hE21 => ?_
  clear hK K e41
  clear hE20 a20
  refine wpList_nil ?_
  refine hK19 _ _ ?_
  clear hK19 K19
  refine wp_if_f hE21 40 rfl ?_
  refine wp_seq_k fun K22 hK22 => ?_
  refine wp_region_lit ?_
  refine wpList_val hE21 61 rfl rfl fun K hK => ?_
  have e10 := hE21.get 10 rfl
  go_simp
  refine hK _ _ fun a23 hE23 => ?_
  clear hK K e10
  clear hE21 a21
  refine wpList_val hE23 60 rfl rfl fun K hK => ?_
  have e61 := hE23.get 61 rfl
  go_simp
  refine hK _ _ fun a24 hE24 => ?_
  clear hK K e61
  clear hE23 a23
  refine wpList_nil ?_
  refine hK22 _ _ ?_
  clear hK22 K22
  refine wp_if_f hE24 60 rfl ?_
  refine wp_seq_k fun K25 hK25 => ?_
  refine wp_region_lit ?_
  refine wpList_val hE24 69 rfl rfl fun K hK => ?_
  have e10 := hE24.get 10 rfl
  go_simp
  refine hK _ _ fun a26 hE26 => ?_
  clear hK K e10
  clear hE24 a24
  refine wpList_val hE26 68 rfl rfl fun K hK => ?_
  have e69 := hE26.get 69 rfl
  go_simp
  refine hK _ _ fun a27 hE27 => ?_
  clear hK K e69
  clear hE26 a26
  refine wpList_nil ?_
  refine hK25 _ _ ?_
  clear hK25 K25
  refine wp_if_f hE27 68 rfl ?_
  refine wp_seq_k fun K28 hK28 => ?_
  refine wp_region_lit ?_
  refine wpList_val hE27 75 rfl rfl fun K hK => ?_
  have e10 := hE27.get 10 rfl
  go_simp
  refine hK _ _ fun a29 hE29 => ?_
  clear hK K e10
  clear hE27 a27
  refine wpList_val hE29 74 rfl rfl fun K hK => ?_
  have e75 := hE29.get 75 rfl
  go_simp
  refine hK _ _ fun a30 hE30 => ?_
  clear hK K e75
  clear hE29 a29
  refine wpList_nil ?_
  refine hK28 _ _ ?_
  clear hK28 K28
  refine wp_if_f hE30 74 rfl ?_
  refine wp_seq_k fun K31 hK31 => ?_
  refine wp_region_lit ?_
  refine wpList_val hE30 84 rfl rfl fun K hK => ?_
  have e10 := hE30.get 10 rfl
  go_simp
  refine hK _ _ fun a32 hE32 => ?_
  clear hK K e10
  clear hE30 a30
  refine wpList_val hE32 83 rfl rfl fun K hK => ?_
  have e84 := hE32.get 84 rfl
  go_simp
  refine hK _ _ fun a33 hE33 => ?_
  clear hK K e84
  clear hE32 a32
  refine wpList_nil ?_
  refine hK31 _ _ ?_
  clear hK31 K31
  refine wp_if_f hE33 83 rfl ?_
  refine wp_seq_k fun K34 hK34 => ?_
  refine wp_region_lit ?_
  refine wpList_val hE33 95 rfl rfl fun K hK => ?_
  have e10 := hE33.get 10 rfl
  go_simp
  refine hK _ _ fun a35 hE35 => ?_
  clear hK K e10
  clear hE33 a33
  refine wpList_val hE35 94 rfl rfl fun K hK => ?_
  have e95 := hE35.get 95 rfl
  go_simp
  refine hK _ _ fun a36 hE36 => ?_
  clear hK K e95
  clear hE35 a35
  refine wpList_nil ?_
  refine hK34 _ _ ?_
  clear hK34 K34
  refine wp_if_f hE36 94 rfl ?_
  refine wp_seq_k fun K37 hK37 => ?_
  refine wp_seq_k fun K38 hK38 => ?_
  refine wp_region_lit ?_
  refine wpList_val hE36 103 rfl rfl fun K hK => ?_
  have e10 := hE36.get 10 rfl
  go_simp
  refine hK _ _ fun a39 hE39 => ?_
  clear hK K e10
  clear hE36 a36
  refine wpList_val hE39 102 rfl rfl fun K hK => ?_
  have e103 := hE39.get 103 rfl
  go_simp
  refine hK _ _ fun a40 hE40 => ?_
  clear hK K e103
  clear hE39 a39
  refine wpList_nil ?_
  refine hK38 _ _ ?_
  clear hK38 K38
  refine wp_if_f hE40 102 rfl ?_
  refine wp_region_lit ?_
  refine wpList_val hE40 104 rfl rfl fun K hK => ?_
  have e10 := hE40.get 10 rfl
  go_simp
  refine hK _ _ fun a41 hE41 => ?_
  clear hK K e10
  clear hE40 a40
  refine wpList_val hE41 102 rfl rfl fun K hK => ?_
  have e104 := hE41.get 104 rfl
  go_simp
  refine hK _ _ fun a42 hE42 => ?_
  clear hK K e104
  clear hE41 a41
  refine wpList_nil ?_
  refine hK37 _ _ ?_
  clear hK37 K37
  refine wp_if_f hE42 102 rfl ?_
  refine wp_seq_k fun K43 hK43 => ?_
  refine wp_region_lit ?_
  refine wpList_val hE42 109 rfl rfl fun K hK => ?_
  have e10 := hE42.get 10 rfl
  go_simp
  refine hK _ _ fun a44 hE44 => ?_
  clear hK K e10
  clear hE42 a42
  refine wpList_val hE44 108 rfl rfl fun K hK => ?_
  have e109 := hE44.get 109 rfl
  go_simp
  refine hK _ _ fun a45 hE45 => ?_
  clear hK K e109
  clear hE44 a44
  refine wpList_nil ?_
  refine hK43 _ _ ?_
  clear hK43 K43
  refine wp_if_t hE45 108 rfl ?_
  refine compactR22 p w w3 _ (hE45.keep ⟨hE45.get 1 rfl, hE45.get 2 rfl, hE45.get 3 rfl, trivial⟩) hc hb3 _ fun a4 w4 hE4 hc4 hb4 => ?_
  clear hE45 a45
  clear hc hb3
  refine hK12 _ _ ?_
  clear hK12 K12
  refine wp_seq_k fun K46 hK46 => ?_
  have hE47 := hE4.keep (l' := [(2, _), (3, _)]) ⟨hE4.get 2 rfl, hE4.get 3 rfl, trivial⟩
  clear hE4
  refine wp_region_lit ?_
  refine wpList_val hE47 140 rfl rfl fun K hK => ?_
  have e3 := hE47.get 3 rfl
  refine wp_load_blk 38 (.tmp 3) rfl (w.heap.size + 1 + 1) (hE47.ev 3 rfl) 38 _ _ hb4 Tryz.underlying38 rfl (by kernel_rfl) ?_
  refine hK _ _ fun a48 hE48 => ?_
  clear hK K e3
  clear hE47 a4
  refine wpList_none rfl fun K hK => ?_
  have e2 := hE48.get 2 rfl
  have e140 := hE48.get 140 rfl
  refine wp_store_blk 38 (.tmp 2) (.tmp 140) rfl (w.heap.size + 1) Pkt.zero.cells _ 38 (hE48.ev 2 rfl) (hE48.ev 140 rfl) hc4.rs rfl (by kernel_rfl) (pkt_one _) fun w5 hb5 hg5 hz5 => ?_
  refine hK undef _ ?_
  clear hK K e2 e140
  refine wpList_nil ?_
  refine hK46 _ _ ?_
  clear hK46 K46
  refine wp_ret ?_
  refine bodyPost_ret (results_cell_row Tryz.results25 _ _ (w.heap.size + 1) 38 _ (0, 0) _ (by simp [hE48.get 2 rfl]) hb5 Tryz.underlying38 rfl (by kernel_rfl)) hE48.defers ⟨rfl, hc4.below.grown hg5 (by have := hc4.below.size; omega) (fun k hk => by injection hk; omega)⟩

set_option maxHeartbeats 2000000 in
set_option maxRecDepth 100000 in
theorem compact_7 (p : Pkt) (w : World) (hk : p.kind = 7) :
    Calls Tryz.prog 25 #[.agg p.cells] w fun e w' => e = .returned (.agg (Pkt.cells (⟨p.kind, p.sender, p.media, 0, 0, 0, 0, Sl.nil, Sl.nil, Sl.nil, Sl.nil, ByteArray.empty, 0, Sl.nil, Sl.nil, Sl.nil, Sl.nil, 0, Sl.nil, 0, 0, 0, 0, 0, Sl.nil, Sl.nil, false, 0, 0, 0⟩ : Pkt))) ∧ Below w.heap.size w w' := by
  refine calls_of_wp Tryz.func25 rfl ?_
  rw [Tryz.ntmps25]
  have hE0 : Env 141 [(0, .agg p.cells)] ⟨#[.agg p.cells] ++ Array.replicate (141 - (#[Value.agg p.cells] : Array Value).size) undef, []⟩ := Env.enter _ (by simp) ⟨by simp, trivial⟩
  generalize (⟨#[.agg p.cells] ++ Array.replicate (141 - (#[Value.agg p.cells] : Array Value).size) undef, []⟩ : Act) = a0 at hE0 ⊢
  have Hk := Lib.hid hk
  clear hk
  refine wp_seq_k fun K1 hK1 => ?_
  refine wp_region_lit ?_
  refine wpList_val hE0 1 rfl rfl fun K hK => ?_
  have e0 := hE0.get 0 rfl
  go_simp
  refine hK _ _ fun a2 hE2 => ?_
  clear hK K e0
  clear hE0 a0
  refine wpList_val hE2 2 rfl rfl fun K hK => ?_
  go_simp
  refine hK _ _ fun a3 hE3 => ?_
  clear hK K
  clear hE2 a2
  refine wpList_nil ?_
  have hpk := (blk_new w 38 p.cells rfl).alloc (.cells Pkt.zero.cells 38)
  have hrs := blk_new (w.alloc (.cells p.cells 38)) 38 Pkt.zero.cells (B := w.heap.size + 1) (by simp)
  have hB := ((Below.refl w.heap.size w).alloc (Nat.le_refl _) (.cells p.cells 38)).alloc (by simp) (.cells Pkt.zero.cells 38)
  have hz1 : ((w.alloc (.cells p.cells 38)).alloc (.cells Pkt.zero.cells 38)).heap.size = w.heap.size + 1 + 1 := by simp
  have hgoal : ∀ w1, Blk w1 w.heap.size 38 p.cells → Blk w1 (w.heap.size + 1) 38 Pkt.zero.cells → Below w.heap.size w w1 → w1.heap.size = w.heap.size + 1 + 1 → K1 a3 w1 := ?_
  · exact hgoal _ hpk hrs hB hz1
  clear hpk hrs hB hz1
  intro w1 hpk hrs hB hz1
  refine hK1 _ _ ?_
  clear hK1 K1
  refine wp_seq_k fun K4 hK4 => ?_
  refine wp_region_lit ?_
  refine wpList_val hE3 4 rfl rfl fun K hK => ?_
  have e1 := hE3.get 1 rfl
  go_simp
  refine hK _ _ fun a5 hE5 => ?_
  clear hK K e1
  clear hE3 a3
  refine wpList_val hE5 5 rfl rfl fun K hK => ?_
  have e4 := hE5.get 4 rfl
  have c0 : w1.cell? ⟨w.heap.size, 0, none⟩ = some (.int .i64 p.kind) := hpk.cell 0
  have c1 : w1.cell? ⟨w.heap.size, 1, none⟩ = some (.int .u32 p.sender) := hpk.cell 1
  have hz0 : w.heap.size < w1.heap.size := hpk.lt
  go_simp
  refine hK _ _ fun a6 hE6 => ?_
  clear hK K e4
  clear hE5 a5
  refine wpList_val hE6 6 rfl rfl fun K hK => ?_
  have e1 := hE6.get 1 rfl
  go_simp
  refine hK _ _ fun a7 hE7 => ?_
  clear hK K e1
  clear hE6 a6
  refine wpList_val hE7 7 rfl rfl fun K hK => ?_
  have e6 := hE7.get 6 rfl
  go_simp
  refine hK _ _ fun a8 hE8 => ?_
  clear hK K e6
  clear hE7 a7
  refine wpList_val hE8 8 rfl rfl fun K hK => ?_
  have e5 := hE8.get 5 rfl
  have e7 := hE8.get 7 rfl
  go_simp
  refine hK _ _ fun a9 hE9 => ?_
  clear hK K e5 e7
  clear hE8 a8
  refine wpList_val hE9 3 rfl rfl fun K hK => ?_
  go_simp
  refine hK _ _ fun a10 hE10 => ?_
  clear hK K
  clear hE9 a9
  have hz := blk_new w1 38 Pkt.zero.cells rfl
  rw [hz1] at hz
  clear c0 c1 hz0
  refine wpList_none rfl fun K hK => ?_
  have e3 := hE10.get 3 rfl
  have e8 := hE10.get 8 rfl
  refine wp_store_blk 38 (.tmp 3) (.tmp 8) rfl (w.heap.size + 1 + 1) Pkt.zero.cells (Pkt.cells (⟨p.kind, p.sender, 0, 0, 0, 0, 0, Sl.nil, Sl.nil, Sl.nil, Sl.nil, ByteArray.empty, 0, Sl.nil, Sl.nil, Sl.nil, Sl.nil, 0, Sl.nil, 0, 0, 0, 0, 0, Sl.nil, Sl.nil, false, 0, 0, 0⟩ : Pkt)) 38 (hE10.ev 3 rfl) (hE10.ev 8 rfl) hz rfl (by kernel_rfl) (pkt_one _) fun w3 hb3 hg3 hz3 => ?_
  refine hK undef _ ?_
  clear hK K e3 e8
  refine wpList_nil ?_
  have hc : CompC p w w3 := ⟨(hpk.alloc _).grown hg3 (by simp; omega), (hrs.alloc _).grown hg3 (by simp), (hB.alloc hB.size _).grown hg3 (by simp; omega) (fun k hk => by injection hk; omega)⟩
  clear hpk hrs hB hg3 hz3 hz hz1
  refine hK4 _ _ ?_
  clear hK4 K4
  refine wp_seq_k fun K12 hK12 => ?_
  refine wp_seq_k fun K13 hK13 => ?_
  refine wp_region_lit ?_
  refine wpList_val hE10 9 rfl rfl fun K hK => ?_
  have e1 := hE10.get 1 rfl
  go_simp
  refine hK _ _ fun a14 hE14 => ?_
  clear hK K e1
  clear hE10 a10
  refine wpList_val hE14 10 rfl rfl fun K hK => ?_
  have e9 := hE14.get 9 rfl
  have c0 : w3.cell? ⟨w.heap.size, 0, none⟩ = some (.int .i64 7) := (hc.pk.cell 0).trans (by rw [← Hk.out]; rfl)
  have hz0 : w.heap.size < w3.heap.size := hc.pk.lt
  go_simp
  refine hK _ _ fun a15 hE15 => ?_
  clear hK K e9
  clear hE14 a14
  clear c0 hz0
  refine wpList_nil ?_
  refine hK13 _ _ ?_
  clear hK13 K13
  refine wp_block ?_
  refine wp_seq_k fun K16 hK16 => ?_
  refine wp_region_lit ?_
  refine wpList_val hE15 36 rfl rfl fun K hK => ?_
  have e10 := hE15.get 10 rfl
  go_simp
  refine hK _ _ fun a17 hE17 => ?_
  clear hK K e10
  clear hE15 a15
  refine wpList_val hE17 35 rfl rfl fun K hK => ?_
  have e36 := hE17.get 36 rfl
  go_simp
  refine hK _ _ fun a18 hE18 => ?_
  clear hK K e36
  clear hE17 a17
  refine wpList_nil ?_
  refine hK16 _ _ ?_
  clear hK16 K16
  refine wp_if_f hE18 35 rfl ?_
  refine wp_seq_k fun K19 hK19 => ?_
  refine wp_region_lit ?_
  refine wpList_val hE18 41 rfl rfl fun K hK => ?_
  have e10 := hE18.get 10 rfl
  go_simp
  refine hK _ _ fun a20 hE20 => ?_
  clear hK K e10
  clear hE18 a18
  refine wpList_val hE20 40 rfl rfl fun K hK => ?_
  have e41 := hE20.get 41 rfl
  go_simp
  refine hK _ _ fun a21 hE21 => ?_
  clear hK K e41
  clear hE20 a20
  refine wpList_nil ?_
  refine hK19 _ _ ?_
  clear hK19 K19
  refine wp_if_f hE21 40 rfl ?_
  refine wp_seq_k fun K22 hK22 => ?_
  refine wp_region_lit ?_
  refine wpList_val hE21 61 rfl rfl fun K hK => ?_
  have e10 := hE21.get 10 rfl
  go_simp
  refine hK _ _ fun a23 hE23 => ?_
  clear hK K e10
  clear hE21 a21
  refine wpList_val hE23 60 rfl rfl fun K hK => ?_
  have e61 := hE23.get 61 rfl
  go_simp
  refine hK _ _ fun a24 hE24 => ?_
  clear hK K e61
  clear hE23 a23
  refine wpList_nil ?_
  refine hK22 _ _ ?_
  clear hK22 K22
  refine wp_if_f hE24 60 rfl ?_
  refine wp_seq_k fun K25 hK25 => ?_
  refine wp_region_lit ?_
  refine wpList_val hE24 69 rfl rfl fun K hK => ?_
  have e10 := hE24.get 10 rfl
  go_simp
  refine hK _ _ fun a26 hE26 => ?_
  clear hK K e10
  clear hE24 a24
  refine wpList_val hE26 68 rfl rfl fun K hK => ?_
  have e69 := hE26.get 69 rfl
  go_simp
  refine hK _ _ fun a27 hE27 => ?_
  clear hK K e69
  clear hE26 a26
  refine wpList_nil ?_
  refine hK25 _ _ ?_
  clear hK25 K25
  refine wp_if_f hE27 68 rfl ?_
  refine wp_seq_k fun K28 hK28 => ?_
  refine wp_region_lit ?_
  refine wpList_val hE27 75 rfl rfl fun K hK => ?_
  have e10 := hE27.get 10 rfl
  go_simp
  refine hK _ _ fun a29 hE29 => ?_
  clear hK K e10
  clear hE27 a27
  refine wpList_val hE29 74 rfl rfl fun K hK => ?_
  have e75 := hE29.get 75 rfl
  go_simp
  refine hK _ _ fun a30 hE30 => ?_
  clear hK K e75
  clear hE29 a29
  refine wpList_nil ?_
  refine hK28 _ _ ?_
  clear hK28 K28
  refine wp_if_f hE30 74 rfl ?_
  refine wp_seq_k fun K31 hK31 => ?_
  refine wp_region_lit ?_
  refine wpList_val hE30 84 rfl rfl fun K hK => ?_
  have e10 := hE30.get 10 rfl
  go_simp
  refine hK _ _ fun a32 hE32 => ?_
  clear hK K e10
  clear hE30 a30
  refine wpList_val hE32 83 rfl rfl fun K hK => ?_
  have e84 := hE32.get 84 rfl
  go_simp
  refine hK _ _ fun a33 hE33 => ?_
  clear hK K e84
  clear hE32 a32
  refine wpList_nil ?_
  refine hK31 _ _ ?_
  clear hK31 K31
  refine wp_if_f hE33 83 rfl ?_
  refine wp_seq_k fun K34 hK34 => ?_
  refine wp_region_lit ?_
  refine wpList_val hE33 95 rfl rfl fun K hK => ?_
  have e10 := hE33.get 10 rfl
  go_simp
  refine hK _ _ fun a35 hE35 => ?_
  clear hK K e10
  clear hE33 a33
  refine wpList_val hE35 94 rfl rfl fun K hK => ?_
  have e95 := hE35.get 95 rfl
  go_simp
  refine hK _ _ fun a36 hE36 => ?_
  clear hK K e95
  clear hE35 a35
  refine wpList_nil ?_
  refine hK34 _ _ ?_
  clear hK34 K34
  refine wp_if_f hE36 94 rfl ?_
  refine wp_seq_k fun K37 hK37 => ?_
  refine wp_seq_k fun K38 hK38 => ?_
  refine wp_region_lit ?_
  refine wpList_val hE36 103 rfl rfl fun K hK => ?_
  have e10 := hE36.get 10 rfl
  go_simp
  refine hK _ _ fun a39 hE39 => ?_
  clear hK K e10
  clear hE36 a36
  refine wpList_val hE39 102 rfl rfl fun K hK => ?_
  have e103 := hE39.get 103 rfl
  go_simp
  refine hK _ _ fun a40 hE40 => ?_
  clear hK K e103
  clear hE39 a39
  refine wpList_nil ?_
  refine hK38 _ _ ?_
  clear hK38 K38
  refine wp_if_t hE40 102 rfl ?_
  refine wp_skip ?_
  refine hK37 _ _ ?_
  clear hK37 K37
  refine wp_if_t hE40 102 rfl ?_
  refine wp_region_lit ?_
  refine wpList_val hE40 105 rfl rfl fun K hK => ?_
  have e1 := hE40.get 1 rfl
  go_simp
  refine hK _ _ fun a41 hE41 => ?_
  clear hK K e1
  clear hE40 a40
  refine wpList_val hE41 106 rfl rfl fun K hK => ?_
  have e105 := hE41.get 105 rfl
  have c2 : w3.cell? ⟨w.heap.size, 2, none⟩ = some (.int .u32 p.media) := hc.pk.cell 2
  have hz0 : w.heap.size < w3.heap.size := hc.pk.lt
  go_simp
  refine hK _ _ fun a42 hE42 => ?_
  clear hK K e105
  clear hE41 a41
  refine wpList_val hE42 107 rfl rfl fun K hK => ?_
  have e3 := hE42.get 3 rfl
  go_simp
  refine hK _ _ fun a43 hE43 => ?_
  clear hK K e3
  clear hE42 a42
  refine wpList_none rfl fun K hK => ?_
  have e106 := hE43.get 106 rfl
  have e107 := hE43.get 107 rfl
  have co : w3.cell? ⟨w.heap.size + 1 + 1, 2, none⟩ = some (.int .u32 0) := hb3.cell 2
  have fo : w3.frozen? ⟨w.heap.size + 1 + 1, 2, none⟩ = false := hb3.frozen 2
  have hz2 : w.heap.size + 1 + 1 < w3.heap.size := hb3.lt
  go_simp
  refine hK undef _ ?_
  clear hK K e106 e107
  clear c2 hz0 co fo hz2
  refine wpList_nil ?_
  have hc4 := hc.setOut 2 (.int .u32 p.media)
  have hb4 : Blk _ (w.heap.size + 1 + 1) 38 (Pkt.cells (⟨p.kind, p.sender, p.media, 0, 0, 0, 0, Sl.nil, Sl.nil, Sl.nil, Sl.nil, ByteArray.empty, 0, Sl.nil, Sl.nil, Sl.nil, Sl.nil, 0, Sl.nil, 0, 0, 0, 0, 0, Sl.nil, Sl.nil, false, 0, 0, 0⟩ : Pkt)) := hb3.set_ 2 (.int .u32 p.media)
  generalize w3.setCell ⟨w.heap.size + 1 + 1, 2, none⟩ (.int .u32 p.media) = w4 at *
  clear hc hb3
  refine hK12 _ _ ?_
  clear hK12 K12
  refine wp_seq_k fun K45 hK45 => ?_
  have hE46 := hE43.keep (l' := [(2, _), (3, _)]) ⟨hE43.get 2 rfl, hE43.get 3 rfl, trivial⟩
  clear hE43
  refine wp_region_lit ?_
  refine wpList_val hE46 140 rfl rfl fun K hK => ?_
  have e3 := hE46.get 3 rfl
  refine wp_load_blk 38 (.tmp 3) rfl (w.heap.size + 1 + 1) (hE46.ev 3 rfl) 38 _ _ hb4 Tryz.underlying38 rfl (by kernel_rfl) ?_
  refine hK _ _ fun a47 hE47 => ?_
  clear hK K e3
  clear hE46 a43
  refine wpList_none rfl fun K hK => ?_
  have e2 := hE47.get 2 rfl
  have e140 := hE47.get 140 rfl
  refine wp_store_blk 38 (.tmp 2) (.tmp 140) rfl (w.heap.size + 1) Pkt.zero.cells _ 38 (hE47.ev 2 rfl) (hE47.ev 140 rfl) hc4.rs rfl (by kernel_rfl) (pkt_one _) fun w5 hb5 hg5 hz5 => ?_
  refine hK undef _ ?_
  clear hK K e2 e140
  refine wpList_nil ?_
  refine hK45 _ _ ?_
  clear hK45 K45
  refine wp_ret ?_
  refine bodyPost_ret (results_cell_row Tryz.results25 _ _ (w.heap.size + 1) 38 _ (0, 0) _ (by simp [hE47.get 2 rfl]) hb5 Tryz.underlying38 rfl (by kernel_rfl)) hE47.defers ⟨rfl, hc4.below.grown hg5 (by have := hc4.below.size; omega) (fun k hk => by injection hk; omega)⟩

set_option maxHeartbeats 2000000 in
set_option maxRecDepth 100000 in
theorem compact_9 (p : Pkt) (w : World) (hk : p.kind = 9) :
    Calls Tryz.prog 25 #[.agg p.cells] w fun e w' => e = .returned (.agg (Pkt.cells (⟨p.kind, p.sender, p.media, 0, 0, 0, 0, Sl.nil, Sl.nil, Sl.nil, Sl.nil, ByteArray.empty, 0, Sl.nil, Sl.nil, Sl.nil, Sl.nil, 0, Sl.nil, 0, 0, 0, 0, 0, Sl.nil, Sl.nil, false, 0, 0, 0⟩ : Pkt))) ∧ Below w.heap.size w w' := by
  refine calls_of_wp Tryz.func25 rfl ?_
  rw [Tryz.ntmps25]
  have hE0 : Env 141 [(0, .agg p.cells)] ⟨#[.agg p.cells] ++ Array.replicate (141 - (#[Value.agg p.cells] : Array Value).size) undef, []⟩ := Env.enter _ (by simp) ⟨by simp, trivial⟩
  generalize (⟨#[.agg p.cells] ++ Array.replicate (141 - (#[Value.agg p.cells] : Array Value).size) undef, []⟩ : Act) = a0 at hE0 ⊢
  have Hk := Lib.hid hk
  clear hk
  refine wp_seq_k fun K1 hK1 => ?_
  refine wp_region_lit ?_
  refine wpList_val hE0 1 rfl rfl fun K hK => ?_
  have e0 := hE0.get 0 rfl
  go_simp
  refine hK _ _ fun a2 hE2 => ?_
  clear hK K e0
  clear hE0 a0
  refine wpList_val hE2 2 rfl rfl fun K hK => ?_
  go_simp
  refine hK _ _ fun a3 hE3 => ?_
  clear hK K
  clear hE2 a2
  refine wpList_nil ?_
  have hpk := (blk_new w 38 p.cells rfl).alloc (.cells Pkt.zero.cells 38)
  have hrs := blk_new (w.alloc (.cells p.cells 38)) 38 Pkt.zero.cells (B := w.heap.size + 1) (by simp)
  have hB := ((Below.refl w.heap.size w).alloc (Nat.le_refl _) (.cells p.cells 38)).alloc (by simp) (.cells Pkt.zero.cells 38)
  have hz1 : ((w.alloc (.cells p.cells 38)).alloc (.cells Pkt.zero.cells 38)).heap.size = w.heap.size + 1 + 1 := by simp
  have hgoal : ∀ w1, Blk w1 w.heap.size 38 p.cells → Blk w1 (w.heap.size + 1) 38 Pkt.zero.cells → Below w.heap.size w w1 → w1.heap.size = w.heap.size + 1 + 1 → K1 a3 w1 := ?_
  · exact hgoal _ hpk hrs hB hz1
  clear hpk hrs hB hz1
  intro w1 hpk hrs hB hz1
  refine hK1 _ _ ?_
  clear hK1 K1
  refine wp_seq_k fun K4 hK4 => ?_
  refine wp_region_lit ?_
  refine wpList_val hE3 4 rfl rfl fun K hK => ?_
  have e1 := hE3.get 1 rfl
  go_simp
  refine hK _ _ fun a5 hE5 => ?_
  clear hK K e1
  clear hE3 a3
  refine wpList_val hE5 5 rfl rfl fun K hK => ?_
  have e4 := hE5.get 4 rfl
  have c0 : w1.cell? ⟨w.heap.size, 0, none⟩ = some (.int .i64 p.kind) := hpk.cell 0
  have c1 : w1.cell? ⟨w.heap.size, 1, none⟩ = some (.int .u32 p.sender) := hpk.cell 1
  have hz0 : w.heap.size < w1.heap.size := hpk.lt
  go_simp
  refine hK _ _ fun a6 hE6 => ?_
  clear hK K e4
  clear hE5 a5
  refine wpList_val hE6 6 rfl rfl fun K hK => ?_
  have e1 := hE6.get 1 rfl
  go_simp
  refine hK _ _ fun a7 hE7 => ?_
  clear hK K e1
  clear hE6 a6
  refine wpList_val hE7 7 rfl rfl fun K hK => ?_
  have e6 := hE7.get 6 rfl
  go_simp
  refine hK _ _ fun a8 hE8 => ?_
  clear hK K e6
  clear hE7 a7
  refine wpList_val hE8 8 rfl rfl fun K hK => ?_
  have e5 := hE8.get 5 rfl
  have e7 := hE8.get 7 rfl
  go_simp
  refine hK _ _ fun a9 hE9 => ?_
  clear hK K e5 e7
  clear hE8 a8
  refine wpList_val hE9 3 rfl rfl fun K hK => ?_
  go_simp
  refine hK _ _ fun a10 hE10 => ?_
  clear hK K
  clear hE9 a9
  have hz := blk_new w1 38 Pkt.zero.cells rfl
  rw [hz1] at hz
  clear c0 c1 hz0
  refine wpList_none rfl fun K hK => ?_
  have e3 := hE10.get 3 rfl
  have e8 := hE10.get 8 rfl
  refine wp_store_blk 38 (.tmp 3) (.tmp 8) rfl (w.heap.size + 1 + 1) Pkt.zero.cells (Pkt.cells (⟨p.kind, p.sender, 0, 0, 0, 0, 0, Sl.nil, Sl.nil, Sl.nil, Sl.nil, ByteArray.empty, 0, Sl.nil, Sl.nil, Sl.nil, Sl.nil, 0, Sl.nil, 0, 0, 0, 0, 0, Sl.nil, Sl.nil, false, 0, 0, 0⟩ : Pkt)) 38 (hE10.ev 3 rfl) (hE10.ev 8 rfl) hz rfl (by kernel_rfl) (pkt_one _) fun w3 hb3 hg3 hz3 => ?_
  refine hK undef _ ?_
  clear hK K e3 e8
  refine wpList_nil ?_
  have hc : CompC p w w3 := ⟨(hpk.alloc _).grown hg3 (by simp; omega), (hrs.alloc _).grown hg3 (by simp), (hB.alloc hB.size _).grown hg3 (by simp; omega) (fun k hk => by injection hk; omega)⟩
  clear hpk hrs hB hg3 hz3 hz hz1
  refine hK4 _ _ ?_
  clear hK4 K4
  refine wp_seq_k fun K12 hK12 => ?_
  refine wp_seq_k fun K13 hK13 => ?_
  refine wp_region_lit ?_
  refine wpList_val hE10 9 rfl rfl fun K hK => ?_
  have e1 := hE10.get 1 rfl
  go_simp
  refine hK _ _ fun a14 hE14 => ?_
  clear hK K e1
  clear hE10 a10
  refine wpList_val hE14 10 rfl rfl fun K hK => ?_
  have e9 := hE14.get 9 rfl
  have c0 : w3.cell? ⟨w.heap.size, 0, none⟩ = some (.int .i64 9) := (hc.pk.cell 0).trans (by rw [← Hk.out]; rfl)
  have hz0 : w.heap.size < w3.heap.size := hc.pk.lt
  go_simp
  refine hK _ _ fun a15 hE15 => ?_
  clear hK K e9
  clear hE14 a14
  clear c0 hz0
  refine wpList_nil ?_
  refine hK13 _ _ ?_
  clear hK13 K13
  refine wp_block ?_
  refine wp_seq_k fun K16 hK16 => ?_
  refine wp_region_lit ?_
  refine wpList_val hE15 36 rfl rfl fun K hK => ?_
  have e10 := hE15.get 10 rfl
  go_simp
  refine hK _ _ fun a17 hE17 => ?_
  clear hK K e10
  clear hE15 a15
  refine wpList_val hE17 35 rfl rfl fun K hK => ?_
  have e36 := hE17.get 36 rfl
  go_simp
  refine hK _ _ fun a18 hE18 => ?_
  clear hK K e36
  clear hE17 a17
  refine wpList_nil ?_
  refine hK16 _ _ ?_
  clear hK16 K16
  refine wp_if_f hE18 35 rfl ?_
  refine wp_seq_k fun K19 hK19 => ?_
  refine wp_region_lit ?_
  refine wpList_val hE18 41 rfl rfl fun K hK => ?_
  have e10 := hE18.get 10 rfl
  go_simp
  refine hK _ _ fun a20 hE20 => ?_
  clear hK K e10
  clear hE18 a18
  refine wpList_val hE20 40 rfl rfl fun K hK => ?_
  have e41 := hE20.get 41 rfl
  go_simp
  refine hK _ _ fun a21 hE21 => ?_
  clear hK K e41
  clear hE20 a20
  refine wpList_nil ?_
  refine hK19 _ _ ?_
  clear hK19 K19
  refine wp_if_f hE21 40 rfl ?_
  refine wp_seq_k fun K22 hK22 => ?_
  refine wp_region_lit ?_
  refine wpList_val hE21 61 rfl rfl fun K hK => ?_
  have e10 := hE21.get 10 rfl
  go_simp
  refine hK _ _ fun a23 hE23 => ?_
  clear hK K e10
  clear hE21 a21
  refine wpList_val hE23 60 rfl rfl fun K hK => ?_
  have e61 := hE23.get 61 rfl
  go_simp
  refine hK _ _ fun a24 hE24 => ?_
  clear hK K e61
  clear hE23 a23
  refine wpList_nil ?_
  refine hK22 _ _ ?_
  clear hK22 K22
  refine wp_if_f hE24 60 rfl ?_
  refine wp_seq_k fun K25 hK25 => ?_
  refine wp_region_lit ?_
  refine wpList_val hE24 69 rfl rfl fun K hK => ?_
  have e10 := hE24.get 10 rfl
  go_simp
  refine hK _ _ fun a26 hE26 => ?_
  clear hK K e10
  clear hE24 a24
  refine wpList_val hE26 68 rfl rfl fun K hK => ?_
  have e69 := hE26.get 69 rfl
  go_simp
  refine hK _ _ fun a27 hE27 => ?_
  clear hK K e69
  clear hE26 a26
  refine wpList_nil ?_
  refine hK25 _ _ ?_
  clear hK25 K25
  refine wp_if_f hE27 68 rfl ?_
  refine wp_seq_k fun K28 hK28 => ?_
  refine wp_region_lit ?_
  refine wpList_val hE27 75 rfl rfl fun K hK => ?_
  have e10 := hE27.get 10 rfl
  go_simp
  refine hK _ _ fun a29 hE29 => ?_
  clear hK K e10
  clear hE27 a27
  refine wpList_val hE29 74 rfl rfl fun K hK => ?_
  have e75 := hE29.get 75 rfl
  go_simp
  refine hK _ _ fun a30 hE30 => ?_
  clear hK K e75
  clear hE29 a29
  refine wpList_nil ?_
  refine hK28 _ _ ?_
  clear hK28 K28
  refine wp_if_f hE30 74 rfl ?_
  refine wp_seq_k fun K31 hK31 => ?_
  refine wp_region_lit ?_
  refine wpList_val hE30 84 rfl rfl fun K hK => ?_
  have e10 := hE30.get 10 rfl
  go_simp
  refine hK _ _ fun a32 hE32 => ?_
  clear hK K e10
  clear hE30 a30
  refine wpList_val hE32 83 rfl rfl fun K hK => ?_
  have e84 := hE32.get 84 rfl
  go_simp
  refine hK _ _ fun a33 hE33 => ?_
  clear hK K e84
  clear hE32 a32
  refine wpList_nil ?_
  refine hK31 _ _ ?_
  clear hK31 K31
  refine wp_if_f hE33 83 rfl ?_
  refine wp_seq_k fun K34 hK34 => ?_
  refine wp_region_lit ?_
  refine wpList_val hE33 95 rfl rfl fun K hK => ?_
  have e10 := hE33.get 10 rfl
  go_simp
  refine hK _ _ fun a35 hE35 => ?_
  clear hK K e10
  clear hE33 a33
  refine wpList_val hE35 94 rfl rfl fun K hK => ?_
  have e95 := hE35.get 95 rfl
  go_simp
  refine hK _ _ fun a36 hE36 => ?_
  clear hK K e95
  clear hE35 a35
  refine wpList_nil ?_
  refine hK34 _ _ ?_
  clear hK34 K34
  refine wp_if_f hE36 94 rfl ?_
  refine wp_seq_k fun K37 hK37 => ?_
  refine wp_seq_k fun K38 hK38 => ?_
  refine wp_region_lit ?_
  refine wpList_val hE36 103 rfl rfl fun K hK => ?_
  have e10 := hE36.get 10 rfl
  go_simp
  refine hK _ _ fun a39 hE39 => ?_
  clear hK K e10
  clear hE36 a36
  refine wpList_val hE39 102 rfl rfl fun K hK => ?_
  have e103 := hE39.get 103 rfl
  go_simp
  refine hK _ _ fun a40 hE40 => ?_
  clear hK K e103
  clear hE39 a39
  refine wpList_nil ?_
  refine hK38 _ _ ?_
  clear hK38 K38
  refine wp_if_f hE40 102 rfl ?_
  refine wp_region_lit ?_
  refine wpList_val hE40 104 rfl rfl fun K hK => ?_
  have e10 := hE40.get 10 rfl
  go_simp
  refine hK _ _ fun a41 hE41 => ?_
  clear hK K e10
  clear hE40 a40
  refine wpList_val hE41 102 rfl rfl fun K hK => ?_
  have e104 := hE41.get 104 rfl
  go_simp
  refine hK _ _ fun a42 hE42 => ?_
  clear hK K e104
  clear hE41 a41
  refine wpList_nil ?_
  refine hK37 _ _ ?_
  clear hK37 K37
  refine wp_if_t hE42 102 rfl ?_
  refine wp_region_lit ?_
  refine wpList_val hE42 105 rfl rfl fun K hK => ?_
  have e1 := hE42.get 1 rfl
  go_simp
  refine hK _ _ fun a43 hE43 => ?_
  clear hK K e1
  clear hE42 a42
  refine wpList_val hE43 106 rfl rfl fun K hK => ?_
  have e105 := hE43.get 105 rfl
  have c2 : w3.cell? ⟨w.heap.size, 2, none⟩ = some (.int .u32 p.media) := hc.pk.cell 2
  have hz0 : w.heap.size < w3.heap.size := hc.pk.lt
  go_simp
  refine hK _ _ fun a44 hE44 => ?_
  clear hK K e105
  clear hE43 a43
  refine wpList_val hE44 107 rfl rfl fun K hK => ?_
  have e3 := hE44.get 3 rfl
  go_simp
  refine hK _ _ fun a45 hE45 => ?_
  clear hK K e3
  clear hE44 a44
  refine wpList_none rfl fun K hK => ?_
  have e106 := hE45.get 106 rfl
  have e107 := hE45.get 107 rfl
  have co : w3.cell? ⟨w.heap.size + 1 + 1, 2, none⟩ = some (.int .u32 0) := hb3.cell 2
  have fo : w3.frozen? ⟨w.heap.size + 1 + 1, 2, none⟩ = false := hb3.frozen 2
  have hz2 : w.heap.size + 1 + 1 < w3.heap.size := hb3.lt
  go_simp
  refine hK undef _ ?_
  clear hK K e106 e107
  clear c2 hz0 co fo hz2
  refine wpList_nil ?_
  have hc4 := hc.setOut 2 (.int .u32 p.media)
  have hb4 : Blk _ (w.heap.size + 1 + 1) 38 (Pkt.cells (⟨p.kind, p.sender, p.media, 0, 0, 0, 0, Sl.nil, Sl.nil, Sl.nil, Sl.nil, ByteArray.empty, 0, Sl.nil, Sl.nil, Sl.nil, Sl.nil, 0, Sl.nil, 0, 0, 0, 0, 0, Sl.nil, Sl.nil, false, 0, 0, 0⟩ : Pkt)) := hb3.set_ 2 (.int .u32 p.media)
  generalize w3.setCell ⟨w.heap.size + 1 + 1, 2, none⟩ (.int .u32 p.media) = w4 at *
  clear hc hb3
  refine hK12 _ _ ?_
  clear hK12 K12
  refine wp_seq_k fun K47 hK47 => ?_
  have hE48 := hE45.keep (l' := [(2, _), (3, _)]) ⟨hE45.get 2 rfl, hE45.get 3 rfl, trivial⟩
  clear hE45
  refine wp_region_lit ?_
  refine wpList_val hE48 140 rfl rfl fun K hK => ?_
  have e3 := hE48.get 3 rfl
  refine wp_load_blk 38 (.tmp 3) rfl (w.heap.size + 1 + 1) (hE48.ev 3 rfl) 38 _ _ hb4 Tryz.underlying38 rfl (by kernel_rfl) ?_
  refine hK _ _ fun a49 hE49 => ?_
  clear hK K e3
  clear hE48 a45
  refine wpList_none rfl fun K hK => ?_
  have e2 := hE49.get 2 rfl
  have e140 := hE49.get 140 rfl
  refine wp_store_blk 38 (.tmp 2) (.tmp 140) rfl (w.heap.size + 1) Pkt.zero.cells _ 38 (hE49.ev 2 rfl) (hE49.ev 140 rfl) hc4.rs rfl (by kernel_rfl) (pkt_one _) fun w5 hb5 hg5 hz5 => ?_
  refine hK undef _ ?_
  clear hK K e2 e140
  refine wpList_nil ?_
  refine hK47 _ _ ?_
  clear hK47 K47
  refine wp_ret ?_
  refine bodyPost_ret (results_cell_row Tryz.results25 _ _ (w.heap.size + 1) 38 _ (0, 0) _ (by simp [hE49.get 2 rfl]) hb5 Tryz.underlying38 rfl (by kernel_rfl)) hE49.defers ⟨rfl, hc4.below.grown hg5 (by have := hc4.below.size; omega) (fun k hk => by injection hk; omega)⟩

end Go.Proofs.YtmmfpgoodfgkbaaGreat
