/-
  THE WALK of the thin package's writing of a report block: its bytes, and yes. Condition: the numbers fit their kinds, fewer than 2^24 packets are lost.
-/
import Derived.Test.YtcikhjolehlchaaDoorReports
import Derived.Test.YtcikhjolehlchaaDoorTry
namespace Go.Proofs.YtcikhjolehlchaaDoor
open Go Go.RowKit
set_option linter.unusedVariables false

def Rep.val (r : Rep) : Value := .agg #[.int .u32 r.ssrc, .int .u8 r.frac, .int .u32 r.lost, .int .u32 r.seq, .int .u32 r.jit, .int .u32 r.last, .int .u32 r.dly]

set_option maxHeartbeats 1000000 in
theorem formatClo_any (Br Bo : Nat) (r : Rep) (v : Value) (w : World) (h : r.Ok) (hl : r.lost < 16777216) (hr : Blk w Br 29 #[.int .u32 r.ssrc, .int .u8 r.frac, .int .u32 r.lost, .int .u32 r.seq, .int .u32 r.jit, .int .u32 r.last, .int .u32 r.dly]) (ho : Blk w Bo 25 #[v]) :
    Calls Tryd.prog 11 #[.pointer (some ⟨Br, 0, none⟩), .pointer (some ⟨Bo, 0, none⟩)] w fun e w' =>
      e = .returned (.bool true) ∧ ∃ g, Blk w' Bo 25 #[.slice (some ⟨g, 0, none⟩) 24 24] ∧ Buf w' g r.bytes ∧ w.heap.size ≤ g ∧ w.grownBy w' (some Bo) := by
  obtain ⟨x0, x1, x2, x3, x4, x5, x6⟩ := r
  simp only at hl hr
  have c0 : w.cell? ⟨Br, 0, none⟩ = some (.int .u32 x0) := hr.cell 0
  have c1 : w.cell? ⟨Br, 1, none⟩ = some (.int .u8 x1) := hr.cell 1
  have c2 : w.cell? ⟨Br, 2, none⟩ = some (.int .u32 x2) := hr.cell 2
  have c3 : w.cell? ⟨Br, 3, none⟩ = some (.int .u32 x3) := hr.cell 3
  have c4 : w.cell? ⟨Br, 4, none⟩ = some (.int .u32 x4) := hr.cell 4
  have c5 : w.cell? ⟨Br, 5, none⟩ = some (.int .u32 x5) := hr.cell 5
  have c6 : w.cell? ⟨Br, 6, none⟩ = some (.int .u32 x6) := hr.cell 6
  have hol := ho.lt
  go_enter Tryd.func11, Tryd.ntmps11
  go_wp2_with fail
  have hr1 : Reads (w.alloc (.cells #[.int .u32 x0, .int .u8 x1, .int .u32 x2, .int .u32 x3, .int .u32 x4, .int .u32 x5, .int .u32 x6] 29)) (w.heap.size + 1) 7 (some ⟨w.heap.size, 0, none⟩) 1 (repsC [⟨x0, x1, x2, x3, x4, x5, x6⟩]) := by
    exact Reads.more (xs := repsC [⟨x0, x1, x2, x3, x4, x5, x6⟩]) (reads_of_own (own_lit w #[.int .u32 x0, .int .u8 x1, .int .u32 x2, .int .u32 x3, .int .u32 x4, .int .u32 x5, .int .u32 x6] 29 1 7 _ rfl rfl (by omega))) (by simp)
  refine (reports_any (w.heap.size + 1) _ 1 [⟨x0, x1, x2, x3, x4, x5, x6⟩] _ hr1 (by simp) (by simp)).mono ?_
  rintro e w1 ⟨v1, rfl, hown1, hb1⟩
  obtain ⟨g1, cap1, rfl, hg1, _⟩ := hown1.form (by simp)
  have d0 := hown1.cellAt 0 (by simp)
  have d1 := hown1.cellAt 1 (by simp)
  have d2 := hown1.cellAt 2 (by simp)
  have d3 := hown1.cellAt 3 (by simp)
  have d4 := hown1.cellAt 4 (by simp)
  have d5 := hown1.cellAt 5 (by simp)
  have d6 := hown1.cellAt 6 (by simp)
  simp [repsC, Rep.cells] at d0 d1 d2 d3 d4 d5 d6
  go_wp2_with fail
  refine (repMarshal_any ⟨x0, x1, x2, x3, x4, x5, x6⟩ _ h hl).mono ?_
  rintro e w2 ⟨g, rfl, hbuf, hg, hb2⟩
  have hb02 : Below w.heap.size w w2 := (((Below.refl _ _).alloc (Nat.le_refl _) _).trans (hb1.mono (by simp))).trans (hb2.mono (by have := hb1.size; simp at this; omega))
  have ho2 : Blk w2 Bo 25 #[v] := ho.below hb02 hol
  have k0 : w2.cell? ⟨Bo, 0, none⟩ = some v := ho2.cell 0
  have kf := ho2.frozen 0
  have hz1 : w.heap.size + 1 ≤ w1.heap.size := by have := hb1.size; simp at this; omega
  have hgB : g ≠ Bo := by omega
  have qT : ∀ w : World, (binOp .eql 39 .nilIface .nilIface).run Tryd.prog w = .ok (.bool true) w := fun w => by kernel_rfl
  go_wp2
  go_ret
  exact ⟨rfl, g, ho2.set_ 0 _, hbuf.far (p := ⟨Bo, 0, none⟩) (by exact hgB) _, by omega, grownBy_trans (grownBy_of_below hb02 _) (grownBy_set _ _ _ _) (.inl rfl)⟩

def FmtQ (W : World) (Bo : Nat) (r : Rep) (b : Bool) (w' : World) : Prop :=
  b = true ∧ ∃ g, Blk w' Bo 25 #[.slice (some ⟨g, 0, none⟩) 24 24] ∧ Buf w' g r.bytes ∧ W.heap.size ≤ g ∧ W.grownBy w' (some Bo)

set_option maxHeartbeats 1000000 in
theorem implFormat_any (r : Rep) (w : World) (h : r.Ok) (hl : r.lost < 16777216) :
    Calls Tryd.prog 6 #[.agg #[.int .u32 r.ssrc, .int .u8 r.frac, .int .u32 r.lost, .int .u32 r.seq, .int .u32 r.jit, .int .u32 r.last, .int .u32 r.dly]] w fun e w' =>
      ∃ g, e = .returned (.tuple #[.slice (some ⟨g, 0, none⟩) 24 24, .bool true]) ∧ Buf w' g r.bytes ∧ w.heap.size ≤ g ∧ Below w.heap.size w w' := by
  have hmf : ∀ (fn : Fn) (first cap : Array Value) (w : World), (Instr.makeFunc fn first cap).run Tryd.prog w = .ok (.func fn first cap) w := fun _ _ _ _ => rfl
  go_enter Tryd.func6, Tryd.ntmps6
  go_wp2_with fail
  refine (try_any 11 _ _ (FmtQ (((w.alloc (.cells #[.int .u32 r.ssrc, .int .u8 r.frac, .int .u32 r.lost, .int .u32 r.seq, .int .u32 r.jit, .int .u32 r.last, .int .u32 r.dly] 29)).alloc (.cells #[.slice none 0 0] 25)).alloc (.cells #[.bool false] 4)) (w.heap.size + 1) r) (fun _ => by kernel_rfl)
    ((formatClo_any w.heap.size (w.heap.size + 1) r (.slice none 0 0) _ h hl (((blk_new w _ _ rfl).alloc _).alloc _) ((blk_new _ _ _ (by simp)).alloc _)).mono ?_)).mono ?_
  · rintro e w1 ⟨rfl, g, ho, hb, hg, hgr⟩
    exact ⟨true, rfl, ⟨rfl, g, ho, hb, hg, hgr⟩, (blk_new _ _ _ rfl).grown hgr (by simp)⟩
  · rintro e w2 ⟨b, w1, rfl, ⟨rfl, g, ho, hb, hg, hgr⟩, hgt, hzt⟩
    simp only [World.size_alloc] at hg hgt
    have hz1 := hgr.size
    simp only [World.size_alloc] at hz1
    have ho2 := ho.grown hgt (by simp)
    have hb2 := hb.grown hgt (by simp; omega)
    have hbl : Below w.heap.size w w2 := ((((Below.refl _ _).alloc (Nat.le_refl _) _).alloc (by simp) _).alloc (by simp; omega) _ |>.grown hgr (by simp; omega) (by intro k hk; simp at hk; omega)).grown hgt (by omega) (by intro k hk; simp at hk; omega)
    clear hgr hgt
    have k0 : w2.cell? ⟨w.heap.size + 1, 0, none⟩ = some (.slice (some ⟨g, 0, none⟩) 24 24) := ho2.cell 0
    have kf := ho2.frozen 0
    go_wp2_with fail
    have ho3 := ho2.set_ 0 (.slice (some ⟨g, 0, none⟩) 24 24)
    have k1 : (w2.setCell ⟨w.heap.size + 1, 0, none⟩ (.slice (some ⟨g, 0, none⟩) 24 24)).cell? ⟨w.heap.size + 1, 0, none⟩ = some (.slice (some ⟨g, 0, none⟩) 24 24) := ho3.cell 0
    refine bodyPost_ret (v := .tuple #[.slice (some ⟨g, 0, none⟩) 24 24, .bool true]) (by simp [results, Tryd.results6, go_sem, k1]) rfl ⟨g, rfl, hb2.far (p := ⟨w.heap.size + 1, 0, none⟩) (by simp; omega) _, by omega, hbl.setCell (p := ⟨w.heap.size + 1, 0, none⟩) (by simp) _⟩
end Go.Proofs.YtcikhjolehlchaaDoor
