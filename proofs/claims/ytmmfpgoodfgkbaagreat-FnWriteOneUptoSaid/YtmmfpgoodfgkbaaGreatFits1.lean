/-
  THE WALK of the test on a packet's lengths. Condition: the packet's slices read as lists.
-/
import Derived.Test.YtmmfpgoodfgkbaaGreatFits
namespace Go.Proofs.YtmmfpgoodfgkbaaGreat
open Go Go.RowKit
set_option linter.unusedVariables false

/-- A truth value is handed back; yes: the two lists are not too long; nothing has turned. -/
def Fits (p : Pkt) (w : World) (e : Ending) (w' : World) : Prop := ∃ b, e = .returned (.bool b) ∧ (b = true → p.pairs.l.length ≤ 2147483647 ∧ p.slices.l.length ≤ 2147483647) ∧ Below w.heap.size w w'
theorem Fits.no {p : Pkt} {w w' : World} (h : Below w.heap.size w w') : Fits p w (.returned (.bool false)) w' := ⟨false, rfl, by simp, h⟩

set_option maxHeartbeats 1000000 in
theorem zzFits1_any (p : Pkt) (w : World) (h : p.Lies w w.heap.size) :
    Calls Tryz.prog 7 #[.agg p.cells] w (Fits p w) := by
  have hp7 : p.cells[7]? = some (.slice p.reports.A (p.reports.l.length : Nat) p.reports.c) := rfl
  have hp8 : p.cells[8]? = some (.slice p.ext.A (p.ext.l.length : Nat) p.ext.c) := rfl
  have hp9 : p.cells[9]? = some (.slice p.chunks.A (p.chunks.l.length : Nat) p.chunks.c) := rfl
  have hb0 : Below w.heap.size w (w.alloc (.cells p.cells 38)) := (Below.refl _ _).alloc (Nat.le_refl _) _
  go_enter Tryz.func7, Tryz.ntmps7
  go_wp2_with fail
  all_goals try (go_ret; exact Fits.no hb0)
  refine (zzFits2_any w.heap.size p.chunks.A p.chunks.c p.chunks.l _ (h.chunks.below hb0) (fun x hx => (h.items x hx).below hb0) (by simp)).mono ?_
  rintro e w1 ⟨b1, rfl, hb1⟩
  have hx1 : Blk w1 w.heap.size 38 p.cells := (blk_new w _ _ rfl).below hb1 (by simp)
  have hb : Below w.heap.size w w1 := hb0.trans (hb1.mono (by simp))
  clear hp7 hp8 hp9 hb0
  have hz1 := hb.size
  have c10 : w1.cell? ⟨w.heap.size, 10, none⟩ = some (.slice p.sources.A (p.sources.l.length : Nat) p.sources.c) := hx1.cell 10
  have c11 : w1.cell? ⟨w.heap.size, 11, none⟩ = some (.string p.text) := hx1.cell 11
  have c13 : w1.cell? ⟨w.heap.size, 13, none⟩ = some (.slice p.data.A (p.data.l.length : Nat) p.data.c) := hx1.cell 13
  have c14 : w1.cell? ⟨w.heap.size, 14, none⟩ = some (.slice p.pairs.A (p.pairs.l.length : Nat) p.pairs.c) := hx1.cell 14
  have c15 : w1.cell? ⟨w.heap.size, 15, none⟩ = some (.slice p.slices.A (p.slices.l.length : Nat) p.slices.c) := hx1.cell 15
  have c16 : w1.cell? ⟨w.heap.size, 16, none⟩ = some (.slice p.entries.A (p.entries.l.length : Nat) p.entries.c) := hx1.cell 16
  have c18 : w1.cell? ⟨w.heap.size, 18, none⟩ = some (.slice p.blocks.A (p.blocks.l.length : Nat) p.blocks.c) := hx1.cell 18
  cases b1
  · go_wp2_with fail
    go_ret
    exact Fits.no hb
  by_cases hpl : (2147483647 : Int) < ((p.pairs.l.length : Nat) : Int)
  · go_wp2_with fail
    all_goals (go_ret; exact Fits.no hb)
  by_cases hsl : (2147483647 : Int) < ((p.slices.l.length : Nat) : Int)
  · go_wp2_with fail
    all_goals (go_ret; exact Fits.no hb)
  go_wp2_with fail
  all_goals try (go_ret; exact Fits.no hb)
  refine (zzFits6_any w.heap.size p.blocks.A p.blocks.c p.blocks.l _ (h.blocks.below hb) hz1).mono ?_
  rintro e w2 ⟨b2, rfl, hb2⟩
  have hx2 := hx1.below hb2 hx1.lt
  have hbb : Below w.heap.size w w2 := hb.trans (hb2.mono hz1)
  have hz2 := hbb.size
  have c24 : w2.cell? ⟨w.heap.size, 24, none⟩ = some (.slice p.stats.A (p.stats.l.length : Nat) p.stats.c) := hx2.cell 24
  clear c10 c11 c13 c14 c15 c16 c18
  cases b2
  · go_wp2_with fail
    go_ret
    exact Fits.no hbb
  go_wp2_with fail
  refine (zzFits8_any w.heap.size p.stats.A p.stats.c p.stats.l _ (h.stats.below hbb) hz2).mono ?_
  rintro e w3 ⟨b3, rfl, hb3⟩
  have hx3 := hx2.below hb3 hx2.lt
  have hb' : Below w.heap.size w w3 := hbb.trans (hb3.mono hz2)
  have c25 : w3.cell? ⟨w.heap.size, 25, none⟩ = some (.slice p.deltas.A (p.deltas.l.length : Nat) p.deltas.c) := hx3.cell 25
  clear c24
  cases b3
  · go_wp2_with fail
    go_ret
    exact Fits.no hb'
  go_wp2_with fail
  · go_ret
    exact Fits.no hb'
  · go_ret
    exact ⟨true, rfl, fun _ => ⟨by omega, by omega⟩, hb'⟩
end Go.Proofs.YtmmfpgoodfgkbaaGreat
