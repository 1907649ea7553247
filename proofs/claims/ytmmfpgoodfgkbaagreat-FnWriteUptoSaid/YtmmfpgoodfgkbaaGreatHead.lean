/-
  WORDS FOR the reference's body of a packet. No condition.
-/
import Derived.Test.YtmmfpgoodfgkbaaGreatMPkt
import Derived.BigRegion
namespace Go.Proofs.YtmmfpgoodfgkbaaGreat
open Go Go.RowKit
set_option linter.unusedVariables false

/-- What 'form' hands back: a header without its length, the body's bytes, and whether they can be written. -/
def Formed (w : World) (count type : Int) (bs : List Int) (ok : Bool) (e : Ending) (w' : World) : Prop :=
  ∃ v, e = .returned (.tuple #[.agg #[.bool false, .int .u8 count, .int .u8 type, .int .u16 0], v, .bool ok]) ∧ w'.ownsRow w.heap.size 5 1 v bs.length (u8s bs) ∧ Below w.heap.size w w'

/-- In 'form': the packet, the header, the flag. -/
structure Head (p : Pkt) (w : World) (count type : Int) (ok : Bool) (wx : World) : Prop where
  pk : Blk wx w.heap.size 38 p.cells
  hd : Blk wx (w.heap.size + 1) 36 #[.bool false, .int .u8 count, .int .u8 type, .int .u16 0]
  ok : Blk wx (w.heap.size + 1 + 1) 4 #[.bool ok]
  below : Below w.heap.size w wx
theorem Head.drew {p : Pkt} {w wx : World} {c t : Int} {b : Bool} (h : Head p w c t b wx) : Head p w c t b wx.drew := ⟨h.pk.drew, h.hd.drew, h.ok.drew, h.below.drew⟩
theorem Head.lt {p : Pkt} {w wx : World} {c t : Int} {b : Bool} (h : Head p w c t b wx) : w.heap.size + 3 ≤ wx.heap.size := by have := h.ok.lt; omega
theorem Head.grown {p : Pkt} {w wx w' : World} {c t : Int} {b : Bool} (h : Head p w c t b wx) {row : Option Nat} (hg : wx.grownBy w' row) (hr : ∀ k, row = some k → w.heap.size + 3 ≤ k) : Head p w c t b w' := by
  have hl := h.lt
  refine ⟨h.pk.grown hg ?_, h.hd.grown hg ?_, h.ok.grown hg ?_, h.below.grown hg (by omega) (fun k hk => by have := hr k hk; omega)⟩
  · intro e; have := hr _ e.symm; omega
  · intro e; have := hr _ e.symm; omega
  · intro e; have := hr _ e.symm; omega
theorem Head.alloc {p : Pkt} {w wx : World} {c t : Int} {b : Bool} (h : Head p w c t b wx) (o : Obj) : Head p w c t b (wx.alloc o) := ⟨h.pk.alloc o, h.hd.alloc o, h.ok.alloc o, h.below.alloc (by have := h.lt; omega) o⟩

theorem own_drew {w : World} {base : Nat} {e : TypeId} {size : Nat} {v : Value} {n : Nat} {xs : List Value} (h : w.ownsRow base e size v n xs) : w.drew.ownsRow base e size v n xs := h
set_option maxHeartbeats 1000000 in
/-- Behind the last statement of 'form': what is written back is what was there. -/
theorem form_end {p : Pkt} {w wb : World} {c t : Int} {b : Bool} {B n : Nat} {v : Value} {bs : List Int} (h : Head p w c t b wb) (hown : wb.ownsRow B 5 1 v n (u8s bs)) (hB : w.heap.size + 3 ≤ B) (hn : n = bs.length) :
    ∃ wf, wf = (((((wb.setCell ⟨w.heap.size + 1, 0, none⟩ (.bool false)).setCell ⟨w.heap.size + 1, 1, none⟩ (.int .u8 c)).setCell ⟨w.heap.size + 1, 2, none⟩ (.int .u8 t)).setCell ⟨w.heap.size + 1, 3, none⟩ (.int .u16 0)).setCell ⟨w.heap.size + 1 + 1, 0, none⟩ (.bool b)).drew ∧
      wf.cell? ⟨w.heap.size + 1, 0, none⟩ = some (.bool false) ∧ wf.cell? ⟨w.heap.size + 1, 1, none⟩ = some (.int .u8 c) ∧ wf.cell? ⟨w.heap.size + 1, 2, none⟩ = some (.int .u8 t) ∧ wf.cell? ⟨w.heap.size + 1, 3, none⟩ = some (.int .u16 0) ∧ wf.cell? ⟨w.heap.size + 1 + 1, 0, none⟩ = some (.bool b) ∧
      wf.ownsRow w.heap.size 5 1 v bs.length (u8s bs) ∧ Below w.heap.size w wf := by
  have hne : ∀ k, v.ownBlock = some k → w.heap.size + 3 ≤ k := fun k hk => Nat.le_trans hB (hown.lt k hk).1
  have hd : Blk (((((wb.setCell ⟨w.heap.size + 1, 0, none⟩ (.bool false)).setCell ⟨w.heap.size + 1, 1, none⟩ (.int .u8 c)).setCell ⟨w.heap.size + 1, 2, none⟩ (.int .u8 t)).setCell ⟨w.heap.size + 1, 3, none⟩ (.int .u16 0)).setCell ⟨w.heap.size + 1 + 1, 0, none⟩ (.bool b)) (w.heap.size + 1) 36 #[.bool false, .int .u8 c, .int .u8 t, .int .u16 0] :=
    ((((h.hd.set_ 0 (.bool false)).set_ 1 (.int .u8 c)).set_ 2 (.int .u8 t)).set_ 3 (.int .u16 0)).far (p := ⟨w.heap.size + 1 + 1, 0, none⟩) (by simp) _
  have ok : Blk (((((wb.setCell ⟨w.heap.size + 1, 0, none⟩ (.bool false)).setCell ⟨w.heap.size + 1, 1, none⟩ (.int .u8 c)).setCell ⟨w.heap.size + 1, 2, none⟩ (.int .u8 t)).setCell ⟨w.heap.size + 1, 3, none⟩ (.int .u16 0)).setCell ⟨w.heap.size + 1 + 1, 0, none⟩ (.bool b)) (w.heap.size + 1 + 1) 4 #[.bool b] :=
    Blk.set_ ((((h.ok.far (p := ⟨w.heap.size + 1, 0, none⟩) (by simp) (.bool false)).far (p := ⟨w.heap.size + 1, 1, none⟩) (by simp) (.int .u8 c)).far (p := ⟨w.heap.size + 1, 2, none⟩) (by simp) (.int .u8 t)).far (p := ⟨w.heap.size + 1, 3, none⟩) (by simp) (.int .u16 0)) 0 (.bool b)
  refine ⟨_, rfl, (hd.drew.cell 0).trans rfl, (hd.drew.cell 1).trans rfl, (hd.drew.cell 2).trans rfl, (hd.drew.cell 3).trans rfl, (ok.drew.cell 0).trans rfl, ?_, ?_⟩
  · refine own_base (own_eq (own_drew (own_setCell (own_setCell (own_setCell (own_setCell (own_setCell hown ?_ _) ?_ _) ?_ _) ?_ _) ?_ _)) hn rfl) (by omega) <;> (intro e; have := hne _ e; simp at this; try omega)
  · exact (((((h.below.setCell (p := ⟨w.heap.size + 1, 0, none⟩) (show w.heap.size ≤ w.heap.size + 1 by omega) _).setCell (p := ⟨w.heap.size + 1, 1, none⟩) (show w.heap.size ≤ w.heap.size + 1 by omega) _).setCell (p := ⟨w.heap.size + 1, 2, none⟩) (show w.heap.size ≤ w.heap.size + 1 by omega) _).setCell (p := ⟨w.heap.size + 1, 3, none⟩) (show w.heap.size ≤ w.heap.size + 1 by omega) _).setCell (p := ⟨w.heap.size + 1 + 1, 0, none⟩) (show w.heap.size ≤ w.heap.size + 1 + 1 by omega) _).drew

/-- Behind the head of 'form': the header holds the kind's count and number. -/
theorem head_end {p : Pkt} {w w3 : World} (h : Head p w 0 0 true w3) (c t : Int) (o1 o2 : Obj) :
    Head p w c t true ((((((w3.setCell ⟨w.heap.size + 1, 0, none⟩ (.bool false)).setCell ⟨w.heap.size + 1, 1, none⟩ (.int .u8 c)).setCell ⟨w.heap.size + 1, 2, none⟩ (.int .u8 t)).setCell ⟨w.heap.size + 1, 3, none⟩ (.int .u16 0)).alloc o1).alloc o2).drew := by
  refine Head.drew (Head.alloc (Head.alloc ⟨?_, ?_, ?_, ?_⟩ _) _)
  · exact (((h.pk.far (p := ⟨w.heap.size + 1, 0, none⟩) (by simp) _).far (p := ⟨w.heap.size + 1, 1, none⟩) (by simp) _).far (p := ⟨w.heap.size + 1, 2, none⟩) (by simp) _).far (p := ⟨w.heap.size + 1, 3, none⟩) (by simp) _
  · exact (((h.hd.set_ 0 (.bool false)).set_ 1 (.int .u8 c)).set_ 2 (.int .u8 t)).set_ 3 (.int .u16 0)
  · exact (((h.ok.far (p := ⟨w.heap.size + 1, 0, none⟩) (by simp) _).far (p := ⟨w.heap.size + 1, 1, none⟩) (by simp) _).far (p := ⟨w.heap.size + 1, 2, none⟩) (by simp) _).far (p := ⟨w.heap.size + 1, 3, none⟩) (by simp) _
  · exact (((h.below.setCell (p := ⟨w.heap.size + 1, 0, none⟩) (show w.heap.size ≤ w.heap.size + 1 by omega) _).setCell (p := ⟨w.heap.size + 1, 1, none⟩) (show w.heap.size ≤ w.heap.size + 1 by omega) _).setCell (p := ⟨w.heap.size + 1, 2, none⟩) (show w.heap.size ≤ w.heap.size + 1 by omega) _).setCell (p := ⟨w.heap.size + 1, 3, none⟩) (show w.heap.size ≤ w.heap.size + 1 by omega) _
end Go.Proofs.YtmmfpgoodfgkbaaGreat
