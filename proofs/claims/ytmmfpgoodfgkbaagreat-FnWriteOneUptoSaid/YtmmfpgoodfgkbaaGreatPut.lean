/-
  THE WALK of the write of a number into bytes. Condition: room.
-/
import Derived.Test.YtmmfpgoodfgkbaaGreatMPkt
namespace Go.Proofs.YtmmfpgoodfgkbaaGreat
open Go Go.RowKit
set_option linter.unusedVariables false
set_option maxHeartbeats 1000000 in
theorem put32_any (g off len cap : Nat) (bs : List Int) (x : Int) (w : World) (hb : Buf w g bs) (hl : 4 ≤ len) (ho : off + 4 ≤ bs.length) (h0 : 0 ≤ x) (h1 : x < 4294967296) :
    Calls Tryz.prog 102 #[.slice (some ⟨g, off, none⟩) len cap, .int .u32 x] w (PutIn w g bs off (be32 x)) := by
  have c0 := hb.cell (i := off) (by omega)
  have c1 := hb.cell (i := off + 1) (by omega)
  have c2 := hb.cell (i := off + 2) (by omega)
  have c3 := hb.cell (i := off + 3) (by omega)
  have f0 := hb.frozen off
  have f1 := hb.frozen (off + 1)
  have f2 := hb.frozen (off + 2)
  have f3 := hb.frozen (off + 3)
  have hl' : (3 : Int) < (len : Int) := by omega
  go_enter Tryz.func102, Tryz.ntmps102
  go_wp2
  go_end0
  refine ⟨rfl, ?_, ?_, by simp only [size_set]⟩
  · rw [be32_eq x h0]
    rw [put_cons _ _ _ _ (by omega), put_cons _ _ _ _ (by simp; omega), put_cons _ _ _ _ (by simp; omega), put_cons _ _ _ _ (by simp; omega), put_nil]
    exact (((hb.set off _).set (off + 1) _).set (off + 2) _).set (off + 3) _
  · exact grownBy_trans (grownBy_trans (grownBy_trans (grownBy_set _ _ _ _) (grownBy_set _ _ _ _) (.inl rfl)) (grownBy_set _ _ _ _) (.inl rfl)) (grownBy_set _ _ _ _) (.inl rfl)

end Go.Proofs.YtmmfpgoodfgkbaaGreat
