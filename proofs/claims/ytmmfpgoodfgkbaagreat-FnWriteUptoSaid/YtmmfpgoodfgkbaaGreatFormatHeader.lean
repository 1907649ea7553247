/-
  THE WALK of the reference's writing of a header without padding. Condition: the numbers fit, the count has five bits.
-/
import Derived.Test.YtmmfpgoodfgkbaaGreatMPkt
import Derived.Laws.BitsLemmas
namespace Go.Proofs.YtmmfpgoodfgkbaaGreat
open Go Go.RowKit
set_option linter.unusedVariables false

/-- The bytes of a header without padding. -/
def hdrB (count type len : Int) : List Int := [128 + count, type] ++ be16 len
set_option maxHeartbeats 1000000 in
theorem formatHeader_any (count type len : Int) (w : World) (hc0 : 0 ≤ count) (hc1 : count ≤ 31) (hl0 : 0 ≤ len) (hl1 : len < 65536) :
    Calls Tryz.prog 53 #[.agg #[.bool false, .int .u8 count, .int .u8 type, .int .u16 len]] w fun e w' =>
      ∃ g cap, e = .returned (.tuple #[.slice (some ⟨g, 0, none⟩) 4 cap, .bool true]) ∧ w'.ownsRow w.heap.size 5 1 (.slice (some ⟨g, 0, none⟩) 4 cap) 4 (u8s (hdrB count type len)) ∧ Below w.heap.size w w' := by
  have ho : bits .or .u8 128 count = 128 + count := u8_or128 count hc0 (by omega)
  have hlt : ¬ (31 : Int) < count := by omega
  go_enter Tryz.func53, Tryz.ntmps53
  go_wp2_with fail
  refine (p16_any (w.heap.size + 1) _ 2 [128 + count, type] len _ ?_ (by simp) (by omega) hl0 hl1).mono ?_
  · exact own_lit _ #[.int .u8 (128 + count), .int .u8 type] _ 2 1 _ (by simp) rfl (by omega)
  rintro e w1 ⟨g, cap, rfl, hown, hg, hat⟩
  go_wp2_with fail
  go_ret2
  refine ⟨g, cap, rfl, own_base hown (by omega), ?_⟩
  exact (((Below.refl _ _).alloc (Nat.le_refl _) _).alloc (by simp) _).grown hg (by simp; omega) (fun k hk => by simp [Value.ownBlock] at hk; omega)
end Go.Proofs.YtmmfpgoodfgkbaaGreat
