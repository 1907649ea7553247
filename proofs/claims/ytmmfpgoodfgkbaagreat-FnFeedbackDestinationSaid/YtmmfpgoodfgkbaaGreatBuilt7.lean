/-
  THE WALKS of the thin package's making of a packet of the package: two numbers alone. Condition: the kind.
-/
import Derived.Test.YtmmfpgoodfgkbaaGreatPkt
import Derived.BigRegion
namespace Go.Proofs.YtmmfpgoodfgkbaaGreat
open Go Go.RowKit
set_option linter.unusedVariables false

set_option maxHeartbeats 1000000 in
set_option maxRecDepth 10000 in
theorem built_7 (p : Pkt) (w : World) (hk : p.kind = 7) :
    Calls Tryz.prog 29 #[.agg p.cells] w fun e w' =>
      ∃ g, e = .returned (.iface 174 (.pointer (some ⟨g, 0, none⟩))) ∧ Blk w' g 176 #[.int .u32 p.sender, .int .u32 p.media] ∧ w.heap.size ≤ g ∧ Below w.heap.size w w' := by
  have hp0 : p.cells[0]? = some (.int .i64 7) := by rw [← hk]; rfl
  have hp1 : p.cells[1]? = some (.int .u32 p.sender) := rfl
  have hp2 : p.cells[2]? = some (.int .u32 p.media) := rfl
  go_enter Tryz.func29, Tryz.ntmps29
  go_wp2_with fail
  go_ret
  exact ⟨_, rfl, blk_new _ _ _ (by simp), by omega, ((Below.refl _ _).alloc (Nat.le_refl _) _).alloc (by simp) _⟩

set_option maxHeartbeats 1000000 in
set_option maxRecDepth 10000 in
theorem built_9 (p : Pkt) (w : World) (hk : p.kind = 9) :
    Calls Tryz.prog 29 #[.agg p.cells] w fun e w' =>
      ∃ g, e = .returned (.iface 182 (.pointer (some ⟨g, 0, none⟩))) ∧ Blk w' g 183 #[.int .u32 p.sender, .int .u32 p.media] ∧ w.heap.size ≤ g ∧ Below w.heap.size w w' := by
  have hp0 : p.cells[0]? = some (.int .i64 9) := by rw [← hk]; rfl
  have hp1 : p.cells[1]? = some (.int .u32 p.sender) := rfl
  have hp2 : p.cells[2]? = some (.int .u32 p.media) := rfl
  go_enter Tryz.func29, Tryz.ntmps29
  go_wp2_with fail
  go_ret
  exact ⟨_, rfl, blk_new _ _ _ (by simp), by omega, ((Below.refl _ _).alloc (Nat.le_refl _) _).alloc (by simp) _⟩
end Go.Proofs.YtmmfpgoodfgkbaaGreat
