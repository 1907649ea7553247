/-
  THE WALK of the thin package's turn of report blocks into the package's: the same numbers, in new memory. Condition: fewer than 2^40 blocks.
-/
import Derived.Test.YtmmfpgoodfgkbaaGreatReport
namespace Go.Proofs.YtmmfpgoodfgkbaaGreat
open Go Go.RowKit
set_option linter.unusedVariables false

def repsC (l : List Rep) : List Value := l.flatMap Rep.cells
theorem rep_cells_len : ∀ (l : List Rep), ∀ x ∈ l, (Rep.cells x).length = 7 := fun _ _ _ => rfl
theorem elemRep : Elem Tryz.prog 152 221 (.agg #[.int .u32 0, .int .u8 0, .int .u32 0, .int .u32 0, .int .u32 0, .int .u32 0, .int .u32 0]) 7 28 := ⟨Tryz.underlying152, by kernel_rfl, rfl, by omega, by omega⟩

set_option maxHeartbeats 2000000 in
theorem reports_any (B : Nat) (A : Option Addr) (c : Nat) (l : List Rep) (w : World) (hr : Reads w B 7 A l.length (repsC l)) (hB : B ≤ w.heap.size) (hn : l.length ≤ 1099511627776) :
    Calls Tryz.prog 55 #[.slice A (l.length : Nat) c] w fun e w' =>
      ∃ v, e = .returned v ∧ w'.ownsRow w.heap.size 221 7 v l.length (repsC l) ∧ Below w.heap.size w w' := by
  go_enter Tryz.func55, Tryz.ntmps55
  go_wp2_with fail
  go_loopw [3, 8] (fun v i wr => ∃ k : Nat, k ≤ l.length ∧ i = .int .i64 k ∧ wr.ownsRow w.heap.size 221 7 v k (repsC (l.take k)) ∧ Below w.heap.size w wr)
    (fun _ i _ => l.length - (intOf i).toNat)
  case atStart => exact ⟨0, by omega, rfl, World.ownsRow_nil _ _ _ _, Below.refl _ _⟩
  case round =>
    obtain ⟨k, hk, rfl, hown, hb⟩ := hrel
    have hz := hb.size
    by_cases hlt : k < l.length
    · obtain ⟨b, off, rfl, hbB⟩ := hr.addr (by omega) (by omega)
      have hrw := (hr.more hB).below hb
      obtain ⟨r, hrk⟩ : ∃ r, r = l[k] := ⟨_, rfl⟩
      have e0 := hrw.at2 (rep_cells_len l) k 0 hlt (by omega) (v := .int .u32 r.ssrc) (by rw [hrk]; rfl)
      have e1 := hrw.at2 (rep_cells_len l) k 1 hlt (by omega) (v := .int .u8 r.frac) (by rw [hrk]; rfl)
      have e2 := hrw.at2 (rep_cells_len l) k 2 hlt (by omega) (v := .int .u32 r.lost) (by rw [hrk]; rfl)
      have e3 := hrw.at2 (rep_cells_len l) k 3 hlt (by omega) (v := .int .u32 r.seq) (by rw [hrk]; rfl)
      have e4 := hrw.at2 (rep_cells_len l) k 4 hlt (by omega) (v := .int .u32 r.jit) (by rw [hrk]; rfl)
      have e5 := hrw.at2 (rep_cells_len l) k 5 hlt (by omega) (v := .int .u32 r.last) (by rw [hrk]; rfl)
      have e6 := hrw.at2 (rep_cells_len l) k 6 hlt (by omega) (v := .int .u32 r.dly) (by rw [hrk]; rfl)
      simp only [Nat.add_zero] at e0
      have Hrk := Lib.hid hrk
      clear hrk
      obtain ⟨x0, x1, x2, x3, x4, x5, x6⟩ := r
      simp only at e0 e1 e2 e3 e4 e5 e6
      go_wp2_with (at_builtin; refine wpList_app_one _ rfl _ _ _ rfl elemRep w.heap.size _ _ _ _ _ 1 _ (hown.alloc _) (by simp) rfl rfl rfl (by omega) (by intro u hu; simp at hu; rcases hu with rfl | rfl | rfl | rfl | rfl | rfl | rfl <;> rfl) (by omega) (by simp; omega) ?_; intro g2 cap2 w3 hown3 hg3 hat3)
      have et : repsC (l.take (k + 1)) = repsC (l.take k) ++ (⟨x0, x1, x2, x3, x4, x5, x6⟩ : Rep).cells := by
        unfold repsC
        rw [flat_take_succ _ _ _ hlt, Hrk.out]
      exact ⟨⟨k + 1, by omega, by go_num, own_eq hown3 rfl (by rw [et]; rfl), (hb.alloc hz _).grown hg3 (by simp; omega) (fun g hg => (hown.lt g hg).1)⟩, by simp [intOf]; omega⟩
    · obtain rfl : k = l.length := by omega
      go_wp2_with fail
      go_ret
      exact ⟨_, rfl, own_eq hown rfl (by rw [List.take_length]), hb⟩
end Go.Proofs.YtmmfpgoodfgkbaaGreat
