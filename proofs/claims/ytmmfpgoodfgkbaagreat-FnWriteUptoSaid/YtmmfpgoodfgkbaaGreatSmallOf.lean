/-
  A PACKET OF A SMALL BULK: no part of it is too long. Plain. No condition.
-/
import Derived.Test.YtmmfpgoodfgkbaaGreatOpenB
import Derived.Test.YtmmfpgoodfgkbaaGreatLens
namespace Go.Proofs.YtmmfpgoodfgkbaaGreat
open Go Go.RowKit
set_option linter.unusedVariables false

theorem sum_ones {α : Type} (l : List α) : (l.map fun _ => 1).sum = l.length := by
  induction l with
  | nil => rfl
  | cons x l ih => rw [List.map_cons, List.sum_cons, ih, List.length_cons]; omega
theorem mem_sum {α : Type} (f : α → Nat) : ∀ (l : List α) (x : α), x ∈ l → f x ≤ (l.map f).sum
  | y :: l, x, h => by
    rw [List.map_cons, List.sum_cons]
    rcases List.mem_cons.1 h with rfl | h
    · omega
    · have := mem_sum f l x h; omega
theorem len_sum {α : Type} (f : α → Nat) (hf : ∀ x, 1 ≤ f x) : ∀ l : List α, l.length ≤ (l.map f).sum
  | [] => by simp
  | y :: l => by
    rw [List.map_cons, List.sum_cons, List.length_cons]
    have := len_sum f hf l; have := hf y; omega
theorem sum_le4 {α : Type} (f g : α → Nat) (h : ∀ x, f x ≤ 4 * g x) : ∀ l : List α, (l.map f).sum ≤ 4 * (l.map g).sum
  | [] => by simp
  | y :: l => by
    rw [List.map_cons, List.sum_cons, List.map_cons, List.sum_cons]
    have := sum_le4 f g h l; have := h y; omega
theorem small_of (p : Pkt) (h : pktM p ≤ 1048576) : p.Small := by
  unfold pktM at h
  simp only [sum_ones] at h
  have hc : chunksLen p.chunks.l ≤ 4 * (p.chunks.l.map fun x => 2 + (x.items.l.map fun x : Item => 2 + x.text.size).sum).sum :=
    sum_le4 (fun x : Chunk => chunkLen x.items.l) _ (fun x => by
      have := pad4_le (5 + itsLen x.items.l)
      have e : itsLen x.items.l = (x.items.l.map fun x : Item => 2 + x.text.size).sum := rfl
      unfold chunkLen
      omega) p.chunks.l
  have hb : blosLen p.blocks.l ≤ 4 * (p.blocks.l.map fun x => 3 + x.mets.l.length).sum :=
    sum_le4 (fun x : Blo => bloLen x.mets.l.length) _ (fun x => by unfold bloLen; omega) p.blocks.l
  have hcl := len_sum (fun x : Chunk => 2 + (x.items.l.map fun x : Item => 2 + x.text.size).sum) (fun x => by omega) p.chunks.l
  have hbl := len_sum (fun x : Blo => 3 + x.mets.l.length) (fun x => by omega) p.blocks.l
  have hci : ∀ x ∈ p.chunks.l, 2 + (x.items.l.map fun x : Item => 2 + x.text.size).sum ≤ 1048576 := fun x hx => by
    have := mem_sum (fun x : Chunk => 2 + (x.items.l.map fun x : Item => 2 + x.text.size).sum) p.chunks.l x hx
    omega
  have hbm : ∀ x ∈ p.blocks.l, 3 + x.mets.l.length ≤ 1048576 := fun x hx => by
    have := mem_sum (fun x : Blo => 3 + x.mets.l.length) p.blocks.l x hx
    omega
  refine ⟨⟨by omega, by omega, by omega, by omega, by omega, by omega, by omega, by omega, by omega, fun x hx => ?_, fun x hx => ?_⟩, by omega, fun x hx i hi => ?_, by omega, by omega, by omega, by omega, by omega⟩
  · have h1 := len_sum (fun x : Item => 2 + x.text.size) (fun x => by omega) x.items.l
    have h2 := hci x hx
    omega
  · have h2 := hbm x hx
    omega
  · have h1 := mem_sum (fun x : Item => 2 + x.text.size) x.items.l i hi
    have h2 := hci x hx
    omega
end Go.Proofs.YtmmfpgoodfgkbaaGreat
