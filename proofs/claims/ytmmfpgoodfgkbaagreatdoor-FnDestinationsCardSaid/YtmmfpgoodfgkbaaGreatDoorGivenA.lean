/-
  THE WALK of the law's turn of a packet into the thin package's: the same numbers and texts, the lists in new memory. Condition: fewer than 2^31 elements in each list.
-/
import Derived.Test.YtmmfpgoodfgkbaaGreatDoorMStep
import Derived.Test.YtmmfpgoodfgkbaaGreatDoorMRk
import Derived.Test.YtmmfpgoodfgkbaaGreatDoorMPkt
namespace Go.Proofs.YtmmfpgoodfgkbaaGreatDoor
open Go Go.RowKit
set_option linter.unusedVariables false

abbrev ckItems (B : Nat) (l : List Chunk) : Pc := .ck (ckRs B 108 2 (fun x : Chunk => x.items.val) (fun x => x.items.l.flatMap Item.cells) (fun x => x.items.l.length) l)
theorem stp_items {olds : Nat → Prop} {w0 w : World} {L : PL} {B : Nat} {l : List Chunk} (h : Stp olds w0 w (lookM (den olds w0 L))) (k k2 : Nat) (x : Chunk) (hne : k ≠ k2) (hk : lookP L k = some (ckItems B l) := by kernel_rfl) (hk2 : lookP L k2 = some (.row B 108 2 x.items.val x.items.l.length (x.items.l.flatMap Item.cells)) := by kernel_rfl) : Stp olds w0 w (lookM (den olds w0 ((k, some (ckItems B (l ++ [x]))) :: (k2, none) :: L))) :=
 Stp.merge h k k2 x (by rw [lookM_den, hk]; rfl) (by rw [lookM_den, hk2]; rfl) hne
theorem own_items {olds : Nat → Prop} {w0 w : World} {L : PL} {B : Nat} {l : List Chunk} (h : Stp olds w0 w (lookM (den olds w0 L))) (k : Nat) (x : Chunk) (hx : x ∈ l) (hk : lookP L k = some (ckItems B l) := by kernel_rfl) : w.ownsRow B 108 2 x.items.val x.items.l.length (x.items.l.flatMap Item.cells) := (show (Pc.den olds w0 (ckItems B l)).ok w from h.ok k _ (by rw [lookM_den, hk]; rfl)) x hx
theorem stp_items0 {olds : Nat → Prop} {w0 w : World} {L : PL} (h : Stp olds w0 w (lookM (den olds w0 L))) (k B : Nat) : Stp olds w0 w (lookM (den olds w0 ((k, some (ckItems B [])) :: L))) := ckRs_nil h k B 108 2 _ _ _
abbrev ckMets (B : Nat) (l : List Blo) : Pc := .ck (ckRs B 126 3 (fun x : Blo => x.mets.val) (fun x => x.mets.l.flatMap Met.cells) (fun x => x.mets.l.length) l)
theorem stp_mets {olds : Nat → Prop} {w0 w : World} {L : PL} {B : Nat} {l : List Blo} (h : Stp olds w0 w (lookM (den olds w0 L))) (k k2 : Nat) (x : Blo) (hne : k ≠ k2) (hk : lookP L k = some (ckMets B l) := by kernel_rfl) (hk2 : lookP L k2 = some (.row B 126 3 x.mets.val x.mets.l.length (x.mets.l.flatMap Met.cells)) := by kernel_rfl) : Stp olds w0 w (lookM (den olds w0 ((k, some (ckMets B (l ++ [x]))) :: (k2, none) :: L))) :=
 Stp.merge h k k2 x (by rw [lookM_den, hk]; rfl) (by rw [lookM_den, hk2]; rfl) hne
theorem own_mets {olds : Nat → Prop} {w0 w : World} {L : PL} {B : Nat} {l : List Blo} (h : Stp olds w0 w (lookM (den olds w0 L))) (k : Nat) (x : Blo) (hx : x ∈ l) (hk : lookP L k = some (ckMets B l) := by kernel_rfl) : w.ownsRow B 126 3 x.mets.val x.mets.l.length (x.mets.l.flatMap Met.cells) := (show (Pc.den olds w0 (ckMets B l)).ok w from h.ok k _ (by rw [lookM_den, hk]; rfl)) x hx
theorem stp_mets0 {olds : Nat → Prop} {w0 w : World} {L : PL} (h : Stp olds w0 w (lookM (den olds w0 L))) (k B : Nat) : Stp olds w0 w (lookM (den olds w0 ((k, some (ckMets B [])) :: L))) := ckRs_nil h k B 126 3 _ _ _

end Go.Proofs.YtmmfpgoodfgkbaaGreatDoor
