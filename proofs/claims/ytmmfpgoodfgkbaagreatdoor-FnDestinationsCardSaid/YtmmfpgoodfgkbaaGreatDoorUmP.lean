/-
  THE WALKS of the thin package's reading of one packet, guard and closure. Condition: the contracts of the making of an empty packet, of its reading and of its plain form.
-/
import Derived.Test.YtmmfpgoodfgkbaaGreatDoorMTry
import Derived.Test.YtmmfpgoodfgkbaaGreatDoorMLaw
import Derived.Test.YtmmfpgoodfgkbaaGreatDoorPl
import Derived.Test.YtmmfpgoodfgkbaaGreatDoorMRk
import Derived.Test.YtmmfpgoodfgkbaaGreatDoorRone
namespace Go.Proofs.YtmmfpgoodfgkbaaGreatDoor
open Go Go.RowKit
set_option linter.unusedVariables false
set_option linter.unusedSimpArgs false

theorem Pkt.NewX.liesH {q : Pkt} {w : World} {B C D : Nat} (h : q.NewX w B C) (hl : ∀ g, B ≤ g ∧ g < C → g < D) : q.Lies w D :=
 ⟨h.new.reports.readsH hl, h.ext.readsH hl, h.new.chunks.readsH hl, fun x hx => (h.new.items x hx).readsH hl, h.src.readsH hl, h.data.readsH hl, h.new.pairs.readsH hl, h.new.slices.readsH hl, h.new.entries.readsH hl, h.new.blocks.readsH hl, fun x hx => (h.new.mets x hx).readsH hl, h.new.stats.readsH hl, fun x hx => (h.lists x hx).readsH hl, h.new.deltas.readsH hl⟩
def ckU (g b B E : Nat) (v : Value) (R : Pkt → Prop) : Ck :=
 ⟨fun x => x = g ∨ x = b ∨ (B ≤ x ∧ x < E), fun w => ∀ w', (∀ x, x = g ∨ x = b ∨ (B ≤ x ∧ x < E) → w'.heap[x]? = w.heap[x]?) → Calls Tryz.prog 78 #[v] w' (PlainOut w' R), fun _ _ h hw w2 h2 => hw w2 fun g hg => (h2 g hg).trans (h g hg)⟩
theorem ckU.plain {g b B E : Nat} {v : Value} {R : Pkt → Prop} {w : World} (h : (ckU g b B E v R).ok w) : Calls Tryz.prog 78 #[v] w (PlainOut w R) := h w fun _ _ => rfl
def ckQ (R : Pkt → Prop) (x : Pay) : Ck := ⟨fun y => x.g ≤ y ∧ y < x.c, fun w => (dP x.v).NewX w x.g x.c ∧ R (dP x.v), fun w w' hk h => ⟨h.1.st hk, h.2⟩⟩
def UmP (tp T : TypeId) (zc : Array Value) (z : List Int) (R : Pkt → Prop) : Prop :=
 ∀ g b c w, Blk w g T zc → RowD w (· = b) (some ⟨b, 0, none⟩) z → b < w.heap.size → b ≠ g → z.length ≤ c → Invk Tryz.prog w (.iface tp (.pointer (some ⟨g, 0, none⟩))) "Unmarshal" #[.slice (some ⟨b, 0, none⟩) z.length c] fun e w' => e = .returned .nilIface ∧ w.grownBy w' (some g) ∧ (ckU g b w.heap.size w'.heap.size (.iface tp (.pointer (some ⟨g, 0, none⟩))) R).ok w'
section
variable {P : Program} {olds : Nat → Prop} {w0 : World}
def ivA (name : String) (rd wr : List Nat) (V : Pay → Value) (W : Pay → List (Option Pc)) : Step P olds w0 where
 rd := rd
 wr := wr
 skip := false
 must := true
 V _ x := V x
 W _ x := W x
 chk i := [(.r fun w => i.sem.run P w, .r fun w => (callMethod (i.vals.headD undef) name i.vals.tail.toArray).run P w)]
 pre i := ∀ (L : PL) (w : World), i.ps = (rd ++ wr).map (lookP L) → Stp olds w0 w (restr (rd ++ wr) (lookM (den olds w0 L))) →
  Invk P w (i.vals.headD undef) name i.vals.tail.toArray fun e w' => ∃ x, e = .returned (V x) ∧ Stp (blksOf (lookM (den olds w0 L)) wr) w w' (lookM (den olds w0 (zipW wr (W x))))
 ok _ i L a w K Q hc hp hs _ hL hS hK := by
  have h1 := hc _ (List.mem_singleton.2 rfl)
  injection h1 with h1
  obtain ⟨f, fas, hr, hcl⟩ := hp rfl L w hL hS
  refine calls_op (f := f) (args := fas) (by rw [hs]; exact (congrFun h1 w).trans hr) (R := fun v w' => ∃ x, v = V x ∧ Stp (blksOf (lookM (den olds w0 L)) wr) w w' (lookM (den olds w0 (zipW wr (W x)))))
   (hcl.mono fun e w' ⟨x, he, hst⟩ => ⟨_, he, x, rfl, hst⟩) fun v w' ⟨x, hv, hst⟩ => ?_
  rw [hv]
  exact hK x w' hst
end
section
variable {olds : Nat → Prop} {w0 : World}
theorem cu_cl8 {B0 : Nat} {ps : List (Option Pc)} (k : Nat) (A : Option Addr) (c : Nat) (z : List Int) (hz : z.length ≤ 262144) (hB : B0 ≤ w0.heap.size) (ho : ∀ g, olds g → B0 ≤ g) (hr : Reads w0 B0 1 A z.length (u8s z))
  (L : PL) (w : World) (_ : ps = ([] ++ [k]).map (lookP L)) (hS : Stp olds w0 w (restr ([] ++ [k]) (lookM (den olds w0 L)))) :
  Calls Tryz.prog 45 #[.slice A z.length c] w fun e w' => ∃ x : Pay, e = .returned (.slice x.a z.length x.c) ∧ Stp (blksOf (lookM (den olds w0 L)) [k]) w w' (lookM (den olds w0 (zipW [k] [some (.row w0.heap.size 5 1 (.slice x.a z.length x.c) z.length (u8s z))]))) := by
 have hBw := hS.old B0 hB ho
 refine (clone8 B0 A z.length c (u8s z) w (hr.below hBw) (u8s_one z) (Nat.le_trans hB hS.size) (by omega)).mono ?_
 rintro e w' ⟨v, rfl, hown, hB2⟩
 obtain ⟨A2, c2, rfl⟩ := own_form hown
 exact ⟨⟨0, c2, undef, A2⟩, rfl, stp_make hB2 (own_base hown hS.size) fun g hg => ⟨(hown.lt g hg).2, (hown.lt g hg).1⟩⟩
end
end Go.Proofs.YtmmfpgoodfgkbaaGreatDoor
