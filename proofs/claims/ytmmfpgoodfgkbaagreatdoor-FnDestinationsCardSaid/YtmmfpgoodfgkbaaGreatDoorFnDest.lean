/-
  The law on the sources of raw packets returns true for all data. Condition of the row: the listed variables read as the program's text lays them.
-/
import Derived.Test.YtmmfpgoodfgkbaaGreatDoorMRod
import Derived.Test.YtmmfpgoodfgkbaaGreatDoorCards
import Derived.Test.YtmmfpgoodfgkbaaGreatDoorTie
import Derived.ProofKit
import Derived.OpenShut
import Derived.ChangeOld
import Derived.LaidMore
import Derived.Deep.DeepHandedRow
import Derived.Deep.DeepWitnessRowRef
namespace Go.Proofs.YtmmfpgoodfgkbaaGreatDoor.fnDestinations
open Go Go.ChangeShapes Go.WideShapes Go.ChangeAt Go.RowKit Go.Proofs.YtmmfpgoodfgkbaaGreatDoor
set_option maxHeartbeats 4000000
set_option maxRecDepth 100000
set_option linter.unusedVariables false

def IsRow8 (w : World) (a : Option Addr) (len cap : Nat) (zs : List Int) : Prop :=
 (a = none ∧ len = 0 ∧ cap = 0 ∧ zs = []) ∨
 ∃ x, a = some x ∧ len ≤ cap ∧ cap ≤ maxLen ∧ zs.length = cap ∧ (∀ i, i < zs.length → w.cell? (x.add i) = some (.int .u8 (zs.getD i 0))) ∧ ∀ n ∈ zs, (Lit.int .u8 n).wf = true

theorem walk_none (a : Option Addr) (c : Nat) (w : World) :
  Calls Tryz.prog 4 #[.slice a 0 c] w fun e w' => e = .returned (.bool true) ∧ Below w.heap.size w w' :=
 lawD_any (fun _ => False) a c [] w ⟨rfl, fun h => absurd h (Nat.lt_irrefl _)⟩ (by decide) (fun x hx => by cases hx)
  (fun w' _ => readOne_hdr _ a c [] w' fun w1 _ => readHeader_short a 0 c w1 (by decide)) (fun _ h => h.elim)

theorem walk (a : Option Addr) (len cap : Nat) (zs : List Int) (w : World) (h : IsRow8 w a len cap zs) :
  Calls Tryz.prog 4 #[.slice a len cap] w fun e w' => e = .returned (.bool true) ∧ Below w.heap.size w w' := by
 by_cases h0 : len = 0
 ·subst h0
  exact walk_none a cap w
 rcases h with ⟨_, h, _⟩ | ⟨x, rfl, hl, hm, hz, hcell, hwz⟩
 ·exact absurd h h0
 have hlen : (zs.take len).length = len := by rw [List.length_take]; omega
 by_cases hbig : 131072 < len
 ·have := lawD_big (some x) cap (zs.take len) w (by omega)
  rw [hlen] at this
  exact this
 obtain ⟨b, o, spot⟩ := x
 have hc0 := hcell 0 (by omega)
 obtain rfl : spot = none := by simpa [Addr.add] using World.cell?_spot hc0
 have hb : b < w.heap.size := World.block_lt_of_cell? w ⟨b, o, none⟩ (by simpa [Addr.add] using hc0)
 have hby : Byts (zs.take len) := by
  intro n hn
  have := hwz n (List.mem_of_mem_take hn)
  simp only [Lit.wf, Bool.and_eq_true, decide_eq_true_eq] at this
  have hmin : IntKind.u8.min = 0 := rfl
  have hmax : IntKind.u8.max = 255 := rfl
  omega
 have hr : Reads w w.heap.size 1 (some ⟨b, o, none⟩) (zs.take len).length (u8s (zs.take len)) := by
  refine ⟨by rw [u8s_len]; omega, fun _ => ⟨_, rfl, hb, fun j u hu => ?_⟩⟩
  have hj : j < (zs.take len).length := by simpa [u8s] using (List.getElem?_eq_some_iff.1 hu).1
  have hj2 : j < len := by omega
  rw [hcell j (by omega), ← hu, u8s_at hj]
  simp [List.getD, List.getElem?_eq_getElem (show j < zs.length by omega)]
 have := lawD_any (fun q => q.kind = 0 ∨ DestOk (zs.take len)) (some ⟨b, o, none⟩) cap (zs.take len) w hr (by omega) hby
  (fun w' hb' => rod_any b o cap (zs.take len) w' hby (by omega) (by omega) ((hr.below hb').more hb'.size)) (fun _ h => h)
 rw [hlen] at this
 exact this

theorem own : ownKnob Tryz.prog.godebug = none := by kernel_rfl
theorem laidOut : laidOutB Tryz.prog = true := by kernel_rfl

theorem door_met (os : Os) (args : Array Value) : laidMetH Tryz.prog Rows.fnDestinationsRow.laid ((World.doorLaid Tryz.prog 427 os).forCall (fun _ _ => 0) ⟨#[], args, []⟩).memory :=
 laidMetH_of_parts3 (fuel := 8) (laidMet_of_run' 8 (by kernel_rfl) (by kernel_rfl)) (by kernel_rfl) (by kernel_rfl)

theorem lifted (os : Os) (started : os.Started) (H : Type) (enc : TypeId × Value → H) :
  ReturnsInHanded {} Tryz.checked os 4 .any (fun w args => (Rows.fnDestinationsSpec.pre enc Tryz.prog Tryz.f4 [] false w args ∧ laidMetH Tryz.prog Rows.fnDestinationsRow.laid w) ∧ sizedMet enc Tryz.prog Tryz.f4 (OpenSpec.ofChange Rows.fnDestinationsSpec) false w args)
   (Rows.fnDestinationsSpec.post enc Tryz.prog Tryz.f4 false true false false) := by
 refine returnsInHanded_of_change_and (C := Tryz.checked) (X := fun w _ => laidMetH Tryz.prog Rows.fnDestinationsRow.laid w) (fun _ _ _ hh h => h.of_heap hh) own started (by kernel_rfl) Tryz.func4
  (ChangeSpec.witness_shaped (enc := enc) (C := Tryz.checked) (os := os) (X := fun w _ => laidMetH Tryz.prog Rows.fnDestinationsRow.laid w) false (World.doorLaid Tryz.prog 427 os) #[.slice none 0 0] 8 rfl (World.shaped_of_RefB (by kernel_rfl) (by kernel_rfl)) (by kernel_rfl) (by kernel_rfl) (by kernel_rfl) (door_met os _)) ?_
 intro W base args ds gs before hval0 hW _ _ hL _
 have hval : ∀ (j : Nat) t v, Tryz.f4.params[j]? = some t → args[j]? = some v → Value.okWide Tryz.prog W .any base t v := hval0
 have hW' := hW
 obtain ⟨p, q, hA0, hV, rfl, hfz, hnd⟩ := hW
 have hA : DataW.TrodAll enc Tryz.prog W 0 (fun _ => true) true Tryz.f4.params.toList args.toList ds p := hA0
 rw [Tryz.params4] at hA hval
 obtain ⟨v0, vs0, d0, ds0, p0, q0, hargs, rfl, rfl, h0, r0⟩ := trodAll_cons hA
 obtain ⟨rfl, rfl, rfl⟩ := trodAll_nil r0
 obtain rfl : args = #[v0] := by cases args; simp_all
 obtain ⟨rfl, rfl⟩ := trodVars_none hV
 obtain ⟨a0, len0, cap0, rfl⟩ := okWide_slice Tryz.underlying25 (hval 0 25 v0 rfl rfl)
 have k0 := h0
 have lt0 : ∀ x ∈ p0, x.block < W.heap.size := by obtain ⟨m, hm⟩ := k0; exact DataW.trod_lt m _ _ _ hm
 obtain ⟨z0, w0⟩ : ∃ zs, IsRow8 W a0 len0 cap0 zs := by
  obtain ⟨fuel, hf⟩ := h0
  rcases open_ints Tryz.underlying25 Tryz.underlying5 (by kernel_rfl) hf with ⟨hcs, _⟩ | ⟨x, l, c, zs, hcs, _, hl, hm, hz, _, hcell, hwz⟩
  ·simp [Value.cells] at hcs
   obtain ⟨rfl, rfl, rfl⟩ := hcs
   exact ⟨[], .inl ⟨rfl, rfl, rfl, rfl⟩⟩
  ·simp [Value.cells] at hcs
   obtain ⟨rfl, rfl, rfl⟩ := hcs
   exact ⟨zs, .inr ⟨_, rfl, hl, hm, by simpa using hz, hcell, hwz⟩⟩
 clear hA0 hval0
 refine (walk a0 len0 cap0 z0 W w0).mono fun e W' ⟨he, bel⟩ => ?_
 subst he
 exact ⟨_, rfl, _, _, _, [], _, [], hW', trodAll_mk1 (shut_bool Tryz.underlying4 _), (trodAll_cons_mk (Below.trod laidOut (by kernel_rfl) (of_decide_eq_true (by kernel_rfl)) k0 bel lt0) trodAll_mk0), rfl, bel.frame _, fun h => by cases h⟩

theorem said : Rows.FnDestinationsSaid :=
 OpenClaim.holds_of_wide 4 Tryz.f4 rfl rfl rfl rfl rfl rfl rfl ⟨rfl, rfl, rfl, rfl, rfl⟩ rfl rfl rfl rfl rfl (by kernel_rfl) Tryz.func4 (by kernel_rfl)
  (of_decide_eq_true (by kernel_rfl)) (by unfold Func.isWrapper; first | (rw [if_pos (by decide +kernel)]; kernel_rfl) | (rw [if_neg (by decide +kernel)]; exact ⟨rfl, rfl⟩))
  (fun os started H enc _ => lifted os started H enc)

theorem plain (f : FuncId) (fn : Func) (hf : Tryz.pinned.checked.prog.funcNamed Tryz.f4.name = some f) (hfn : Tryz.pinned.checked.prog.funcs[f]? = some fn) :
  true = Tryz.pinned.checked.prog.looks [] ∧ ∀ (j : Nat) t, fn.params[j]? = some t → Tryz.pinned.checked.prog.wantsStandIn t = false := by
 obtain rfl : f = 4 := Option.some.inj ((show Tryz.prog.funcNamed Tryz.f4.name = some 4 by kernel_rfl).symm.trans hf) |>.symm
 obtain rfl : fn = Tryz.f4 := (Option.some.inj (Tryz.func4.symm.trans hfn)).symm
 refine ⟨by kernel_rfl, fun j t ht => ?_⟩
 rw [Tryz.params4] at ht
 obtain rfl : t = 25 := by simpa using Array.mem_of_getElem? ht
 exact (show Tryz.prog.wantsStandIn 25 = false by kernel_rfl)

theorem card : Rows.FnDestinationsCardSaid :=
 Claim7.holds_tied_plain_at .later [] _ _ _ _ said (fun _ h => by cases h) (by kernel_rfl) (fun _ h => by cases h) fnDestinations_row_tie rfl ⟨rfl, rfl⟩ (by kernel_rfl) rfl plain (by kernel_rfl)
#print axioms card
end Go.Proofs.YtmmfpgoodfgkbaaGreatDoor.fnDestinations
