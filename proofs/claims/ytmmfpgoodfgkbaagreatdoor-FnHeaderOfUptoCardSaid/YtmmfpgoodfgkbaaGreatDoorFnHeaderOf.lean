/-
  The law on the header of a packet returns true for every packet of bulk at most 1048576. Condition of the row: the listed variables read as the program's text lays them.
-/
import Derived.Test.YtmmfpgoodfgkbaaGreatDoorLawHK
import Derived.Test.YtmmfpgoodfgkbaaGreatDoorSmallOf
import Derived.Test.YtmmfpgoodfgkbaaGreatDoorCards
import Derived.Test.YtmmfpgoodfgkbaaGreatDoorTie
import Derived.ProofKit
import Derived.OpenShut
import Derived.ChangeOld
import Derived.LaidMore
import Derived.Deep.DeepHandedRow
import Derived.Deep.DeepWitnessRowRef
namespace Go.Proofs.YtmmfpgoodfgkbaaGreatDoor.fnHeaderOf
open Go Go.Joins Go.ChangeShapes Go.WideShapes Go.ChangeAt Go.RowKit Go.Proofs.YtmmfpgoodfgkbaaGreatDoor
set_option linter.unusedVariables false

theorem own : ownKnob Tryz.prog.godebug = none := by kernel_rfl
theorem laidOut : laidOutB Tryz.prog = true := by kernel_rfl

def zeros : Value := .agg #[.int .i64 0, .int .u32 0, .int .u32 0, .int .u64 0, .int .u32 0, .int .u32 0, .int .u32 0, .slice none 0 0, .slice none 0 0, .slice none 0 0, .slice none 0 0, .string ByteArray.empty, .int .u8 0, .slice none 0 0, .slice none 0 0, .slice none 0 0, .slice none 0 0, .int .u32 0, .slice none 0 0, .int .u32 0, .int .u16 0, .int .u16 0, .int .u32 0, .int .u8 0, .slice none 0 0, .slice none 0 0, .bool false, .int .u8 0, .int .u8 0, .int .u16 0]

theorem door_met (os : Os) : laidMet Tryz.prog Rows.fnHeaderOfUptoRow.laid ((World.doorLaid Tryz.prog 427 os).forCall (fun _ _ => 0) ⟨#[], #[zeros], []⟩).memory :=
  laidMet_of_run' 8 (by kernel_rfl) (by kernel_rfl)
theorem reads (os : Os) {H : Type} (enc : TypeId × Value → H) : ∃ d places, DataW.whole enc Tryz.prog ((World.doorLaid Tryz.prog 427 os).forCall (fun _ _ => 0) ⟨#[], #[zeros], []⟩).memory Tryz.f3.params.toList Rows.fnHeaderOfSpec.vars false #[zeros].toList 8 = some ([d], [], places) ∧ Rows.uptoSmall H ([d] ++ []) = true:=
  ⟨.agg [.lit (.int .i64 0), .lit (.int .u32 0), .lit (.int .u32 0), .lit (.int .u64 0), .lit (.int .u32 0), .lit (.int .u32 0), .lit (.int .u32 0), .nil, .nil, .nil, .nil, .lit (.string []), .lit (.int .u8 0), .nil, .nil, .nil, .nil, .lit (.int .u32 0), .nil, .lit (.int .u32 0), .lit (.int .u16 0), .lit (.int .u16 0), .lit (.int .u32 0), .lit (.int .u8 0), .nil, .nil, .agg [.lit (.bool false), .lit (.int .u8 0), .lit (.int .u8 0), .lit (.int .u16 0)]], [], by kernel_rfl, by kernel_rfl⟩

set_option maxRecDepth 100000 in
theorem lifted (os : Os) (started : os.Started) (H : Type) (enc : TypeId × Value → H) (F : Stop.Interp) :
    ReturnsInHanded {} Tryz.checked os 3 .any ((Rows.OpenSpec.upto Rows.fnHeaderOfSpec).preRow enc Tryz.prog Tryz.f3 Rows.fnHeaderOfUptoRow.domain false Rows.fnHeaderOfUptoRow.laid) (((Rows.OpenSpec.upto Rows.fnHeaderOfSpec).at F).post enc Tryz.prog Tryz.f3 false true false false) := by
  obtain ⟨d, places, hx, hsm⟩ := reads os enc
  refine returnsInHanded_of_row (C := Tryz.checked) (s := Rows.OpenSpec.upto Rows.fnHeaderOfSpec) own started (by kernel_rfl) Tryz.func3
    (witness_row_atRef (enc := enc) (C := Tryz.checked) false (World.doorLaid Tryz.prog 427 os) #[zeros] rfl (by kernel_rfl) (by kernel_rfl) (by kernel_rfl)
      (OpenSpec.preRow_of_cond 8 hx (by kernel_rfl) (fun k hk => by cases hk; exact hsm) (by kernel_rfl) (door_met os))) ?_
  intro W base args ds gs before hval0 hW _ hcond _ hL _ _
  have hbulk := hcond _ rfl
  have hval : ∀ (j : Nat) t v, Tryz.f3.params[j]? = some t → args[j]? = some v → Value.okWide Tryz.prog W .any base t v := hval0
  have hW' := hW
  obtain ⟨p, q, hA0, hV, rfl, hfz, hnd⟩ := hW
  have hA : DataW.TrodAll enc Tryz.prog W 0 (fun _ => true) true Tryz.f3.params.toList args.toList ds p := hA0
  rw [Tryz.params3] at hA hval
  obtain ⟨v0, vs0, d0, ds0, p0, q0, hargs, rfl, rfl, h0, r0⟩ := trodAll_cons hA
  obtain ⟨rfl, rfl, rfl⟩ := trodAll_nil r0
  obtain rfl : args = #[v0] := by cases args; simp_all
  obtain ⟨rfl, rfl⟩ := trodVars_none hV
  obtain ⟨cs, rfl, _⟩ := okWide_struct Tryz.underlying38 (hval 0 38 v0 rfl rfl)
  have k0 := h0
  have lt0 : ∀ x ∈ p0, x.block < W.heap.size := by obtain ⟨m, hm⟩ := k0; exact DataW.trod_lt m _ _ _ hm
  obtain ⟨pk, rfl, hg, hm⟩ : ∃ pk : Pkt, cs = pk.cells ∧ PktG W pk ∧ pktM pk ≤ Rows.uptoBulk d0 := by
    obtain ⟨fuel, hf⟩ := h0
    obtain ⟨pk, he, hg, hm⟩ := opens_pkt fuel _ _ hf
    exact ⟨pk, Array.ext' he, hg, hm⟩
  have hle : pktM pk ≤ 1048576 := by
    have h1 := of_decide_eq_true hbulk
    simp only [List.append_nil, Rows.uptoBulkAll] at h1
    omega
  clear hA0 hval0
  refine (lawH_any pk W hg.lies hg.ok3 (small_of pk hle)).mono fun e W' ⟨he, bel⟩ => ?_
  subst he
  exact ⟨_, rfl, _, _, _, [], _, [], hW', trodAll_mk1 (shut_bool Tryz.underlying4 _), (trodAll_cons_mk (Below.trod laidOut (by kernel_rfl) (of_decide_eq_true (by kernel_rfl)) k0 bel lt0) trodAll_mk0), rfl, bel.frame _, fun h => by cases h⟩

theorem said : Rows.FnHeaderOfUptoSaid :=
  OpenClaim.holds_of_cond 3 Tryz.f3 rfl rfl rfl rfl rfl rfl rfl ⟨rfl, rfl, rfl, rfl, rfl⟩ rfl rfl rfl rfl rfl (by kernel_rfl) Tryz.func3 (by kernel_rfl)
    (of_decide_eq_true (by kernel_rfl)) (by unfold Func.isWrapper; first | (rw [if_pos (by decide +kernel)]; kernel_rfl) | (rw [if_neg (by decide +kernel)]; exact ⟨rfl, rfl⟩))
    (fun os started H enc _ F => by rw [OpenClaim.pre_eq_preRow]; exact lifted os started H enc F)

theorem plain (f : FuncId) (fn : Func) (hf : Tryz.pinned.checked.prog.funcNamed Tryz.f3.name = some f) (hfn : Tryz.pinned.checked.prog.funcs[f]? = some fn) :
    true = Tryz.pinned.checked.prog.looks [] ∧ ∀ (j : Nat) t, fn.params[j]? = some t → Tryz.pinned.checked.prog.wantsStandIn t = false := by
  obtain rfl : f = 3 := Option.some.inj ((show Tryz.prog.funcNamed Tryz.f3.name = some 3 by kernel_rfl).symm.trans hf) |>.symm
  obtain rfl : fn = Tryz.f3 := (Option.some.inj (Tryz.func3.symm.trans hfn)).symm
  refine ⟨by kernel_rfl, fun j t ht => ?_⟩
  rw [Tryz.params3] at ht
  obtain rfl : t = 38 := by simpa using Array.mem_of_getElem? ht
  exact (show Tryz.prog.wantsStandIn 38 = false by kernel_rfl)

theorem card : Rows.FnHeaderOfUptoCardSaid :=
  Claim7.holds_tied_plain_at .later [] _ _ _ _ said (fun _ h => by cases h) (by kernel_rfl) (fun _ h => by cases h) fnHeaderOfUpto_row_tie rfl ⟨rfl, rfl⟩ (by kernel_rfl) rfl plain (by kernel_rfl)
#print axioms card
end Go.Proofs.YtmmfpgoodfgkbaaGreatDoor.fnHeaderOf
