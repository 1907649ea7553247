/-
  The law on the source that a feedback message refers to returns true for every packet. No condition.
-/
import Derived.Test.YtmmfpgoodfgkbaaGreatOpenP
import Derived.Test.YtmmfpgoodfgkbaaGreatFeedback
import Derived.ProofKit
import Derived.OpenShut
import Derived.ChangeOld
namespace Go.Proofs.YtmmfpgoodfgkbaaGreat.fnFeedbackDestination
open Go Go.Joins Go.ChangeShapes Go.WideShapes Go.ChangeAt Go.RowKit Go.Proofs.YtmmfpgoodfgkbaaGreat
set_option linter.unusedVariables false

theorem own : ownKnob Tryz.prog.godebug = none := by kernel_rfl
theorem laidOut : laidOutB Tryz.prog = true := by kernel_rfl

theorem walk (p : Pkt) (w : World) (h : p.Lies w w.heap.size) (hO : p.Ok2) :
    Calls Tryz.prog 3 #[.agg p.cells] w fun e w' => e = .returned (.bool true) ∧ Below w.heap.size w w' := by
  by_cases h6 : p.kind = 6
  · exact law_6 p w h6 h hO
  by_cases h7 : p.kind = 7
  · exact law_7 p w h7 h hO
  by_cases h9 : p.kind = 9
  · exact law_9 p w h9 h hO
  by_cases h10 : p.kind = 10
  · exact law_10 p w h10 h hO
  exact law_other p w (by simpa using h6) (by simpa using h7) (by simpa using h9) (by simpa using h10) h hO

def zeros : Value := .agg #[.int .i64 0, .int .u32 0, .int .u32 0, .int .u64 0, .int .u32 0, .int .u32 0, .int .u32 0, .slice none 0 0, .slice none 0 0, .slice none 0 0, .slice none 0 0, .string ByteArray.empty, .int .u8 0, .slice none 0 0, .slice none 0 0, .slice none 0 0, .slice none 0 0, .int .u32 0, .slice none 0 0, .int .u32 0, .int .u16 0, .int .u16 0, .int .u32 0, .int .u8 0, .slice none 0 0, .slice none 0 0, .bool false, .int .u8 0, .int .u8 0, .int .u16 0]

set_option maxRecDepth 100000 in
theorem lifted (os : Os) (started : os.Started) (H : Type) (enc : TypeId × Value → H) :
    ReturnsInHanded {} Tryz.checked os 3 .any (Rows.fnFeedbackDestinationSpec.pre6 enc Tryz.prog Tryz.f3 Rows.fnFeedbackDestinationRow.domain false) (Rows.fnFeedbackDestinationSpec.post enc Tryz.prog Tryz.f3 false true false false) := by
  refine returnsInHanded_of_change (C := Tryz.checked) own started (by kernel_rfl) Tryz.func3
    (ChangeSpec.witness6 (enc := enc) (C := Tryz.checked) false ⟨#[], #[zeros], []⟩ 8 (by kernel_rfl) (by kernel_rfl) (by kernel_rfl) (by kernel_rfl)) ?_
  intro W base args ds gs before hval0 hW hcnd _
  have hval : ∀ (j : Nat) t v, Tryz.f3.params[j]? = some t → args[j]? = some v → Value.okWide Tryz.prog W .any base t v := hval0
  have hW' := hW
  obtain ⟨p, q, hA0, hV, rfl, hfz, hnd⟩ := hW
  have hA : DataW.TrodAll enc Tryz.prog W 0 (fun _ => true) true Tryz.f3.params.toList args.toList ds p := hA0
  rw [Tryz.params3] at hA hval
  obtain ⟨v0, vs0, d0, ds0, p0, q0, hargs, rfl, rfl, h0, r0⟩ := trodAll_cons hA
  obtain ⟨rfl, rfl, rfl⟩ := trodAll_nil r0
  obtain rfl : args = #[v0] := by cases args; simp_all
  obtain ⟨rfl, rfl⟩ := trodVars_none hV
  obtain ⟨cs, rfl, _⟩ := okWide_struct Tryz.underlying38 (hval 0 38 v0 rfl rfl)
  have k0 := h0
  have lt0 : ∀ x ∈ p0, x.block < W.heap.size := by obtain ⟨m, hm⟩ := k0; exact DataW.trod_lt m _ _ _ hm
  obtain ⟨pk, rfl, hg⟩ : ∃ pk : Pkt, cs = pk.cells ∧ PktG W pk := by
    obtain ⟨fuel, hf⟩ := h0
    obtain ⟨pk, he, hg⟩ := opens_pkt fuel _ _ hf
    exact ⟨pk, Array.ext' he, hg⟩
  clear hA0 hval0
  refine (walk pk W hg.lies hg.ok2).mono fun e W' ⟨he, bel⟩ => ?_
  subst he
  exact ⟨_, rfl, _, _, _, [], _, [], hW', trodAll_mk1 (shut_bool Tryz.underlying4 _), (trodAll_cons_mk (Below.trod laidOut (by kernel_rfl) (of_decide_eq_true (by kernel_rfl)) k0 bel lt0) trodAll_mk0), rfl, bel.frame _, fun h => by cases h⟩

theorem over : Rows.fnFeedbackDestinationRow.holds Tryz.pinned (OpenSpec.ofChange Rows.fnFeedbackDestinationSpec) :=
  OpenClaim.holds_of_wide 3 Tryz.f3 rfl rfl rfl rfl rfl rfl rfl ⟨rfl, rfl, rfl, rfl, rfl⟩ rfl rfl rfl rfl rfl (by kernel_rfl) Tryz.func3 (by kernel_rfl)
    (of_decide_eq_true (by kernel_rfl)) (by unfold Func.isWrapper; first | (rw [if_pos (by decide +kernel)]; kernel_rfl) | (rw [if_neg (by decide +kernel)]; exact ⟨rfl, rfl⟩))
    (fun os started H enc _ => lifted os started H enc)

theorem proved : Rows.FnFeedbackDestinationSaid := over
#print axioms proved
end Go.Proofs.YtmmfpgoodfgkbaaGreat.fnFeedbackDestination
