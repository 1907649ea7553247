/-
  The law on the writing of one packet returns true for every packet of bulk at most 1048576. No other condition.
-/
import Derived.Test.YtmmfpgoodfgkbaaGreatLawWK
import Derived.Test.YtmmfpgoodfgkbaaGreatSmallOf
import Derived.ProofKit
import Derived.OpenShut
import Derived.JoinedCond
import Derived.ChangeOld
namespace Go.Proofs.YtmmfpgoodfgkbaaGreat.fnWriteOne
open Go Go.Joins Go.ChangeShapes Go.WideShapes Go.ChangeAt Go.RowKit Go.Proofs.YtmmfpgoodfgkbaaGreat
set_option linter.unusedVariables false

theorem own : ownKnob Tryz.prog.godebug = none := by kernel_rfl
theorem laidOut : laidOutB Tryz.prog = true := by kernel_rfl

def zeros : Value := .agg #[.int .i64 0, .int .u32 0, .int .u32 0, .int .u64 0, .int .u32 0, .int .u32 0, .int .u32 0, .slice none 0 0, .slice none 0 0, .slice none 0 0, .slice none 0 0, .string ByteArray.empty, .int .u8 0, .slice none 0 0, .slice none 0 0, .slice none 0 0, .slice none 0 0, .int .u32 0, .slice none 0 0, .int .u32 0, .int .u16 0, .int .u16 0, .int .u32 0, .int .u8 0, .slice none 0 0, .slice none 0 0, .bool false, .int .u8 0, .int .u8 0, .int .u16 0]

set_option maxRecDepth 100000 in
theorem lifted (os : Os) (started : os.Started) (H : Type) (enc : TypeId × Value → H) (F : Stop.Interp) :
    ReturnsInHanded {} Tryz.checked os 5 .any ((Rows.OpenSpec.upto Rows.fnWriteOneSpec).pre6 enc Tryz.prog Tryz.f5 Rows.fnWriteOneUptoRow.domain false) (((Rows.OpenSpec.upto Rows.fnWriteOneSpec).at F).post enc Tryz.prog Tryz.f5 false true false false) := by
  refine returnsInHanded_of_cond (C := Tryz.checked) (s := Rows.OpenSpec.upto Rows.fnWriteOneSpec) (k := Rows.uptoSmall) rfl own started (by kernel_rfl) Tryz.func5
    (OpenSpec.witness (enc := enc) (C := Tryz.checked) (s := Rows.OpenSpec.upto Rows.fnWriteOneSpec) (k := Rows.uptoSmall) rfl false ⟨#[], #[zeros], []⟩ 8 (by kernel_rfl) (by kernel_rfl) (by kernel_rfl)
      (x := ([.agg [.lit (.int .i64 0), .lit (.int .u32 0), .lit (.int .u32 0), .lit (.int .u64 0), .lit (.int .u32 0), .lit (.int .u32 0), .lit (.int .u32 0), .nil, .nil, .nil, .nil, .lit (.string []), .lit (.int .u8 0), .nil, .nil, .nil, .nil, .lit (.int .u32 0), .nil, .lit (.int .u32 0), .lit (.int .u16 0), .lit (.int .u16 0), .lit (.int .u32 0), .lit (.int .u8 0), .nil, .nil, .agg [.lit (.bool false), .lit (.int .u8 0), .lit (.int .u8 0), .lit (.int .u16 0)]]], [], [])) (by kernel_rfl) rfl (by kernel_rfl)) ?_
  intro W base args ds gs before hval0 hW _ hk _
  have hval : ∀ (j : Nat) t v, Tryz.f5.params[j]? = some t → args[j]? = some v → Value.okWide Tryz.prog W .any base t v := hval0
  have hW' := hW
  obtain ⟨p, q, hA0, hV, rfl, hfz, hnd⟩ := hW
  have hA : DataW.TrodAll enc Tryz.prog W 0 (fun _ => true) true Tryz.f5.params.toList args.toList ds p := hA0
  rw [Tryz.params5] at hA hval
  obtain ⟨v0, vs0, d0, ds0, p0, q0, hargs, rfl, rfl, h0, r0⟩ := trodAll_cons hA
  obtain ⟨rfl, rfl, rfl⟩ := trodAll_nil r0
  obtain rfl : args = #[v0] := by cases args; simp_all
  obtain ⟨rfl, rfl⟩ := trodVars_none hV
  obtain ⟨cs, rfl, _⟩ := okWide_struct Tryz.underlying38 (hval 0 38 v0 rfl rfl)
  have k0 := h0
  have lt0 : ∀ x ∈ p0, x.block < W.heap.size := by obtain ⟨m, hm⟩ := k0; exact DataW.trod_lt m _ _ _ hm
  obtain ⟨pk, rfl, hg, hm⟩ : ∃ pk : Pkt, cs = pk.cells ∧ PktG W pk ∧ pktM pk ≤ Rows.uptoBulk d0 := by
    obtain ⟨fuel, hf⟩ := h0
    obtain ⟨pk, he, hg, hm⟩ := opens_pkt fuel _ _ hf
    exact ⟨pk, Array.ext' he, hg, hm⟩
  have hle : pktM pk ≤ 1048576 := by
    have h1 := of_decide_eq_true hk
    simp only [List.append_nil, Rows.uptoBulkAll] at h1
    omega
  clear hA0 hval0
  refine (lawW_any pk W hg.lies hg.ok3 (small_of pk hle)).mono fun e W' ⟨he, bel⟩ => ?_
  subst he
  exact ⟨_, rfl, _, _, _, [], _, [], hW', trodAll_mk1 (shut_bool Tryz.underlying4 _), (trodAll_cons_mk (Below.trod laidOut (by kernel_rfl) (of_decide_eq_true (by kernel_rfl)) k0 bel lt0) trodAll_mk0), rfl, bel.frame _, fun h => by cases h⟩

theorem proved : Rows.FnWriteOneUptoSaid :=
  OpenClaim.holds_of_cond 5 Tryz.f5 rfl rfl rfl rfl rfl rfl rfl ⟨rfl, rfl, rfl, rfl, rfl⟩ rfl rfl rfl rfl rfl (by kernel_rfl) Tryz.func5 (by kernel_rfl)
    (of_decide_eq_true (by kernel_rfl)) (by unfold Func.isWrapper; first | (rw [if_pos (by decide +kernel)]; kernel_rfl) | (rw [if_neg (by decide +kernel)]; exact ⟨rfl, rfl⟩))
    (fun os started H enc _ F => lifted os started H enc F)
#print axioms proved
end Go.Proofs.YtmmfpgoodfgkbaaGreat.fnWriteOne
