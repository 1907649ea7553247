/-
  The law on the writing of packets returns true for every list of packets of bulk at most 1048576. No other condition.
-/
import Derived.Test.YtmmfpgoodfgkbaaGreatMLaw
import Derived.Test.YtmmfpgoodfgkbaaGreatSmallOf
import Derived.ProofKit
import Derived.OpenShut
import Derived.JoinedCond
import Derived.ChangeOld
namespace Go.Proofs.YtmmfpgoodfgkbaaGreat.fnWrite
open Go Go.Joins Go.ChangeShapes Go.WideShapes Go.ChangeAt Go.RowKit Go.Proofs.YtmmfpgoodfgkbaaGreat
set_option linter.unusedVariables false

theorem own : ownKnob Tryz.prog.godebug = none := by kernel_rfl
theorem laidOut : laidOutB Tryz.prog = true := by kernel_rfl

theorem max1 {H : Type} {enc : TypeId × Value → H} {P : Program} {w : World} {spare : Nat → Bool} {held : Bool} {t : TypeId} {α : Type} {f : α → List Value} {G : α → Prop} {M : α → Nat} (h : Opens enc P w spare held t f G M) : Opens enc P w spare held t f G (fun a => max 1 (M a)) := fun fuel cs x hx => by
  obtain ⟨a, ha, hg, hm⟩ := h fuel cs x hx
  exact ⟨a, ha, hg, Nat.max_le.2 ⟨one_le _, hm⟩⟩

set_option maxRecDepth 100000 in
theorem lifted (os : Os) (started : os.Started) (H : Type) (enc : TypeId × Value → H) (F : Stop.Interp) :
    ReturnsInHanded {} Tryz.checked os 4 .any ((Rows.OpenSpec.upto Rows.fnWriteSpec).pre6 enc Tryz.prog Tryz.f4 Rows.fnWriteUptoRow.domain false) (((Rows.OpenSpec.upto Rows.fnWriteSpec).at F).post enc Tryz.prog Tryz.f4 false true false false) := by
  refine returnsInHanded_of_cond (C := Tryz.checked) (s := Rows.OpenSpec.upto Rows.fnWriteSpec) (k := Rows.uptoSmall) rfl own started (by kernel_rfl) Tryz.func4
    (OpenSpec.witness (enc := enc) (C := Tryz.checked) (s := Rows.OpenSpec.upto Rows.fnWriteSpec) (k := Rows.uptoSmall) rfl false ⟨#[], #[.slice none 0 0], []⟩ 8 (by kernel_rfl) (by kernel_rfl) (by kernel_rfl)
      (x := ([.nil], [], [])) (by kernel_rfl) rfl (by kernel_rfl)) ?_
  intro W base args ds gs before hval0 hW _ hk _
  have hval : ∀ (j : Nat) t v, Tryz.f4.params[j]? = some t → args[j]? = some v → Value.okWide Tryz.prog W .any base t v := hval0
  have hW' := hW
  obtain ⟨p, q, hA0, hV, rfl, hfz, hnd⟩ := hW
  have hA : DataW.TrodAll enc Tryz.prog W 0 (fun _ => true) true Tryz.f4.params.toList args.toList ds p := hA0
  rw [Tryz.params4] at hA hval
  obtain ⟨v0, vs0, d0, ds0, p0, q0, hargs, rfl, rfl, h0, r0⟩ := trodAll_cons hA
  obtain ⟨rfl, rfl, rfl⟩ := trodAll_nil r0
  obtain rfl : args = #[v0] := by cases args; simp_all
  obtain ⟨rfl, rfl⟩ := trodVars_none hV
  obtain ⟨A0, n0, c0, rfl⟩ := okWide_slice Tryz.underlying55 (hval 0 55 v0 rfl rfl)
  have k0 := h0
  have lt0 : ∀ x ∈ p0, x.block < W.heap.size := by obtain ⟨m, hm⟩ := k0; exact DataW.trod_lt m _ _ _ hm
  obtain ⟨s, he, hg, hm⟩ : ∃ s : Sl Pkt, Value.slice A0 n0 c0 = s.val ∧ SlG W 30 (fun p : Pkt => p.cells.toList) (PktG W) s ∧ (s.l.map fun p => max 1 (pktM p)).sum ≤ Rows.uptoBulk d0 := by
    obtain ⟨fuel, hf⟩ := h0
    obtain ⟨s, he, hg, hm⟩ := opens_slice (size := 30) Tryz.underlying55 (by kernel_rfl) (by decide) (fun _ => rfl) (max1 opens_pkt) fuel _ _ hf
    exact ⟨s, List.singleton_inj.1 he, hg, hm⟩
  rw [he]
  rw [he] at k0 hW'
  have hle : (s.l.map fun p => max 1 (pktM p)).sum ≤ 1048576 := by
    have h1 := of_decide_eq_true hk
    simp only [List.append_nil, Rows.uptoBulkAll] at h1
    omega
  clear hA0 hval0
  refine (lawL_any s.A s.c s.l W hg.1 (Nat.le_trans (len_sum (fun p => max 1 (pktM p)) (fun _ => Nat.le_max_left _ _) s.l) hle) fun x hx => ⟨(hg.2.1 x hx).lies, (hg.2.1 x hx).ok3, small_of x (Nat.le_trans (Nat.le_trans (Nat.le_max_right _ _) (mem_sum (fun p => max 1 (pktM p)) s.l x hx)) hle)⟩).mono fun e W' ⟨he, bel⟩ => ?_
  subst he
  exact ⟨_, rfl, _, _, _, [], _, [], hW', trodAll_mk1 (shut_bool Tryz.underlying4 _), (trodAll_cons_mk (Below.trod laidOut (by kernel_rfl) (of_decide_eq_true (by kernel_rfl)) k0 bel lt0) trodAll_mk0), rfl, bel.frame _, fun h => by cases h⟩

theorem proved : Rows.FnWriteUptoSaid :=
  OpenClaim.holds_of_cond 4 Tryz.f4 rfl rfl rfl rfl rfl rfl rfl ⟨rfl, rfl, rfl, rfl, rfl⟩ rfl rfl rfl rfl rfl (by kernel_rfl) Tryz.func4 (by kernel_rfl)
    (of_decide_eq_true (by kernel_rfl)) (by unfold Func.isWrapper; first | (rw [if_pos (by decide +kernel)]; kernel_rfl) | (rw [if_neg (by decide +kernel)]; exact ⟨rfl, rfl⟩))
    (fun os started H enc _ F => lifted os started H enc F)
#print axioms proved
end Go.Proofs.YtmmfpgoodfgkbaaGreat.fnWrite
