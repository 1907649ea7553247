/-
  The law on the writing of a report block returns true for every block. Condition of the row: the listed variables read as the program's text lays them.
-/
import Derived.Test.YtcikhjolehlchaaDoorImplReport
import Derived.Test.YtcikhjolehlchaaDoorSpecReport
import Derived.Test.YtcikhjolehlchaaDoorOpen
import Derived.Test.YtcikhjolehlchaaDoorCards
import Derived.Test.YtcikhjolehlchaaDoorTie
import Derived.LaidMore
namespace Go.Proofs.YtcikhjolehlchaaDoor.fnReportWritten
open Go Go.RowKit Go.Proofs.YtcikhjolehlchaaDoor Go.ChangeShapes Go.WideShapes Go.ChangeAt Go.Joins
set_option linter.unusedVariables false

set_option maxHeartbeats 400000 in
theorem specFormat_no (r : Rep) (w : World) (hl : 16777216 ≤ r.lost) :
    Calls Tryd.prog 5 #[.agg #[.int .u32 r.ssrc, .int .u8 r.frac, .int .u32 r.lost, .int .u32 r.seq, .int .u32 r.jit, .int .u32 r.last, .int .u32 r.dly]] w fun e w' =>
      e = .returned (.tuple #[.slice none 0 0, .bool false]) ∧ Below w.heap.size w w' := by
  go_enter Tryd.func5, Tryd.ntmps5
  go_wp2
  go_ret2
  exact ⟨rfl, (Below.refl _ _).alloc (Nat.le_refl _) _⟩

set_option maxHeartbeats 1000000 in
theorem walk (r : Rep) (w : World) (h : r.Ok) :
    Calls Tryd.prog 3 #[.agg #[.int .u32 r.ssrc, .int .u8 r.frac, .int .u32 r.lost, .int .u32 r.seq, .int .u32 r.jit, .int .u32 r.last, .int .u32 r.dly]] w fun e w' =>
      e = .returned (.bool true) ∧ Below w.heap.size w w' := by
  by_cases hl : r.lost < 16777216
  · go_enter Tryd.func3, Tryd.ntmps3
    go_wp2_with fail
    refine (specFormat_any r _ h hl).mono ?_
    rintro e w1 ⟨g1, cap1, rfl, hown1, hb1⟩
    have hz1 : w.heap.size + 1 ≤ w1.heap.size := by have := hb1.size; simpa using this
    have hx : Blk w1 w.heap.size 24 #[.int .u32 r.ssrc, .int .u8 r.frac, .int .u32 r.lost, .int .u32 r.seq, .int .u32 r.jit, .int .u32 r.last, .int .u32 r.dly] := (blk_new w _ _ rfl).below hb1 (by simp)
    have q0 : w1.cell? ⟨w.heap.size, 0, none⟩ = some (.int .u32 r.ssrc) := hx.cell 0
    have q1 : w1.cell? ⟨w.heap.size, 1, none⟩ = some (.int .u8 r.frac) := hx.cell 1
    have q2 : w1.cell? ⟨w.heap.size, 2, none⟩ = some (.int .u32 r.lost) := hx.cell 2
    have q3 : w1.cell? ⟨w.heap.size, 3, none⟩ = some (.int .u32 r.seq) := hx.cell 3
    have q4 : w1.cell? ⟨w.heap.size, 4, none⟩ = some (.int .u32 r.jit) := hx.cell 4
    have q5 : w1.cell? ⟨w.heap.size, 5, none⟩ = some (.int .u32 r.last) := hx.cell 5
    have q6 : w1.cell? ⟨w.heap.size, 6, none⟩ = some (.int .u32 r.dly) := hx.cell 6
    go_wp2_with fail
    refine (implFormat_any r _ h hl).mono ?_
    rintro e w2 ⟨g2, rfl, hbuf2, hg2, hb2⟩
    have k1 := conv_own (own_below hown1 hb2 (fun k hk => (hown1.lt k hk).2)) cap1
    have k2 := conv_buf (n := 24) (c := 24) hbuf2 rfl
    go_wp2_with fail
    go_ret
    exact ⟨rfl, (((Below.refl _ _).alloc (Nat.le_refl _) _).trans (hb1.mono (by simp))).trans (hb2.mono (by omega))⟩
  · have hl' : 16777216 ≤ r.lost := by omega
    go_enter Tryd.func3, Tryd.ntmps3
    go_wp2_with fail
    refine (specFormat_no r _ hl').mono ?_
    rintro e w1 ⟨rfl, hb1⟩
    go_wp2_with fail
    go_ret
    exact ⟨rfl, ((Below.refl _ _).alloc (Nat.le_refl _) _).trans (hb1.mono (by simp))⟩

theorem own : ownKnob Tryd.prog.godebug = none := by kernel_rfl
theorem laidOut : laidOutB Tryd.prog = true := by kernel_rfl

theorem wf_u32 {a : Int} (h : (Lit.int .u32 a).wf = true) : 0 ≤ a ∧ a < 4294967296 := by
  simp only [Lit.wf, Bool.and_eq_true, decide_eq_true_eq] at h
  have hmin : IntKind.u32.min = 0 := rfl
  have hmax : IntKind.u32.max = 4294967295 := rfl
  omega
theorem wf_u8 {a : Int} (h : (Lit.int .u8 a).wf = true) : 0 ≤ a ∧ a < 256 := by
  simp only [Lit.wf, Bool.and_eq_true, decide_eq_true_eq] at h
  have hmin : IntKind.u8.min = 0 := rfl
  have hmax : IntKind.u8.max = 255 := rfl
  omega

theorem door_met (os : Os) (args : Array Value) : laidMetH Tryd.prog Rows.fnReportWrittenRow.laid ((World.doorLaid Tryd.prog 47 os).forCall (fun _ _ => 0) ⟨#[], args, []⟩).memory :=
  laidMetH_of_parts3 (fuel := 8) (laidMet_of_run' 8 (by kernel_rfl) (by kernel_rfl)) (by kernel_rfl) (by kernel_rfl)

def zeroArg : Value := .agg #[.int .u32 0, .int .u8 0, .int .u32 0, .int .u32 0, .int .u32 0, .int .u32 0, .int .u32 0]

set_option maxRecDepth 100000 in
theorem lifted (os : Os) (started : os.Started) (H : Type) (enc : TypeId × Value → H) :
    ReturnsInHanded {} Tryd.checked os 3 .any (fun w args => (Rows.fnReportWrittenSpec.pre enc Tryd.prog Tryd.f3 [] false w args ∧ laidMetH Tryd.prog Rows.fnReportWrittenRow.laid w) ∧ sizedMet enc Tryd.prog Tryd.f3 (OpenSpec.ofChange Rows.fnReportWrittenSpec) false w args)
      (Rows.fnReportWrittenSpec.post enc Tryd.prog Tryd.f3 false true false false) := by
  refine returnsInHanded_of_change_and (C := Tryd.checked) (X := fun w _ => laidMetH Tryd.prog Rows.fnReportWrittenRow.laid w) (fun _ _ _ hh h => h.of_heap hh) own started (by kernel_rfl) Tryd.func3
    (ChangeSpec.witness_shaped (enc := enc) (C := Tryd.checked) (os := os) (X := fun w _ => laidMetH Tryd.prog Rows.fnReportWrittenRow.laid w) false (World.doorLaid Tryd.prog 47 os) #[zeroArg] 8 rfl (World.shaped_of_RefB (by kernel_rfl) (by kernel_rfl)) (by kernel_rfl) (by kernel_rfl) (by kernel_rfl) (door_met os _)) ?_
  intro W base args ds gs before hval0 hW _ _ hL _
  have hval : ∀ (j : Nat) t v, Tryd.f3.params[j]? = some t → args[j]? = some v → Value.okWide Tryd.prog W .any base t v := hval0
  have hW' := hW
  obtain ⟨p, q, hA0, hV, rfl, hfz, hnd⟩ := hW
  have hA : DataW.TrodAll enc Tryd.prog W 0 (fun _ => true) true Tryd.f3.params.toList args.toList ds p := hA0
  rw [Tryd.params3] at hA hval
  obtain ⟨v0, vs0, d0, ds0, p0, q0, hargs, rfl, rfl, h0, r0⟩ := trodAll_cons hA
  obtain ⟨rfl, rfl, rfl⟩ := trodAll_nil r0
  obtain rfl : args = #[v0] := by cases args; simp_all
  obtain ⟨rfl, rfl⟩ := trodVars_none hV
  have k0 := h0
  have lt0 : ∀ x ∈ p0, x.block < W.heap.size := by obtain ⟨m, hm⟩ := k0; exact DataW.trod_lt m _ _ _ hm
  obtain ⟨c0, c1, c2, c3, c4, c5, c6, y0, y1, y2, y3, y4, y5, y6, m, rfl, hy0, hy1, hy2, hy3, hy4, hy5, hy6⟩ := open_agg7 Tryd.underlying24 (by kernel_rfl) (by kernel_rfl) (hval 0 24 v0 rfl rfl) h0
  obtain ⟨a0, e0, _, wa0⟩ := DataW.trod_int Tryd.underlying22 hy0
  obtain ⟨a1, e1, _, wa1⟩ := DataW.trod_int Tryd.underlying5 hy1
  obtain ⟨a2, e2, _, wa2⟩ := DataW.trod_int Tryd.underlying22 hy2
  obtain ⟨a3, e3, _, wa3⟩ := DataW.trod_int Tryd.underlying22 hy3
  obtain ⟨a4, e4, _, wa4⟩ := DataW.trod_int Tryd.underlying22 hy4
  obtain ⟨a5, e5, _, wa5⟩ := DataW.trod_int Tryd.underlying22 hy5
  obtain ⟨a6, e6, _, wa6⟩ := DataW.trod_int Tryd.underlying22 hy6
  simp only [List.cons.injEq, and_true] at e0 e1 e2 e3 e4 e5 e6
  subst e0 e1 e2 e3 e4 e5 e6
  clear hA0 hval0
  refine (walk ⟨a0, a1, a2, a3, a4, a5, a6⟩ W ⟨(wf_u32 wa0).1, (wf_u32 wa0).2, (wf_u8 wa1).1, (wf_u8 wa1).2, (wf_u32 wa2).1, (wf_u32 wa2).2, (wf_u32 wa3).1, (wf_u32 wa3).2, (wf_u32 wa4).1, (wf_u32 wa4).2, (wf_u32 wa5).1, (wf_u32 wa5).2, (wf_u32 wa6).1, (wf_u32 wa6).2⟩).mono fun e W' ⟨he, bel⟩ => ?_
  subst he
  exact ⟨_, rfl, _, _, _, [], _, [], hW', trodAll_mk1 (shut_bool Tryd.underlying4 _), (trodAll_cons_mk (Below.trod laidOut (by kernel_rfl) (of_decide_eq_true (by kernel_rfl)) k0 bel lt0) trodAll_mk0), rfl, bel.frame _, fun h => by cases h⟩

theorem said : Rows.FnReportWrittenSaid :=
  OpenClaim.holds_of_wide 3 Tryd.f3 rfl rfl rfl rfl rfl rfl rfl ⟨rfl, rfl, rfl, rfl, rfl⟩ rfl rfl rfl rfl rfl (by kernel_rfl) Tryd.func3 (by kernel_rfl)
    (of_decide_eq_true (by kernel_rfl)) (by unfold Func.isWrapper; first | (rw [if_pos (by decide +kernel)]; kernel_rfl) | (rw [if_neg (by decide +kernel)]; exact ⟨rfl, rfl⟩))
    (fun os started H enc _ => lifted os started H enc)

theorem plain (f : FuncId) (fn : Func) (hf : Tryd.pinned.checked.prog.funcNamed Tryd.f3.name = some f) (hfn : Tryd.pinned.checked.prog.funcs[f]? = some fn) :
    false = Tryd.pinned.checked.prog.looks [] ∧ ∀ (j : Nat) t, fn.params[j]? = some t → Tryd.pinned.checked.prog.wantsStandIn t = false := by
  obtain rfl : f = 3 := Option.some.inj ((show Tryd.prog.funcNamed Tryd.f3.name = some 3 by kernel_rfl).symm.trans hf) |>.symm
  obtain rfl : fn = Tryd.f3 := (Option.some.inj (Tryd.func3.symm.trans hfn)).symm
  refine ⟨by kernel_rfl, fun j t ht => ?_⟩
  rw [Tryd.params3] at ht
  obtain rfl : t = 24 := by simpa using Array.mem_of_getElem? ht
  exact (show Tryd.prog.wantsStandIn 24 = false by kernel_rfl)

theorem card : Rows.FnReportWrittenCardSaid :=
  Claim7.holds_tied_plain_at .later [] _ _ _ _ said (fun _ h => by cases h) (by kernel_rfl) (fun _ h => by cases h) fnReportWritten_row_tie rfl ⟨rfl, rfl⟩ (by kernel_rfl) rfl plain (by kernel_rfl)
#print axioms card
end Go.Proofs.YtcikhjolehlchaaDoor.fnReportWritten
