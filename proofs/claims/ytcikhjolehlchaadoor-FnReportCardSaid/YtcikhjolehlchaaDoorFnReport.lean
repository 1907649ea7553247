/-
  The law on the reading of a report block returns true for every data. Condition of the row: the listed variables read as the program's text lays them.
-/
import Derived.Test.YtcikhjolehlchaaDoorParse3
import Derived.Test.YtcikhjolehlchaaDoorOpen
import Derived.Test.YtcikhjolehlchaaDoorCards
import Derived.Test.YtcikhjolehlchaaDoorTie
import Derived.LaidMore
namespace Go.Proofs.YtcikhjolehlchaaDoor.fnReport
open Go Go.RowKit Go.Proofs.YtcikhjolehlchaaDoor Go.ChangeShapes Go.WideShapes Go.ChangeAt Go.Joins
set_option linter.unusedVariables false

set_option maxHeartbeats 400000 in
theorem eq_rep (w : World) (x0 x1 x2 x3 x4 x5 x6 : Int) : (binOp .eql 24 (.agg #[.int .u32 x0, .int .u8 x1, .int .u32 x2, .int .u32 x3, .int .u32 x4, .int .u32 x5, .int .u32 x6]) (.agg #[.int .u32 x0, .int .u8 x1, .int .u32 x2, .int .u32 x3, .int .u32 x4, .int .u32 x5, .int .u32 x6])).run Tryd.prog w = .ok (.bool true) w := by
  go_simp

set_option maxHeartbeats 1000000 in
theorem walk_off (A : Option Addr) (n c : Nat) (w : World) (hn : n ≠ 24) :
    Calls Tryd.prog 4 #[.slice A n c] w fun e w' => e = .returned (.bool true) ∧ Below w.heap.size w w' := by
  have hne : ((n : Int) == 24) = false := by simp; omega
  go_enter Tryd.func4, Tryd.ntmps4
  by_cases hb : (2147483647 : Int) < (n : Int)
  · go_wp2_with fail
    go_ret
    exact ⟨rfl, Below.refl _ _⟩
  · go_wp2_with fail
    go_ret
    exact ⟨rfl, Below.refl _ _⟩

set_option maxHeartbeats 2000000 in
theorem walk_on (ad : Addr) (c : Nat) (zs : List Int) (w : World) (h : Reads w w.heap.size 1 (some ad) 24 (u8s zs)) (hz : Byts zs) (hc : 24 ≤ c) :
    Calls Tryd.prog 4 #[.slice (some ad) 24 c] w fun e w' => e = .returned (.bool true) ∧ Below w.heap.size w w' := by
  have hlen : zs.length = 24 := by have := h.1; rw [u8s_len] at this; omega
  have hok := Rep.parse_ok hz
  have hby := Rep.bytes_parse hz hlen
  have P1 := Lib.hid fun w1 (hb : Below w.heap.size w w1) => implParse_any w.heap.size c ad zs w1 (h.below hb) hb.size hz
  have R1 := Lib.hid fun w1 (hb : Below w.heap.size w w1) => readReport_any (B := w.heap.size) (w := w1) (h.below hb) hz hc hb.size
  have C1 := Lib.hid fun w1 (hb : Below w.heap.size w w1) => conv_reads (c := c) (h.below hb)
  obtain ⟨r, hr⟩ : ∃ r, r = Rep.parse zs := ⟨_, rfl⟩
  rw [← hr] at P1 R1 hok hby
  clear h hr hz hlen
  obtain ⟨x0, x1, x2, x3, x4, x5, x6⟩ := r
  have qE := eq_rep
  go_enter Tryd.func4, Tryd.ntmps4
  go_wp2_with fail
  refine (P1.out _ (Below.refl _ _)).mono ?_
  rintro e w1 ⟨rfl, hb1⟩
  unfold Rep.val
  go_wp2_with fail
  refine (implFormat_any ⟨x0, x1, x2, x3, x4, x5, x6⟩ _ hok.1 hok.2).mono ?_
  rintro e w2 ⟨g2, rfl, hbuf2, hg2, hb2⟩
  have hbw2 : Below w.heap.size w w2 := (hb1.alloc hb1.size _).trans (hb2.mono (by have := hb1.size; simp; omega))
  have hx : Blk w2 w1.heap.size 29 #[.int .u32 x0, .int .u8 x1, .int .u32 x2, .int .u32 x3, .int .u32 x4, .int .u32 x5, .int .u32 x6] := (blk_new w1 _ _ rfl).below hb2 (by simp)
  have q0 : w2.cell? ⟨w1.heap.size, 0, none⟩ = some (.int .u32 x0) := hx.cell 0
  have q1 : w2.cell? ⟨w1.heap.size, 1, none⟩ = some (.int .u8 x1) := hx.cell 1
  have q2 : w2.cell? ⟨w1.heap.size, 2, none⟩ = some (.int .u32 x2) := hx.cell 2
  have q3 : w2.cell? ⟨w1.heap.size, 3, none⟩ = some (.int .u32 x3) := hx.cell 3
  have q4 : w2.cell? ⟨w1.heap.size, 4, none⟩ = some (.int .u32 x4) := hx.cell 4
  have q5 : w2.cell? ⟨w1.heap.size, 5, none⟩ = some (.int .u32 x5) := hx.cell 5
  have q6 : w2.cell? ⟨w1.heap.size, 6, none⟩ = some (.int .u32 x6) := hx.cell 6
  go_wp2_with fail
  have k1d := C1.out _ hbw2.drew
  have k2d := conv_buf (n := 24) (c := 24) hbuf2.drew rfl
  rw [hby] at k2d
  go_region_held3 (fun w' => w'.cell? ⟨w1.heap.size, 0, none⟩ = some (.int .u32 x0) ∧ w'.cell? ⟨w1.heap.size, 1, none⟩ = some (.int .u8 x1) ∧ w'.cell? ⟨w1.heap.size, 2, none⟩ = some (.int .u32 x2) ∧ w'.cell? ⟨w1.heap.size, 3, none⟩ = some (.int .u32 x3) ∧ w'.cell? ⟨w1.heap.size, 4, none⟩ = some (.int .u32 x4) ∧ w'.cell? ⟨w1.heap.size, 5, none⟩ = some (.int .u32 x5) ∧ w'.cell? ⟨w1.heap.size, 6, none⟩ = some (.int .u32 x6) ∧ (convert 25 9 (.slice (some ad) 24 c)).run Tryd.prog w' = .ok (.string (strOfNums zs)) w' ∧ (convert 25 9 (.slice (some ⟨g2, 0, none⟩) 24 24)).run Tryd.prog w' = .ok (.string (strOfNums zs)) w') (first | go_keep | exact ⟨q0, q1, q2, q3, q4, q5, q6, k1d, k2d⟩)
    (first | (go_at_call 8; refine (R1.out _ ?_).mono ?_; exact hbw2.drew; rintro e w3 ⟨rfl, hb3⟩; unfold Rep.val; have hx3 := hx.drew.below hb3 hx.lt; have q0' : w3.cell? ⟨w1.heap.size, 0, none⟩ = some (.int .u32 x0) := hx3.cell 0; have q1' : w3.cell? ⟨w1.heap.size, 1, none⟩ = some (.int .u8 x1) := hx3.cell 1; have q2' : w3.cell? ⟨w1.heap.size, 2, none⟩ = some (.int .u32 x2) := hx3.cell 2; have q3' : w3.cell? ⟨w1.heap.size, 3, none⟩ = some (.int .u32 x3) := hx3.cell 3; have q4' : w3.cell? ⟨w1.heap.size, 4, none⟩ = some (.int .u32 x4) := hx3.cell 4; have q5' : w3.cell? ⟨w1.heap.size, 5, none⟩ = some (.int .u32 x5) := hx3.cell 5; have q6' : w3.cell? ⟨w1.heap.size, 6, none⟩ = some (.int .u32 x6) := hx3.cell 6; have hbw3 := hbw2.drew.trans (hb3.mono hbw2.size); have k1 := C1.out _ hbw3; have k2 := conv_buf (n := 24) (c := 24) (hbuf2.drew.below hb3 hbuf2.lt) rfl; rw [hby] at k2))
  all_goals go_wp2_with fail
  all_goals go_ret
  all_goals exact ⟨rfl, hbw3⟩

/-- A slice of bytes as it lies in memory, the spare places too. -/
def IsRow8 (w : World) (a : Option Addr) (len cap : Nat) (zs : List Int) : Prop :=
  (a = none ∧ len = 0 ∧ cap = 0 ∧ zs = []) ∨
  ∃ x, a = some x ∧ len ≤ cap ∧ cap ≤ maxLen ∧ zs.length = cap ∧ (∀ i, i < zs.length → w.cell? (x.add i) = some (.int .u8 (zs.getD i 0))) ∧ ∀ n ∈ zs, (Lit.int .u8 n).wf = true

theorem cell_lt {w : World} {x : Addr} {u : Value} (h : w.cell? (x.add 0) = some u) : x.block < w.heap.size := by
  have e : x.add 0 = x := by simp [Addr.add]
  rw [e] at h
  rcases Nat.lt_or_ge x.block w.heap.size with h1 | h1
  · exact h1
  · simp [World.cell?, Array.getElem?_eq_none h1] at h

theorem walk (a : Option Addr) (len cap : Nat) (zs : List Int) (w : World) (h : IsRow8 w a len cap zs) :
    Calls Tryd.prog 4 #[.slice a len cap] w fun e w' => e = .returned (.bool true) ∧ Below w.heap.size w w' := by
  by_cases hn : len = 24
  · subst hn
    rcases h with ⟨_, h, _⟩ | ⟨x, rfl, hl, hm, hz, hcell, hwz⟩
    · exact absurd h (by decide)
    · refine walk_on x cap (zs.take 24) w ⟨by rw [u8s_len, List.length_take]; omega, fun _ => ⟨x, rfl, cell_lt (hcell 0 (by omega)), fun j u hu => ?_⟩⟩ (Byts.take (fun n hn => ?_) 24) hl
      · have hj : j < (zs.take 24).length := by simpa [u8s] using (List.getElem?_eq_some_iff.1 hu).1
        rw [List.length_take] at hj
        rw [hcell j (by omega), ← hu]
        rw [u8s_at (by rw [List.length_take]; omega)]
        simp [List.getD, List.getElem?_eq_getElem (show j < zs.length by omega)]
      · have := hwz n hn
        simp only [Lit.wf, Bool.and_eq_true, decide_eq_true_eq] at this
        have hmin : IntKind.u8.min = 0 := rfl
        have hmax : IntKind.u8.max = 255 := rfl
        omega
  · exact walk_off a len cap w hn

theorem own : ownKnob Tryd.prog.godebug = none := by kernel_rfl
theorem laidOut : laidOutB Tryd.prog = true := by kernel_rfl

theorem door_met (os : Os) (args : Array Value) : laidMetH Tryd.prog Rows.fnReportRow.laid ((World.doorLaid Tryd.prog 47 os).forCall (fun _ _ => 0) ⟨#[], args, []⟩).memory :=
  laidMetH_of_parts3 (fuel := 8) (laidMet_of_run' 8 (by kernel_rfl) (by kernel_rfl)) (by kernel_rfl) (by kernel_rfl)

set_option maxRecDepth 100000 in
theorem lifted (os : Os) (started : os.Started) (H : Type) (enc : TypeId × Value → H) :
    ReturnsInHanded {} Tryd.checked os 4 .any (fun w args => (Rows.fnReportSpec.pre enc Tryd.prog Tryd.f4 [] false w args ∧ laidMetH Tryd.prog Rows.fnReportRow.laid w) ∧ sizedMet enc Tryd.prog Tryd.f4 (OpenSpec.ofChange Rows.fnReportSpec) false w args)
      (Rows.fnReportSpec.post enc Tryd.prog Tryd.f4 false true false false) := by
  refine returnsInHanded_of_change_and (C := Tryd.checked) (X := fun w _ => laidMetH Tryd.prog Rows.fnReportRow.laid w) (fun _ _ _ hh h => h.of_heap hh) own started (by kernel_rfl) Tryd.func4
    (ChangeSpec.witness_shaped (enc := enc) (C := Tryd.checked) (os := os) (X := fun w _ => laidMetH Tryd.prog Rows.fnReportRow.laid w) false (World.doorLaid Tryd.prog 47 os) #[.slice none 0 0] 8 rfl (World.shaped_of_RefB (by kernel_rfl) (by kernel_rfl)) (by kernel_rfl) (by kernel_rfl) (by kernel_rfl) (door_met os _)) ?_
  intro W base args ds gs before hval0 hW _ _ hL _
  have hval : ∀ (j : Nat) t v, Tryd.f4.params[j]? = some t → args[j]? = some v → Value.okWide Tryd.prog W .any base t v := hval0
  have hW' := hW
  obtain ⟨p, q, hA0, hV, rfl, hfz, hnd⟩ := hW
  have hA : DataW.TrodAll enc Tryd.prog W 0 (fun _ => true) true Tryd.f4.params.toList args.toList ds p := hA0
  rw [Tryd.params4] at hA hval
  obtain ⟨v0, vs0, d0, ds0, p0, q0, hargs, rfl, rfl, h0, r0⟩ := trodAll_cons hA
  obtain ⟨rfl, rfl, rfl⟩ := trodAll_nil r0
  obtain rfl : args = #[v0] := by cases args; simp_all
  obtain ⟨rfl, rfl⟩ := trodVars_none hV
  obtain ⟨a0, len0, cap0, rfl⟩ := okWide_slice Tryd.underlying25 (hval 0 25 v0 rfl rfl)
  have k0 := h0
  have lt0 : ∀ x ∈ p0, x.block < W.heap.size := by obtain ⟨m, hm⟩ := k0; exact DataW.trod_lt m _ _ _ hm
  obtain ⟨z0, w0⟩ : ∃ zs, IsRow8 W a0 len0 cap0 zs := by
    obtain ⟨fuel, hf⟩ := h0
    rcases open_ints Tryd.underlying25 Tryd.underlying5 (by kernel_rfl) hf with ⟨hcs, _⟩ | ⟨x, l, c, zs, hcs, _, hl, hm, hz, _, hcell, hwz⟩
    · simp [Value.cells] at hcs
      obtain ⟨rfl, rfl, rfl⟩ := hcs
      exact ⟨[], .inl ⟨rfl, rfl, rfl, rfl⟩⟩
    · simp [Value.cells] at hcs
      obtain ⟨rfl, rfl, rfl⟩ := hcs
      exact ⟨zs, .inr ⟨_, rfl, hl, hm, by simpa using hz, hcell, hwz⟩⟩
  clear hA0 hval0
  refine (walk a0 len0 cap0 z0 W w0).mono fun e W' ⟨he, bel⟩ => ?_
  subst he
  exact ⟨_, rfl, _, _, _, [], _, [], hW', trodAll_mk1 (shut_bool Tryd.underlying4 _), (trodAll_cons_mk (Below.trod laidOut (by kernel_rfl) (of_decide_eq_true (by kernel_rfl)) k0 bel lt0) trodAll_mk0), rfl, bel.frame _, fun h => by cases h⟩

theorem said : Rows.FnReportSaid :=
  OpenClaim.holds_of_wide 4 Tryd.f4 rfl rfl rfl rfl rfl rfl rfl ⟨rfl, rfl, rfl, rfl, rfl⟩ rfl rfl rfl rfl rfl (by kernel_rfl) Tryd.func4 (by kernel_rfl)
    (of_decide_eq_true (by kernel_rfl)) (by unfold Func.isWrapper; first | (rw [if_pos (by decide +kernel)]; kernel_rfl) | (rw [if_neg (by decide +kernel)]; exact ⟨rfl, rfl⟩))
    (fun os started H enc _ => lifted os started H enc)

theorem plain (f : FuncId) (fn : Func) (hf : Tryd.pinned.checked.prog.funcNamed Tryd.f4.name = some f) (hfn : Tryd.pinned.checked.prog.funcs[f]? = some fn) :
    false = Tryd.pinned.checked.prog.looks [] ∧ ∀ (j : Nat) t, fn.params[j]? = some t → Tryd.pinned.checked.prog.wantsStandIn t = false := by
  obtain rfl : f = 4 := Option.some.inj ((show Tryd.prog.funcNamed Tryd.f4.name = some 4 by kernel_rfl).symm.trans hf) |>.symm
  obtain rfl : fn = Tryd.f4 := (Option.some.inj (Tryd.func4.symm.trans hfn)).symm
  refine ⟨by kernel_rfl, fun j t ht => ?_⟩
  rw [Tryd.params4] at ht
  obtain rfl : t = 25 := by simpa using Array.mem_of_getElem? ht
  exact (show Tryd.prog.wantsStandIn 25 = false by kernel_rfl)

theorem card : Rows.FnReportCardSaid :=
  Claim7.holds_tied_plain_at .later [] _ _ _ _ said (fun _ h => by cases h) (by kernel_rfl) (fun _ h => by cases h) fnReport_row_tie rfl ⟨rfl, rfl⟩ (by kernel_rfl) rfl plain (by kernel_rfl)
#print axioms card
end Go.Proofs.YtcikhjolehlchaaDoor.fnReport
