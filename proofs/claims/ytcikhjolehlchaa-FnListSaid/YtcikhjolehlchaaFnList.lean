/-
  The law on the list of a pair returns true for every pair. No condition.
-/
import Derived.Test.YtcikhjolehlchaaNackRange
import Derived.ProofKit
import Derived.OpenShut
import Derived.ChangeOld
import Derived.Lib.SmallJoins
import Derived.Deep.QuietTactic
import Derived.Deep.RegionWith
namespace Go.Proofs.Ytcikhjolehlchaa.fnList
open Go.ChangeShapes Go.WideShapes Go.ChangeAt Go.RowKit Go.Joins Go.Proofs.Ytcikhjolehlchaa.Nack
set_option linter.unusedVariables false

set_option maxHeartbeats 400000 in
theorem walk (id mask : Nat) (w : World) (hid : id < 65536) (hm : mask < 65536) :
    Calls Try.prog 3 #[.agg #[.int .u16 id, .int .u16 mask]] w fun e w' => e = .returned (.bool true) ∧ Below w.heap.size w w' := by
  go_enter Try.func3, Try.ntmps3
  go_upto_region 1 with fail
  go_cut [3, 4] (fun s3 s4 wx => wx.ownsRow w.heap.size 22 1 s3 (lst id mask).length (u16s (lst id mask)) ∧ wx.ownsRow w.heap.size 22 1 s4 (lst id mask).length (u16s (lst id mask)) ∧ Below w.heap.size w wx)
  case first =>
    go_region_held3 (fun w' => w'.cell? ⟨w.heap.size, 0, none⟩ = some (.int .u16 id) ∧ w'.cell? ⟨w.heap.size, 1, none⟩ = some (.int .u16 mask)) (go_keep)
      (first
        | (go_at_call 5; refine (implList_any id mask _ hm).mono ?_; rintro e w1 ⟨v1, rfl, hown1, hb1⟩; have hz1 : w.heap.size + 1 ≤ w1.heap.size := (by have := hb1.size; first | omega | (simp at this; omega)); have hc1 : ∀ b o, b < w.heap.size + 1 → w1.cell? ⟨b, o, none⟩ = _ := fun b o h => hb1.cell (p := ⟨b, o, none⟩) (by first | omega | (simp; omega)))
        | (go_at_call 6; refine (list_any id mask _ hm).mono ?_; rintro e w2 ⟨v2, rfl, hown2, hb2⟩; have hz2 : w.heap.size + 1 ≤ w2.heap.size := (by have := hb2.size; first | omega | (simp at this; omega)); have hc2 : ∀ b o, b < w.heap.size + 1 → w2.cell? ⟨b, o, none⟩ = _ := fun b o h => hb2.cell (p := ⟨b, o, none⟩) (by first | omega | (simp; omega))))
    all_goals (go_wp2_with fail; go_meet)
    exact ⟨own_below (own_base hown1 (by simp)) hb2 (fun k hk => (hown1.lt k hk).2), own_base hown2 (by omega), (((Below.refl _ _).alloc (Nat.le_refl _) _).drew.trans (hb1.mono (by simp))).trans (hb2.mono (by omega))⟩
  case rest =>
    obtain ⟨ho3, ho4, hbx⟩ := hcut
    have hlen := lstTo_len id mask 16
    have hpos := lstTo_pos id mask 16
    obtain ⟨L, hL⟩ : ∃ L, L = lst id mask := ⟨_, rfl⟩
    have hn0 : 0 < L.length := by rw [hL]; exact hpos
    have hn1 : L.length ≤ 17 := by rw [hL]; exact hlen
    rw [← hL] at ho3 ho4
    clear hlen hpos hL
    obtain ⟨g3, c3, rfl, _, _⟩ := ho3.form hn0
    obtain ⟨g4, c4, rfl, _, _⟩ := ho4.form hn0
    go_wp2
    go_loopw [17] (fun i wr => ∃ k : Nat, k ≤ L.length ∧ i = .int .i64 k ∧ wr.ownsRow w.heap.size 22 1 (.slice (some ⟨g3, 0, none⟩) L.length c3) L.length (u16s L) ∧ wr.ownsRow w.heap.size 22 1 (.slice (some ⟨g4, 0, none⟩) L.length c4) L.length (u16s L) ∧ Below w.heap.size w wr)
      (fun i _ => L.length - (intOf i).toNat)
    case atStart => exact ⟨0, by omega, rfl, ho3, ho4, hbx⟩
    case round =>
      obtain ⟨k, hk, rfl, h3, h4, hb⟩ := hrel
      by_cases hlt : k < L.length
      · have e3 : wr.cell? ⟨g3, k, none⟩ = some (.int .u16 (L[k] : Nat)) := by rw [h3.cellAt k (by omega)]; simp [u16s, hlt]
        have e4 : wr.cell? ⟨g4, k, none⟩ = some (.int .u16 (L[k] : Nat)) := by rw [h4.cellAt k (by omega)]; simp [u16s, hlt]
        obtain ⟨x, hx⟩ : ∃ x : Nat, x = L[k] := ⟨_, rfl⟩
        rw [← hx] at e3 e4
        clear hx
        have hk0 : (0 : Int) ≤ (k : Int) := by omega
        have hk1 : (k : Int) < (L.length : Int) := by omega
        go_wp2_with fail
        go_quiet (fail)
        go_wp2
        go_roundw
        case rel => exact ⟨k + 1, by omega, by go_num, h3, h4, hb.trans ⟨rfl, rfl, rfl, Nat.le_refl _, fun _ _ => rfl⟩⟩
        case measure => simp [intOf]; omega
      · go_wp2
        go_ret
        exact ⟨rfl, hb⟩

theorem own : ownKnob Try.prog.godebug = none := by kernel_rfl
theorem laidOut : laidOutB Try.prog = true := by kernel_rfl

theorem nat_u16 {a : Int} (h : (Lit.int .u16 a).wf = true) : ∃ n : Nat, a = n ∧ n < 65536 := by
  simp only [Lit.wf, Bool.and_eq_true, decide_eq_true_eq] at h
  have hmin : IntKind.u16.min = 0 := rfl
  have hmax : IntKind.u16.max = 65535 := rfl
  exact ⟨a.toNat, by omega, by omega⟩

set_option maxRecDepth 100000 in
theorem lifted (os : Os) (started : os.Started) (H : Type) (enc : TypeId × Value → H) :
    ReturnsInHanded {} Try.checked os 3 .any (Rows.fnListSpec.pre6 enc Try.prog Try.f3 Rows.fnListRow.domain false) (Rows.fnListSpec.post enc Try.prog Try.f3 false true false false) := by
  refine returnsInHanded_of_change (C := Try.checked) own started (by kernel_rfl) Try.func3
    (ChangeSpec.witness6 (enc := enc) (C := Try.checked) false ⟨#[], #[.agg #[.int .u16 0, .int .u16 0]], []⟩ 8 (by kernel_rfl) (by kernel_rfl) (by kernel_rfl) (by kernel_rfl)) ?_
  intro W base args ds gs before hval0 hW hcnd _
  have hval : ∀ (j : Nat) t v, Try.f3.params[j]? = some t → args[j]? = some v → Value.okWide Try.prog W .any base t v := hval0
  have hW' := hW
  obtain ⟨p, q, hA0, hV, rfl, hfz, hnd⟩ := hW
  have hA : DataW.TrodAll enc Try.prog W 0 (fun _ => true) true Try.f3.params.toList args.toList ds p := hA0
  rw [Try.params3] at hA hval
  obtain ⟨v0, vs0, d0, ds0, p0, q0, hargs, rfl, rfl, h0, r0⟩ := trodAll_cons hA
  obtain ⟨rfl, rfl, rfl⟩ := trodAll_nil r0
  obtain rfl : args = #[v0] := by cases args; simp_all
  obtain ⟨rfl, rfl⟩ := trodVars_none hV
  have k0 := h0
  have lt0 : ∀ x ∈ p0, x.block < W.heap.size := by obtain ⟨m, hm⟩ := k0; exact DataW.trod_lt m _ _ _ hm
  obtain ⟨c0, c1, y0, y1, m, rfl, hd0, hp0, hy0, hy1⟩ := open_agg2 Try.underlying24 (by kernel_rfl) (by kernel_rfl) (hval 0 24 v0 rfl rfl) h0
  obtain ⟨a, e0, _, wa⟩ := DataW.trod_int Try.underlying22 hy0
  obtain ⟨b, e1, _, wb⟩ := DataW.trod_int Try.underlying22 hy1
  simp at e0 e1
  subst e0 e1
  obtain ⟨id, rfl, hid⟩ := nat_u16 wa
  obtain ⟨mask, rfl, hm⟩ := nat_u16 wb
  clear hA0 hval0
  refine (walk id mask W hid hm).mono fun e W' ⟨he, bel⟩ => ?_
  subst he
  exact ⟨_, rfl, _, _, _, [], _, [], hW', trodAll_mk1 (shut_bool Try.underlying4 _), (trodAll_cons_mk (Below.trod laidOut (by kernel_rfl) (of_decide_eq_true (by kernel_rfl)) k0 bel lt0) trodAll_mk0), rfl, bel.frame _, fun h => by cases h⟩

theorem over : Rows.fnListRow.holds Try.pinned (OpenSpec.ofChange Rows.fnListSpec) :=
  OpenClaim.holds_of_wide 3 Try.f3 rfl rfl rfl rfl rfl rfl rfl ⟨rfl, rfl, rfl, rfl, rfl⟩ rfl rfl rfl rfl rfl (by kernel_rfl) Try.func3 (by kernel_rfl)
    (of_decide_eq_true (by kernel_rfl)) (by unfold Func.isWrapper; first | (rw [if_pos (by decide +kernel)]; kernel_rfl) | (rw [if_neg (by decide +kernel)]; exact ⟨rfl, rfl⟩))
    (fun os started H enc _ => lifted os started H enc)

theorem proved : Rows.FnListSaid := over
#print axioms proved
end Go.Proofs.Ytcikhjolehlchaa.fnList
