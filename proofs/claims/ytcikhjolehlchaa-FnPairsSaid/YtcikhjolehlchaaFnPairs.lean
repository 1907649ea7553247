/-
  The law on the pairs of growing numbers returns true for every list. No condition.
-/
import Derived.Test.YtcikhjolehlchaaGrowing
import Derived.ProofKit
import Derived.OpenShut
import Derived.ChangeOld
namespace Go.Proofs.Ytcikhjolehlchaa.fnPairs
open Go.ChangeShapes Go.WideShapes Go.ChangeAt Go.RowKit Go.Proofs.Ytcikhjolehlchaa Go.Proofs.Ytcikhjolehlchaa.Nack
set_option linter.unusedVariables false

def IsRow (k : IntKind) (w : World) (a : Option Addr) (len cap : Nat) (zs : List Int) : Prop :=
  (a = none ∧ len = 0 ∧ cap = 0 ∧ zs = []) ∨
  ∃ x, a = some x ∧ len ≤ cap ∧ cap ≤ maxLen ∧ zs.length = cap ∧ (∀ i, i < zs.length → w.cell? (x.add i) = some (.int k (zs.getD i 0))) ∧ ∀ n ∈ zs, (Lit.int k n).wf = true

theorem at_drop {l : List Nat} {n : Nat} {M rest : List Nat} (h : l.drop n = M ++ rest) {i : Nat} (hi : i < M.length) : l[n + i]? = some M[i] := by
  rw [← List.getElem?_drop, h, List.getElem?_append_left hi, List.getElem?_eq_getElem hi]
theorem drop_next {l : List Nat} {n : Nat} {M rest : List Nat} (h : l.drop n = M ++ rest) : l.drop (n + M.length) = rest := by
  rw [← List.drop_drop, h, List.drop_left]

set_option maxHeartbeats 2000000 in
/-- From one to two thousand numbers. -/
theorem walk_some (b off c : Nat) (a : Nat) (rest : List Nat) (w : World) (hn : rest.length + 1 ≤ 2000) (hl : ∀ x ∈ a :: rest, x < 65536)
    (hb' : b < w.heap.size) (hcell : ∀ k, k < (a :: rest).length → ∀ x : Nat, (a :: rest)[k]? = some x → w.cell? ⟨b, off + k, none⟩ = some (.int .u16 (x : Int))) :
    Calls Try.prog 4 #[.slice (some ⟨b, off, none⟩) ((a :: rest).length : Nat) c] w fun e w' => e = .returned (.bool true) ∧ Below w.heap.size w w' := by
  have hN : 0 < (a :: rest).length ∧ (a :: rest).length ≤ 2000 := ⟨by simp, by simpa using hn⟩
  have G := Lib.hid (growing_any b off c (a :: rest) w hb' hcell hN.2)
  have hr : Reads w w.heap.size 1 (some ⟨b, off, none⟩) (rest.length + 1) (u16s (a :: rest)) := by
    refine ⟨by simp [u16s], fun _ => ⟨_, rfl, hb', fun j u hu => ?_⟩⟩
    rw [Addr.add_lit]
    have hj : j < (a :: rest).length := by simpa [u16s] using (List.getElem?_eq_some_iff.1 hu).1
    rw [hcell j hj _ (List.getElem?_eq_getElem hj), ← hu, u16s_at hj]
  have I := Lib.hid fun (w1 : World) (hb1 : Below w.heap.size w w1) (hg : Grows (a :: rest)) => implPairs_any w.heap.size (some ⟨b, off, none⟩) c a rest w1 (hr.below hb1) hb1.size (by omega) hg hl
  obtain ⟨n, hnn⟩ : ∃ n, n = (a :: rest).length := ⟨_, rfl⟩
  have hnn' : rest.length + 1 = n := by simpa using hnn.symm
  rw [hnn'] at I
  rw [← hnn] at hN hcell G ⊢
  obtain ⟨hn0, hn1⟩ := hN
  have hne : ((n : Int) == 0) = false := by simp; omega
  have Hnn := Lib.hid hnn
  have Hcell := Lib.hid hcell
  have Hr := Lib.hid hr
  clear hnn hcell hnn' hr
  go_enter Try.func4, Try.ntmps4
  go_wp2_with fail
  refine G.out.mono ?_
  rintro e w1 ⟨g, rfl, hg, hb1⟩
  cases g with
  | false =>
    go_wp2_with fail
    go_ret
    exact ⟨rfl, hb1⟩
  | true =>
    have hgr := hg rfl
    clear hg
    go_wp2_with fail
    refine (I.out w1 hb1 hgr).mono ?_
    rintro e w2 ⟨v2, rfl, hown2, hb2⟩
    have hcov := pairs_cover hgr hl
    obtain ⟨L, hL⟩ : ∃ L, L = pk a 0 rest := ⟨_, rfl⟩
    obtain ⟨l, hl2⟩ : ∃ l, l = a :: rest := ⟨_, rfl⟩
    have hlen := pk_len rest a 0
    have hmask := pk_mask rest a 0 (by omega)
    have hL0 : 0 < (pk a 0 rest).length := by
      rcases hp : pk a 0 rest with _ | ⟨p, ps⟩
      · rw [hp] at hcov; cases hcov
      · simp
    rw [← hL] at hown2 hcov hlen hL0 hmask
    rw [← hl2] at hcov hl hgr
    have Hl : Hid (n = l.length) := by show _ = _; rw [hl2]; exact Hnn.out
    have Hc : Hid (∀ k, k < n → ∀ x : Nat, l[k]? = some x → w.cell? ⟨b, off + k, none⟩ = some (.int .u16 (x : Int))) := by rw [hl2]; exact Hcell.out
    have hLn : L.length ≤ n := by have := Hnn.out; simp at this; omega
    clear hL hl2 hlen Hnn Hcell Hr G I
    obtain ⟨g2, c2, rfl, _, hg2⟩ := hown2.form hL0
    have hz1 := hb1.size
    have hz2 := hb2.size
    have hcov' := Lib.hid hcov
    have Hgr := Lib.hid hgr
    have Hlt := Lib.hid hl
    have Hmask := Lib.hid hmask
    clear hcov hgr hl hmask
    go_wp2_with fail
    go_loopw [3, 30] (fun t i wr => ∃ j m : Nat, j ≤ L.length ∧ m ≤ n ∧ i = .int .i64 j ∧ t = .int .i64 m ∧ Hid (Covers (l.drop m) (L.drop j)) ∧ Below w2.heap.size w2 wr)
      (fun _ i _ => L.length - (intOf i).toNat)
    case atStart => exact ⟨0, 0, by omega, by omega, rfl, rfl, by simpa using hcov', Below.refl _ _⟩
    case round =>
      obtain ⟨j, m, hj, hm, rfl, rfl, hcv, hb⟩ := hrel
      have hz := hb.size
      by_cases hjl : j < L.length
      · obtain ⟨p, hp⟩ : ∃ p, p = L[j] := ⟨_, rfl⟩
        have hdj : L.drop j = p :: L.drop (j + 1) := by rw [hp]; exact List.drop_eq_getElem_cons hjl
        have hcv1 := hcv.out
        rw [hdj] at hcv1
        obtain ⟨rst, hlm, hhead, hcv2⟩ := hcv1
        have hM0 := lstTo_pos p.1 p.2 16
        have hM1 := lstTo_len p.1 p.2 16
        obtain ⟨M, hM⟩ : ∃ M, M = lst p.1 p.2 := ⟨_, rfl⟩
        have hM2 : M[0]? = some p.1 := by rw [hM]; exact lst_head _ _
        rw [← hM] at hlm
        rw [show lstTo p.1 p.2 16 = M from hM.symm] at hM0 hM1
        have hmn : m + M.length ≤ n := by
          have := congrArg List.length hlm
          rw [List.length_drop, List.length_append, ← Hl.out] at this
          omega
        have hp2 : p.2 < 65536 := Hmask.out p (by rw [hp]; exact List.getElem_mem _)
        have hbw : Below w.heap.size w wr := (hb1.trans (hb2.mono hz1)).trans (hb.mono (by omega))
        have hpl := prs_len L
        have ep0 : wr.cell? ⟨g2, j * 2, none⟩ = some (.int .u16 (p.1 : Nat)) := by
          rw [hb.cell (by exact hg2), hown2.cellAt _ (by omega), prs_at0 hjl, hp]
        have ep1 : wr.cell? ⟨g2, j * 2 + 1, none⟩ = some (.int .u16 (p.2 : Nat)) := by
          rw [hb.cell (by exact hg2), hown2.cellAt _ (by omega), prs_at1 hjl, hp]
        have hlm0 : l[m]? = some p.1 := by
          have := at_drop hlm (i := 0) (by omega)
          rw [List.getElem?_eq_getElem (by omega)] at hM2
          simpa [Option.some.inj hM2] using this
        have el : wr.cell? ⟨b, off + m, none⟩ = some (.int .u16 (p.1 : Nat)) := (hbw.cell (by exact hb')).trans (Hc.out m (by omega) p.1 hlm0)
        obtain ⟨x, hx⟩ : ∃ x, x = p.1 := ⟨_, rfl⟩
        obtain ⟨y, hy⟩ : ∃ y, y = p.2 := ⟨_, rfl⟩
        rw [← hx] at ep0 el hM hM2 hhead
        rw [← hy] at ep1 hM hp2
        have Hlm := Lib.hid hlm
        have Hhead := Lib.hid hhead
        have Hcv2 := Lib.hid hcv2
        have HM := Lib.hid hM
        have HM2 := Lib.hid hM2
        clear hlm hhead hcv2 hM hM2 hp hdj hlm0 hx hy hcv hpl
        have hd : decide (n ≤ m) = false := by simp; omega
        have hm0 : (0 : Int) ≤ (m : Int) := by omega
        have hm1 : (m : Int) < (n : Int) := by omega
        go_wp2_with fail
        have hnb : b < wr.heap.size := by omega
        go_quiet (fail)
        go_wp2_with fail
        refine (list_any x y _ hp2).mono ?_
        rintro e w3 ⟨v3, rfl, hown3, hb3⟩
        rw [← HM.out] at hown3
        have hb3' : Below (wr.heap.size + 1) ((wr.alloc (.cells #[.int .u16 x, .int .u16 y] 27)).drewN nq) w3 := hb3.mono (by simp)
        have hown3' : w3.ownsRow (wr.heap.size + 1) 22 1 v3 M.length (u16s M) := own_base hown3 (by simp)
        obtain ⟨g3, c3, rfl, _, hg3⟩ := hown3'.form hM0
        have hbw3 : Below wr.heap.size wr w3 := ((Below.refl _ _).alloc (Nat.le_refl _) _).trans ⟨hb3.os, hb3.tape, hb3.output, hb3.size, fun k hk => hb3'.block k (by omega)⟩
        clear hown3 hb3 hb3'
        go_wp2_with fail
        obtain ⟨wo, rfl⟩ : ∃ wo : World, wo = wr := ⟨_, rfl⟩
        have hz3 := hbw3.size
        go_loopw [3, 54] (fun t i wi => ∃ q r : Nat, q ≤ M.length ∧ r ≤ n ∧ Hid (r = m + q) ∧ i = .int .i64 q ∧ t = .int .i64 r ∧ Below w3.heap.size w3 wi)
          (fun _ i _ => M.length - (intOf i).toNat)
        case atStart => exact ⟨0, m, by omega, by omega, rfl, rfl, rfl, Below.refl _ _⟩
        case round =>
          obtain ⟨q, r, hq, hrn, hr, rfl, rfl, hbi⟩ := hrel
          have hbwr : Below w.heap.size w wr := (hbw.trans (hbw3.mono (by omega))).trans (hbi.mono (by omega))
          have hzi := hbi.size
          have hb1' : b < wr.heap.size := by omega
          have hr0 : (0 : Int) ≤ (r : Int) := by omega
          by_cases hqM : q < M.length
          · obtain ⟨z, hz'⟩ : ∃ z : Nat, z = M[q] := ⟨_, rfl⟩
            have ez : wr.cell? ⟨g3, q, none⟩ = some (.int .u16 (z : Nat)) := by
              rw [hbi.cell (by exact hg3), hown3'.cellAt _ (by omega), u16s_at hqM, hz']
            have hrlt : r < n := by have := hr.out; omega
            have elz : wr.cell? ⟨b, off + r, none⟩ = some (.int .u16 (z : Nat)) := (hbwr.cell (by exact hb')).trans (Hc.out r hrlt z (by rw [hr.out, at_drop Hlm.out hqM, hz']))
            clear hz'
            have hd3 : decide (n ≤ r) = false := by simp; omega
            have hr1 : (r : Int) < (n : Int) := by omega
            go_wp2
            exact ⟨⟨q + 1, r + 1, by omega, by omega, by show _ = _; have := hr.out; omega, by go_num, by go_num, hbi.trans ⟨rfl, rfl, rfl, Nat.le_refl _, fun _ _ => rfl⟩⟩, by simp [intOf]; omega⟩
          · obtain rfl : q = M.length := by omega
            have hbo : Below w2.heap.size w2 wr := (hb.trans (hbw3.mono (by omega))).trans (hbi.mono (by omega))
            have hnext : l.drop r = rst := by rw [hr.out]; exact drop_next Hlm.out
            have hcv3 : Hid (Covers (l.drop r) (L.drop (j + 1))) := by rw [hnext]; exact Hcv2.out
            by_cases hrlt : r < n
            · obtain ⟨h, hh⟩ : ∃ h : Nat, l[r]? = some h := ⟨l[r]'(by rw [← Hl.out]; exact hrlt), List.getElem?_eq_getElem _⟩
              have hgap : x + 16 < h := by
                refine Hhead.out h ?_
                rw [← hnext, List.head?_drop]; exact hh
              have hh65 : h < 65536 := Hlt.out h (List.mem_of_getElem? hh)
              have elh : wr.cell? ⟨b, off + r, none⟩ = some (.int .u16 (h : Nat)) := (hbwr.cell (by exact hb')).trans (Hc.out r hrlt h hh)
              have Hnext := Lib.hid hnext
              clear hh hnext
              have hr1 : (r : Int) < (n : Int) := by omega
              have hsub : IntKind.u16.wrap ((h : Int) - (x : Int)) = (h : Int) - (x : Int) := by rw [IntKind.wrap_u16]; omega
              have hle : decide ((h : Int) - (x : Int) ≤ 16) = false := by simp; omega
              go_wp2
              exact ⟨⟨j + 1, r, by omega, by omega, by go_num, rfl, hcv3, hbo.trans ⟨rfl, rfl, rfl, Nat.le_refl _, fun _ _ => rfl⟩⟩, by simp [intOf]; omega⟩
            · have hd4 : decide (r < n) = false := by simp; omega
              clear hnext
              go_wp2
              exact ⟨⟨j + 1, r, by omega, by omega, by go_num, rfl, hcv3, hbo.trans ⟨rfl, rfl, rfl, Nat.le_refl _, fun _ _ => rfl⟩⟩, by simp [intOf]; omega⟩
      · obtain rfl : j = L.length := by omega
        have hend : l.drop m = [] := by have := hcv.out; rw [List.drop_length] at this; exact this
        have hmn : m = n := by
          have := congrArg List.length hend
          rw [List.length_drop, ← Hl.out] at this
          simp at this; omega
        have hq : ((m : Int) == (n : Int)) = true := by rw [hmn]; simp
        clear hmn hend
        have hbw : Below w.heap.size w wr := (hb1.trans (hb2.mono hz1)).trans (hb.mono (by omega))
        go_wp2
        go_ret
        exact ⟨rfl, hbw⟩

theorem own : ownKnob Try.prog.godebug = none := by kernel_rfl
theorem laidOut : laidOutB Try.prog = true := by kernel_rfl

theorem nat_list : ∀ (zs : List Int), (∀ n ∈ zs, (Lit.int .u16 n).wf = true) → ∃ l : List Nat, zs = l.map Int.ofNat ∧ ∀ x ∈ l, x < 65536 := by
  intro zs
  induction zs with
  | nil => intro _; exact ⟨[], rfl, by simp⟩
  | cons z zs ih =>
    intro h
    obtain ⟨l, hl, hx⟩ := ih fun n hn => h n (List.mem_cons_of_mem _ hn)
    have hz := h z (by simp)
    simp only [Lit.wf, Bool.and_eq_true, decide_eq_true_eq] at hz
    have hmin : IntKind.u16.min = 0 := rfl
    have hmax : IntKind.u16.max = 65535 := rfl
    refine ⟨z.toNat :: l, ?_, ?_⟩
    · rw [List.map_cons, ← hl]
      congr 1
      show z = (z.toNat : Int)
      omega
    · intro x hxm
      rcases List.mem_cons.1 hxm with rfl | hxm
      · omega
      · exact hx x hxm

set_option maxHeartbeats 1000000 in
theorem walk (a0 : Option Addr) (len0 cap0 : Nat) (z0 : List Int) (w : World) (w0 : IsRow .u16 w a0 len0 cap0 z0) :
    Calls Try.prog 4 #[.slice a0 len0 cap0] w fun e w' => e = .returned (.bool true) ∧ Below w.heap.size w w' := by
  by_cases hz : len0 = 0
  · subst hz
    go_enter Try.func4, Try.ntmps4
    go_wp2
    go_ret
    exact ⟨rfl, Below.refl _ _⟩
  rcases w0 with ⟨_, h0, _⟩ | ⟨x, rfl, hl, hm, hzl, hcell, hwz⟩
  · exact absurd h0 hz
  · unfold maxLen at hm
    have hne : ((len0 : Int) == 0) = false := by simp; omega
    by_cases hbig : (2000 : Int) < (len0 : Int)
    · go_enter Try.func4, Try.ntmps4
      go_wp2
      all_goals go_ret
      all_goals exact ⟨rfl, Below.refl _ _⟩
    · obtain ⟨l, hl0, hlt⟩ := nat_list z0 hwz
      obtain ⟨b, off, spot⟩ := x
      have hc0 := hcell 0 (by omega)
      obtain rfl : spot = none := by simpa [Addr.add] using World.cell?_spot hc0
      have hb : b < w.heap.size := World.block_lt_of_cell? w ⟨b, off, none⟩ (by simpa [Addr.add] using hc0)
      have hll : l.length = cap0 := by rw [← hzl, hl0]; simp
      obtain ⟨a, rest, har⟩ : ∃ a rest, l.take len0 = a :: rest := by
        rcases hq : l.take len0 with _ | ⟨a, rest⟩
        · have := congrArg List.length hq
          rw [List.length_take] at this
          simp only [List.length_nil] at this
          omega
        · exact ⟨a, rest, rfl⟩
      have hlen : (a :: rest).length = len0 := by rw [← har, List.length_take]; omega
      rw [← hlen]
      refine walk_some b off cap0 a rest w (by simp at hlen; omega) (fun y hy => hlt y (by rw [← har] at hy; exact List.mem_of_mem_take hy)) hb ?_
      intro k hk y hy
      have h1 := hcell k (by rw [hlen] at hk; omega)
      rw [Addr.add_lit] at h1
      rw [h1]
      rw [hlen] at hk
      have hy2 : l[k]? = some y := by rw [← har, List.getElem?_take, if_pos hk] at hy; exact hy
      simp [hl0, List.getD, hy2]

set_option maxRecDepth 100000 in
theorem lifted (os : Os) (started : os.Started) (H : Type) (enc : TypeId × Value → H) :
    ReturnsInHanded {} Try.checked os 4 .any (Rows.fnPairsSpec.pre6 enc Try.prog Try.f4 Rows.fnPairsRow.domain false) (Rows.fnPairsSpec.post enc Try.prog Try.f4 false true false false) := by
  refine returnsInHanded_of_change (C := Try.checked) own started (by kernel_rfl) Try.func4
    (ChangeSpec.witness6 (enc := enc) (C := Try.checked) false ⟨#[], #[.slice none 0 0], []⟩ 8 (by kernel_rfl) (by kernel_rfl) (by kernel_rfl) (by kernel_rfl)) ?_
  intro W base args ds gs before hval0 hW hcnd _
  have hval : ∀ (j : Nat) t v, Try.f4.params[j]? = some t → args[j]? = some v → Value.okWide Try.prog W .any base t v := hval0
  have hW' := hW
  obtain ⟨p, q, hA0, hV, rfl, hfz, hnd⟩ := hW
  have hA : DataW.TrodAll enc Try.prog W 0 (fun _ => true) true Try.f4.params.toList args.toList ds p := hA0
  rw [Try.params4] at hA hval
  obtain ⟨v0, vs0, d0, ds0, p0, q0, hargs, rfl, rfl, h0, r0⟩ := trodAll_cons hA
  obtain ⟨rfl, rfl, rfl⟩ := trodAll_nil r0
  obtain rfl : args = #[v0] := by cases args; simp_all
  obtain ⟨rfl, rfl⟩ := trodVars_none hV
  obtain ⟨a0, len0, cap0, rfl⟩ := okWide_slice Try.underlying25 (hval 0 25 v0 rfl rfl)
  have k0 := h0
  have lt0 : ∀ x ∈ p0, x.block < W.heap.size := by obtain ⟨m, hm⟩ := k0; exact DataW.trod_lt m _ _ _ hm
  obtain ⟨z0, w0⟩ : ∃ zs, IsRow .u16 W a0 len0 cap0 zs := by
    obtain ⟨fuel, hf⟩ := h0
    rcases open_ints Try.underlying25 Try.underlying22 (by kernel_rfl) hf with ⟨hcs, _⟩ | ⟨x, l, c, zs, hcs, _, hl, hm, hz, _, hcell, hwz⟩
    · simp [Value.cells] at hcs
      obtain ⟨rfl, rfl, rfl⟩ := hcs
      exact ⟨[], .inl ⟨rfl, rfl, rfl, rfl⟩⟩
    · simp [Value.cells] at hcs
      obtain ⟨rfl, rfl, rfl⟩ := hcs
      exact ⟨zs, .inr ⟨_, rfl, hl, hm, by simpa using hz, hcell, hwz⟩⟩
  clear hA0 hval0
  refine (walk a0 len0 cap0 z0 W w0).mono fun e W' ⟨he, bel⟩ => ?_
  subst he
  exact ⟨_, rfl, _, _, _, [], _, [], hW', trodAll_mk1 (shut_bool Try.underlying4 _), (trodAll_cons_mk (Below.trod laidOut (by kernel_rfl) (of_decide_eq_true (by kernel_rfl)) k0 bel lt0) trodAll_mk0), rfl, bel.frame _, fun h => by cases h⟩

theorem over : Rows.fnPairsRow.holds Try.pinned (OpenSpec.ofChange Rows.fnPairsSpec) :=
  OpenClaim.holds_of_wide 4 Try.f4 rfl rfl rfl rfl rfl rfl rfl ⟨rfl, rfl, rfl, rfl, rfl⟩ rfl rfl rfl rfl rfl (by kernel_rfl) Try.func4 (by kernel_rfl)
    (of_decide_eq_true (by kernel_rfl)) (by unfold Func.isWrapper; first | (rw [if_pos (by decide +kernel)]; kernel_rfl) | (rw [if_neg (by decide +kernel)]; exact ⟨rfl, rfl⟩))
    (fun os started H enc _ => lifted os started H enc)

theorem proved : Rows.FnPairsSaid := over
#print axioms proved
end Go.Proofs.Ytcikhjolehlchaa.fnPairs
