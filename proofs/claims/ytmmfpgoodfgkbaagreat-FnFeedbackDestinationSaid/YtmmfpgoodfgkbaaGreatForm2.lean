/-
  THE END of the reference's body of a packet: the header, the bytes and the flag are handed back. No condition.
-/
import Derived.Test.YtmmfpgoodfgkbaaGreatForm1
namespace Go.Proofs.YtmmfpgoodfgkbaaGreat
open Go Go.RowKit
set_option linter.unusedVariables false

theorem own_four {wx : World} {base : Nat} {e : TypeId} {size : Nat} {v : Value} {n : Nat} {xs : List Value} {h : Nat} (hown : wx.ownsRow base e size v n xs) (hne : ∀ k, v.ownBlock = some k → h + 1 < k) {x y z u : Value} :
    ((((wx.setCell ⟨h, 0, none⟩ x).setCell ⟨h, 1, none⟩ y).setCell ⟨h, 2, none⟩ z).setCell ⟨h, 3, none⟩ u).ownsRow base e size v n xs := by
  have hh : v.ownBlock ≠ some h := fun e => by have := hne _ e; omega
  exact own_setCell (a := ⟨h, 3, none⟩) (own_setCell (a := ⟨h, 2, none⟩) (own_setCell (a := ⟨h, 1, none⟩) (own_setCell (a := ⟨h, 0, none⟩) hown hh _) hh _) hh _) hh _
noncomputable def formEnd : Code := codeSecond (formAfter 4)

set_option maxHeartbeats 1000000 in
set_option maxRecDepth 100000 in
theorem form_finish (p : Pkt) (w w1 : World) (a : Act) (c t : Int) (b : Bool) (B n : Nat) (u : Value) (bs : List Int) (R : Ending → World → Prop)
    (hE : Env 490 [(2, .pointer (some ⟨w.heap.size + 1, 0, none⟩)), (3, u), (4, .pointer (some ⟨w.heap.size + 1 + 1, 0, none⟩))] a) (hH : Head p w c t b w1) (hown : w1.ownsRow B 5 1 u n (u8s bs)) (hB : w.heap.size + 3 ≤ B) (hn : n = bs.length)
    (hR : ∀ e w', Formed w c t bs b e w' → R e w') :
    formEnd.wp Tryz.prog (bodyPost Tryz.prog Tryz.f52 R) a w1 := by
  have hne : ∀ k, u.ownBlock = some k → w.heap.size + 1 + 1 < k := fun k hk => by have := (hown.lt k hk).1; omega
  conv => arg 2; whnf
  refine wp_seq_k fun K hKK => ?_
  refine wp_region_mid (n := 490) [] (by kernel_rfl) (by kernel_rfl) (by kernel_rfl) (by kernel_rfl) hE.size
    [] (fun w' => True)
    (fun w' => Head p w c t b w' ∧ w'.ownsRow B 5 1 u n (u8s bs))
    (fun i v w' => match i with
      | 0 => v = .agg #[.bool false, .int .u8 c, .int .u8 t, .int .u16 0]
      | 1 => v = u
      | 2 => v = .bool b
      | 3 => True
      | 4 => v = u
      | 5 => True
      | _ => True)
    (fun i w1 w2 => match i with
      | 3 => True
      | 5 => True
      | _ => w2 = w1)
    (trivial) ?hC0 ?hKeep ?hKeepI ?hDuty ?hEnd
  case hC0 => exact ⟨hH.drew, own_drew hown⟩
  case hKeep =>
    intro i k v w1 w2 hne hnd hw hC0 hT hR
    match i, hT with
    | 3, hT =>
      match k, hR with
      | 3, _ => exact absurd rfl hne
      | 0, hR | 1, hR | 2, hR | 4, hR | 5, hR => exact hR
      | _ + 6, _ => trivial
    | 5, hT =>
      match k, hR with
      | 5, _ => exact absurd rfl hne
      | 0, hR | 1, hR | 2, hR | 3, hR | 4, hR => exact hR
      | _ + 6, _ => trivial
    | 0, hT | 1, hT | 2, hT | 4, hT => subst hT; exact hR
    | _ + 6, hT => subst hT; exact hR
  case hKeepI =>
    exact fun _ _ _ _ _ _ h => h
  case hDuty =>
    refine ⟨?_, ?_, ?_, ?_, ?_, ?_, trivial⟩
    · refine duty_plain rfl fun vs a w4 hO hI0 hC0 hD K hK => ?_
      obtain ⟨hH, hO1⟩ := (show Head p w c t b w4 ∧ w4.ownsRow B 5 1 u n (u8s bs) from hC0)
      obtain ⟨d0, d1, d2, d3, f0, f1, f2, f3⟩ := hH.cellH
      have d4 : w4.cell? ⟨w.heap.size + 1 + 1, 0, none⟩ = some (.bool b) := hH.ok.cell 0
      have f4 : w4.frozen? ⟨w.heap.size + 1 + 1, 0, none⟩ = false := hH.ok.frozen 0
      have hz1 : w.heap.size + 1 < w4.heap.size := by have := hH.lt; omega
      have e2 : a.tmps[2]? = some (.pointer (some ⟨w.heap.size + 1, 0, none⟩)) := (hO 2 (by kernel_rfl)).trans (hE.get 2 rfl)
      clear hD hO hI0
      go_simp
      exact hK _ _ hC0 rfl rfl
    · refine duty_plain rfl fun vs a w4 hO hI0 hC0 hD K hK => ?_
      obtain ⟨hH, hO1⟩ := (show Head p w c t b w4 ∧ w4.ownsRow B 5 1 u n (u8s bs) from hC0)
      obtain ⟨d0, d1, d2, d3, f0, f1, f2, f3⟩ := hH.cellH
      have d4 : w4.cell? ⟨w.heap.size + 1 + 1, 0, none⟩ = some (.bool b) := hH.ok.cell 0
      have f4 : w4.frozen? ⟨w.heap.size + 1 + 1, 0, none⟩ = false := hH.ok.frozen 0
      have hz1 : w.heap.size + 1 < w4.heap.size := by have := hH.lt; omega
      have e3 : a.tmps[3]? = some (u) := (hO 3 (by kernel_rfl)).trans (hE.get 3 rfl)
      clear hD hO hI0
      go_simp
      exact hK _ _ hC0 rfl rfl
    · refine duty_plain rfl fun vs a w4 hO hI0 hC0 hD K hK => ?_
      obtain ⟨hH, hO1⟩ := (show Head p w c t b w4 ∧ w4.ownsRow B 5 1 u n (u8s bs) from hC0)
      obtain ⟨d0, d1, d2, d3, f0, f1, f2, f3⟩ := hH.cellH
      have d4 : w4.cell? ⟨w.heap.size + 1 + 1, 0, none⟩ = some (.bool b) := hH.ok.cell 0
      have f4 : w4.frozen? ⟨w.heap.size + 1 + 1, 0, none⟩ = false := hH.ok.frozen 0
      have hz1 : w.heap.size + 1 < w4.heap.size := by have := hH.lt; omega
      have e4 : a.tmps[4]? = some (.pointer (some ⟨w.heap.size + 1 + 1, 0, none⟩)) := (hO 4 (by kernel_rfl)).trans (hE.get 4 rfl)
      clear hD hO hI0
      go_simp
      exact hK _ _ hC0 rfl rfl
    · refine duty_plain rfl fun vs a w4 hO hI0 hC0 hD K hK => ?_
      obtain ⟨hH, hO1⟩ := (show Head p w c t b w4 ∧ w4.ownsRow B 5 1 u n (u8s bs) from hC0)
      obtain ⟨d0, d1, d2, d3, f0, f1, f2, f3⟩ := hH.cellH
      have d4 : w4.cell? ⟨w.heap.size + 1 + 1, 0, none⟩ = some (.bool b) := hH.ok.cell 0
      have f4 : w4.frozen? ⟨w.heap.size + 1 + 1, 0, none⟩ = false := hH.ok.frozen 0
      have hz1 : w.heap.size + 1 < w4.heap.size := by have := hH.lt; omega
      have s487 : a.tmps[487]? = some (vs 0) := (hD.1 rfl).1
      have r0 : vs 0 = .agg #[.bool false, .int .u8 c, .int .u8 t, .int .u16 0] := (hD.1 rfl).2
      rw [r0] at s487
      clear r0
      have e2 : a.tmps[2]? = some (.pointer (some ⟨w.heap.size + 1, 0, none⟩)) := (hO 2 (by kernel_rfl)).trans (hE.get 2 rfl)
      clear hD hO hI0
      go_simp
      exact hK undef _ ⟨hH.four c t, own_four hO1 hne⟩ trivial trivial
    · refine duty_plain rfl fun vs a w4 hO hI0 hC0 hD K hK => ?_
      obtain ⟨hH, hO1⟩ := (show Head p w c t b w4 ∧ w4.ownsRow B 5 1 u n (u8s bs) from hC0)
      obtain ⟨d0, d1, d2, d3, f0, f1, f2, f3⟩ := hH.cellH
      have d4 : w4.cell? ⟨w.heap.size + 1 + 1, 0, none⟩ = some (.bool b) := hH.ok.cell 0
      have f4 : w4.frozen? ⟨w.heap.size + 1 + 1, 0, none⟩ = false := hH.ok.frozen 0
      have hz1 : w.heap.size + 1 < w4.heap.size := by have := hH.lt; omega
      have s488 : a.tmps[488]? = some (vs 1) := (hD.1 rfl).1
      have r1 : vs 1 = u := (hD.1 rfl).2
      rw [r1] at s488
      clear r1
      clear hD hO hI0
      go_simp
      exact hK _ _ hC0 rfl rfl
    · refine duty_plain rfl fun vs a w4 hO hI0 hC0 hD K hK => ?_
      obtain ⟨hH, hO1⟩ := (show Head p w c t b w4 ∧ w4.ownsRow B 5 1 u n (u8s bs) from hC0)
      obtain ⟨d0, d1, d2, d3, f0, f1, f2, f3⟩ := hH.cellH
      have d4 : w4.cell? ⟨w.heap.size + 1 + 1, 0, none⟩ = some (.bool b) := hH.ok.cell 0
      have f4 : w4.frozen? ⟨w.heap.size + 1 + 1, 0, none⟩ = false := hH.ok.frozen 0
      have hz1 : w.heap.size + 1 < w4.heap.size := by have := hH.lt; omega
      have s489 : a.tmps[489]? = some (vs 2) := (hD.1 rfl).1
      have r2 : vs 2 = .bool b := (hD.1 rfl).2
      rw [r2] at s489
      clear r2
      have e4 : a.tmps[4]? = some (.pointer (some ⟨w.heap.size + 1 + 1, 0, none⟩)) := (hO 4 (by kernel_rfl)).trans (hE.get 4 rfl)
      clear hD hO hI0
      go_simp
      exact hK undef _ ⟨hH.setOk b, own_setCell hO1 (fun e => by have := hne _ e; simp at this) _⟩ trivial trivial
  case hEnd =>
    intro vs a' w' hC hM hR2
    obtain ⟨hH', hO'⟩ := hC
    have r4 : vs 4 = u := hR2 4 (by decide) (by simp)
    have e2 := (hM.old 2 (by kernel_rfl)).trans (hE.get 2 rfl)
    have e3 := (hM.slot 4 3 (by kernel_rfl)).trans (congrArg some r4)
    have e4 := (hM.old 4 (by kernel_rfl)).trans (hE.get 4 rfl)
    refine hKK _ _ ?_
    clear hKK K
    refine wp_ret ?_
    obtain ⟨d0, d1, d2, d3, f0, f1, f2, f3⟩ := hH'.cellH
    have d4 : w'.cell? ⟨w.heap.size + 1 + 1, 0, none⟩ = some (.bool b) := hH'.ok.cell 0
    refine bodyPost_ret (v := .tuple #[.agg #[.bool false, .int .u8 c, .int .u8 t, .int .u16 0], u, .bool b]) (by simp [results, Tryz.results52, go_sem, e2, e3, e4, d0, d1, d2, d3, d4]) (hM.defers.trans hE.defers) (hR _ _ ⟨u, rfl, own_base (own_eq hO' hn rfl) (by omega), hH'.below⟩)
end Go.Proofs.YtmmfpgoodfgkbaaGreat
