/-
  THE BEGINNING AND THE END of the reference's body of a packet. Condition: the kind is in the table; the two sources fit their kinds.
-/
import Derived.Test.YtmmfpgoodfgkbaaGreatForm0
import Derived.Test.YtmmfpgoodfgkbaaGreatEnv
namespace Go.Proofs.YtmmfpgoodfgkbaaGreat
open Go Go.RowKit
set_option linter.unusedVariables false

/-- What stands behind a region at the outermost level. -/
def codeAfter (n : Nat) : Code → Option Code
  | .seq (.region i _ _) y => if i = n then some y else codeAfter n y
  | .seq _ y => codeAfter n y
  | _ => none
noncomputable def formAfter (n : Nat) : Code := (Tryz.f52.body.bind (codeAfter n)).getD .skip
def codeSecond : Code → Code
  | .seq _ y => y
  | _ => .skip

theorem head_start (p : Pkt) (w : World) : Head p w 0 0 false (((w.alloc (.cells p.cells 38)).alloc (.cells #[.bool false, .int .u8 0, .int .u8 0, .int .u16 0] 36)).alloc (.cells #[.bool false] 4)) :=
  ⟨((blk_new w _ _ rfl).alloc _).alloc _, (blk_new _ _ _ (by simp)).alloc _, blk_new _ _ _ (by simp), (((Below.refl _ _).alloc (Nat.le_refl _) _).alloc (by simp) _).alloc (by simp; omega) _⟩
theorem Head.setOk {p : Pkt} {w wx : World} {c t : Int} {b : Bool} (h : Head p w c t b wx) (b' : Bool) : Head p w c t b' (wx.setCell ⟨w.heap.size + 1 + 1, 0, none⟩ (.bool b')) :=
  ⟨h.pk.far (p := ⟨w.heap.size + 1 + 1, 0, none⟩) (by simp; omega) _, h.hd.far (p := ⟨w.heap.size + 1 + 1, 0, none⟩) (by simp) _, h.ok.set_ 0 _, h.below.setCell (p := ⟨w.heap.size + 1 + 1, 0, none⟩) (show w.heap.size ≤ w.heap.size + 1 + 1 by omega) _⟩
/-- Behind a region: slots that it does not write. -/
theorem putFrom_env {ops : List Oper} {n : Nat} {l l' : List (Nat × Value)} {a : Act} (hE : Env n l a) (vs : Nat → Value) (h : (l'.all fun x => ops.all fun o => o.dst != some x.1) = true) (h2 : AllAt a l') : Env n l' (putFrom 0 ops vs a) := by
  refine Env.mk' ((putFrom_size _ _ _ _).trans hE.size) ((putFrom_defers _ _ _ _).trans hE.defers) ?_
  induction l' with
  | nil => trivial
  | cons x l' ih =>
    simp only [List.all_cons, Bool.and_eq_true] at h
    exact ⟨(putFrom_ne _ _ _ _ _ fun o ho => by have := (List.all_eq_true.1 h.1) o ho; simpa using this).trans h2.1, ih h.2 h2.2⟩

set_option maxHeartbeats 1000000 in
set_option maxRecDepth 100000 in
theorem formR4 (p : Pkt) (w w3 : World) (a0 : Act) (k : Nat) {v5 : Value} (hs0 : 0 ≤ p.sender) (hs1 : p.sender < 4294967296) (hm0 : 0 ≤ p.media) (hm1 : p.media < 4294967296)
    (hE : Env 490 [(1, .pointer (some ⟨w.heap.size, 0, none⟩)), (2, .pointer (some ⟨w.heap.size + 1, 0, none⟩)), (3, .slice none 0 0), (4, .pointer (some ⟨w.heap.size + 1 + 1, 0, none⟩)), (5, v5)] a0)
    (hh : Head p w (tblC.getD k 0) (tblT.getD k 0) true w3) (Q : Exit → Act → World → Prop)
    (hQ : ∀ a' w' g cap, Env 490 [(1, .pointer (some ⟨w.heap.size, 0, none⟩)), (2, .pointer (some ⟨w.heap.size + 1, 0, none⟩)), (3, .slice none 0 0), (4, .pointer (some ⟨w.heap.size + 1 + 1, 0, none⟩)), (5, v5), (6, .slice (some ⟨g, 0, none⟩) 8 cap)] a' → Head p w (tblC.getD k 0) (tblT.getD k 0) true w' → w'.ownsRow (w.heap.size + 3) 5 1 (.slice (some ⟨g, 0, none⟩) 8 cap) 8 (u8s (be32 p.sender ++ be32 p.media)) → Q .normal a' w') :
    (formR 4).wp Tryz.prog Q a0 w3 := by
  conv => arg 2; whnf
  refine wp_region_mid (n := 490) [(5, 2)] (by kernel_rfl) (by kernel_rfl) (by kernel_rfl) (by kernel_rfl) hE.size
    [] (fun w' => True)
    (fun w' => Head p w (tblC.getD k 0) (tblT.getD k 0) true w')
    (fun i v w' => match i with
      | 0 => v = .pointer (some ⟨w.heap.size, 1, none⟩)
      | 1 => v = .int .u32 p.sender
      | 2 => ∃ g2 cap2, w'.ownsRow (w.heap.size + 3) 5 1 (.slice (some ⟨g2, 0, none⟩) 4 cap2) 4 (u8s (be32 p.sender)) ∧ v = .slice (some ⟨g2, 0, none⟩) 4 cap2
      | 3 => v = .pointer (some ⟨w.heap.size, 2, none⟩)
      | 4 => v = .int .u32 p.media
      | 5 => ∃ g5 cap5, w'.ownsRow (w.heap.size + 3) 5 1 (.slice (some ⟨g5, 0, none⟩) 8 cap5) 8 (u8s (be32 p.sender ++ be32 p.media)) ∧ v = .slice (some ⟨g5, 0, none⟩) 8 cap5
      | 6 => ∃ g6 cap6, w'.ownsRow (w.heap.size + 3) 5 1 (.slice (some ⟨g6, 0, none⟩) 8 cap6) 8 (u8s (be32 p.sender ++ be32 p.media)) ∧ v = .slice (some ⟨g6, 0, none⟩) 8 cap6
      | _ => True)
    (fun i w1 w2 => match i with
      | 2 => ∃ row, w1.grownBy w2 row ∧ ∀ k, row = some k → w.heap.size + 3 ≤ k
      | 5 => ∃ row, w1.grownBy w2 row ∧ ∀ k, row = some k → w.heap.size + 3 ≤ k
      | _ => w2 = w1)
    (trivial) ?hC0 ?hKeep ?hKeepI ?hDuty ?hEnd
  case hC0 => exact hh.drew
  case hKeep =>
    intro i k v w1 w2 hne hnd hw hC0 hT hR
    match i, hT with
    | 2, hT =>
      match k, hR with
      | 5, _ => exact waits_no (by kernel_rfl) hw
      | 6, _ => exact waits_no (by kernel_rfl) hw
      | 2, _ => exact absurd rfl hne
      | 0, hR | 1, hR | 3, hR | 4, hR => exact hR
      | _ + 7, _ => trivial
    | 5, hT =>
      match k, hR with
      | 2, _ => exact absurd (by decide) hnd
      | 6, _ => exact waits_no (by kernel_rfl) hw
      | 5, _ => exact absurd rfl hne
      | 0, hR | 1, hR | 3, hR | 4, hR => exact hR
      | _ + 7, _ => trivial
    | 0, hT | 1, hT | 3, hT | 4, hT | 6, hT => subst hT; exact hR
    | _ + 7, hT => subst hT; exact hR
  case hKeepI =>
    exact fun _ _ _ _ _ _ h => h
  case hDuty =>
    refine ⟨?_, ?_, ?_, ?_, ?_, ?_, ?_, trivial⟩
    · refine duty_plain rfl fun vs a w4 hO hI0 hC0 hD K hK => ?_
      have c1 : w4.cell? ⟨w.heap.size, 1, none⟩ = some (.int .u32 p.sender) := hC0.pk.cell 1
      have c2 : w4.cell? ⟨w.heap.size, 2, none⟩ = some (.int .u32 p.media) := hC0.pk.cell 2
      have hz0 : w.heap.size < w4.heap.size := by have := hC0.lt; omega
      have e1 : a.tmps[1]? = some (.pointer (some ⟨w.heap.size, 0, none⟩)) := (hO 1 (by kernel_rfl)).trans (hE.get 1 rfl)
      clear hD hO hI0
      go_simp
      exact hK _ _ hC0 rfl rfl
    · refine duty_plain rfl fun vs a w4 hO hI0 hC0 hD K hK => ?_
      have c1 : w4.cell? ⟨w.heap.size, 1, none⟩ = some (.int .u32 p.sender) := hC0.pk.cell 1
      have c2 : w4.cell? ⟨w.heap.size, 2, none⟩ = some (.int .u32 p.media) := hC0.pk.cell 2
      have hz0 : w.heap.size < w4.heap.size := by have := hC0.lt; omega
      have s44 : a.tmps[44]? = some (vs 0) := (hD.1 rfl).1
      have r0 : vs 0 = .pointer (some ⟨w.heap.size, 1, none⟩) := (hD.1 rfl).2
      rw [r0] at s44
      clear r0
      clear hD hO hI0
      go_simp
      exact hK _ _ hC0 rfl rfl
    · refine duty_plain rfl fun vs a w4 hO hI0 hC0 hD K hK => ?_
      have c1 : w4.cell? ⟨w.heap.size, 1, none⟩ = some (.int .u32 p.sender) := hC0.pk.cell 1
      have c2 : w4.cell? ⟨w.heap.size, 2, none⟩ = some (.int .u32 p.media) := hC0.pk.cell 2
      have hz0 : w.heap.size < w4.heap.size := by have := hC0.lt; omega
      have s45 : a.tmps[45]? = some (vs 1) := (hD.1 rfl).1
      have r1 : vs 1 = .int .u32 p.sender := (hD.1 rfl).2
      rw [r1] at s45
      clear r1
      clear hD hO hI0
      go_simp
      refine (p32_any (w.heap.size + 3) _ 0 [] p.sender _ (World.ownsRow_nil _ _ _ _) hC0.lt (by omega) hs0 hs1).mono ?_
      rintro e wa ⟨ga, capa, rfl, howna, hga, hata⟩
      exact hK _ _ (hC0.grown hga row_nil) ⟨ga, capa, howna, rfl⟩ ⟨_, hga, row_nil⟩
    · refine duty_plain rfl fun vs a w4 hO hI0 hC0 hD K hK => ?_
      have c1 : w4.cell? ⟨w.heap.size, 1, none⟩ = some (.int .u32 p.sender) := hC0.pk.cell 1
      have c2 : w4.cell? ⟨w.heap.size, 2, none⟩ = some (.int .u32 p.media) := hC0.pk.cell 2
      have hz0 : w.heap.size < w4.heap.size := by have := hC0.lt; omega
      have e1 : a.tmps[1]? = some (.pointer (some ⟨w.heap.size, 0, none⟩)) := (hO 1 (by kernel_rfl)).trans (hE.get 1 rfl)
      clear hD hO hI0
      go_simp
      exact hK _ _ hC0 rfl rfl
    · refine duty_plain rfl fun vs a w4 hO hI0 hC0 hD K hK => ?_
      have c1 : w4.cell? ⟨w.heap.size, 1, none⟩ = some (.int .u32 p.sender) := hC0.pk.cell 1
      have c2 : w4.cell? ⟨w.heap.size, 2, none⟩ = some (.int .u32 p.media) := hC0.pk.cell 2
      have hz0 : w.heap.size < w4.heap.size := by have := hC0.lt; omega
      have s47 : a.tmps[47]? = some (vs 3) := (hD.1 rfl).1
      have r3 : vs 3 = .pointer (some ⟨w.heap.size, 2, none⟩) := (hD.1 rfl).2
      rw [r3] at s47
      clear r3
      clear hD hO hI0
      go_simp
      exact hK _ _ hC0 rfl rfl
    · refine duty_plain rfl fun vs a w4 hO hI0 hC0 hD K hK => ?_
      have c1 : w4.cell? ⟨w.heap.size, 1, none⟩ = some (.int .u32 p.sender) := hC0.pk.cell 1
      have c2 : w4.cell? ⟨w.heap.size, 2, none⟩ = some (.int .u32 p.media) := hC0.pk.cell 2
      have hz0 : w.heap.size < w4.heap.size := by have := hC0.lt; omega
      have s46 : a.tmps[46]? = some (vs 2) := (hD.1 rfl).1
      have q2 : ∃ g2 cap2, w4.ownsRow (w.heap.size + 3) 5 1 (.slice (some ⟨g2, 0, none⟩) 4 cap2) 4 (u8s (be32 p.sender)) ∧ vs 2 = .slice (some ⟨g2, 0, none⟩) 4 cap2 := (hD.1 rfl).2
      obtain ⟨g2, cap2, p2_0, r2⟩ := q2
      rw [r2] at s46
      clear r2
      have s48 : a.tmps[48]? = some (vs 4) := (hD.2.1 rfl).1
      have r4 : vs 4 = .int .u32 p.media := (hD.2.1 rfl).2
      rw [r4] at s48
      clear r4
      clear hD hO hI0
      go_simp
      refine (p32_any (w.heap.size + 3) _ 4 (be32 p.sender) p.media _ p2_0 hC0.lt (by omega) hm0 hm1).mono ?_
      rintro e wa ⟨ga, capa, rfl, howna, hga, hata⟩
      exact hK _ _ (hC0.grown hga fun k hk => (p2_0.lt k hk).1) ⟨ga, capa, howna, rfl⟩ ⟨_, hga, fun k hk => (p2_0.lt k hk).1⟩
    · refine duty_plain rfl fun vs a w4 hO hI0 hC0 hD K hK => ?_
      have c1 : w4.cell? ⟨w.heap.size, 1, none⟩ = some (.int .u32 p.sender) := hC0.pk.cell 1
      have c2 : w4.cell? ⟨w.heap.size, 2, none⟩ = some (.int .u32 p.media) := hC0.pk.cell 2
      have hz0 : w.heap.size < w4.heap.size := by have := hC0.lt; omega
      have s49 : a.tmps[49]? = some (vs 5) := (hD.1 rfl).1
      have q5 : ∃ g5 cap5, w4.ownsRow (w.heap.size + 3) 5 1 (.slice (some ⟨g5, 0, none⟩) 8 cap5) 8 (u8s (be32 p.sender ++ be32 p.media)) ∧ vs 5 = .slice (some ⟨g5, 0, none⟩) 8 cap5 := (hD.1 rfl).2
      obtain ⟨g5, cap5, p5_0, r5⟩ := q5
      rw [r5] at s49
      clear r5
      clear hD hO hI0
      go_simp
      exact hK _ _ hC0 ⟨_, _, p5_0, rfl⟩ rfl
  case hEnd =>
    intro vs a' w' hC hM hR
    obtain ⟨g, cap, h1, h2⟩ := hR 6 (by decide) (by simp)
    have hE' := Env.mk' (n := 490) (l := [(1, _), (2, _), (3, _), (4, _), (5, _), (6, _)]) (hM.size.trans hE.size) (hM.defers.trans hE.defers) ⟨(hM.old 1 (by kernel_rfl)).trans (hE.get 1 rfl), (hM.old 2 (by kernel_rfl)).trans (hE.get 2 rfl), (hM.old 3 (by kernel_rfl)).trans (hE.get 3 rfl), (hM.old 4 (by kernel_rfl)).trans (hE.get 4 rfl), (hM.old 5 (by kernel_rfl)).trans (hE.get 5 rfl), (hM.slot 6 6 (by kernel_rfl)).trans (congrArg some h2), trivial⟩
    exact hQ a' w' g cap hE' hC h1

set_option maxHeartbeats 2000000 in
set_option maxRecDepth 100000 in
theorem form_start (p : Pkt) (w : World) (k : Nat) (R : Ending → World → Prop) (hk : p.kind = (k : Nat)) (hk13 : k ≤ 13) (hs0 : 0 ≤ p.sender) (hs1 : p.sender < 4294967296) (hm0 : 0 ≤ p.media) (hm1 : p.media < 4294967296)
    (h : ∀ a w1 g cap, Env 490 [(1, .pointer (some ⟨w.heap.size, 0, none⟩)), (2, .pointer (some ⟨w.heap.size + 1, 0, none⟩)), (3, .slice none 0 0), (4, .pointer (some ⟨w.heap.size + 1 + 1, 0, none⟩)), (5, .func (.func 72) #[] #[.pointer (some ⟨w.heap.size + 1 + 1, 0, none⟩), .pointer (some ⟨w.heap.size + 1, 0, none⟩)]), (6, .slice (some ⟨g, 0, none⟩) 8 cap)] a → Head p w (tblC.getD k 0) (tblT.getD k 0) true w1 → w1.ownsRow (w.heap.size + 3) 5 1 (.slice (some ⟨g, 0, none⟩) 8 cap) 8 (u8s (be32 p.sender ++ be32 p.media)) →
      (formAfter 4).wp Tryz.prog (bodyPost Tryz.prog Tryz.f52 R) a w1) :
    Calls Tryz.prog 52 #[.agg p.cells] w R := by
  have hmf : ∀ (fn : Fn) (first cap : Array Value) (w : World), (Instr.makeFunc fn first cap).run Tryz.prog w = .ok (.func fn first cap) w := fun _ _ _ _ => rfl
  refine calls_of_wp Tryz.func52 rfl ?_
  rw [Tryz.ntmps52]
  have hE0 : Env 490 [(0, .agg p.cells)] ⟨#[.agg p.cells] ++ Array.replicate (490 - (#[Value.agg p.cells] : Array Value).size) undef, []⟩ := Env.enter _ (by simp) ⟨by simp, trivial⟩
  generalize (⟨#[.agg p.cells] ++ Array.replicate (490 - (#[Value.agg p.cells] : Array Value).size) undef, []⟩ : Act) = a0 at hE0 ⊢
  refine wp_seq_k fun K1 hK1 => ?_
  refine wp_region_lit ?_
  refine wpList_val hE0 1 rfl rfl fun K hK => ?_
  have e0 := hE0.get 0 rfl
  go_simp
  refine hK _ _ fun a2 hE2 => ?_
  clear hK K e0
  clear hE0 a0
  refine wpList_val hE2 2 rfl rfl fun K hK => ?_
  go_simp
  refine hK _ _ fun a3 hE3 => ?_
  clear hK K
  clear hE2 a2
  refine wpList_val hE3 3 rfl rfl fun K hK => ?_
  go_simp
  refine hK _ _ fun a4 hE4 => ?_
  clear hK K
  clear hE3 a3
  refine wpList_val hE4 4 rfl rfl fun K hK => ?_
  go_simp
  refine hK _ _ fun a5 hE5 => ?_
  clear hK K
  clear hE4 a4
  refine wpList_nil ?_
  refine hK1 _ _ ?_
  clear hK1 K1
  have hH0 := head_start p w
  generalize hw3 : ((w.alloc (.cells p.cells 38)).alloc (.cells #[.bool false, .int .u8 0, .int .u8 0, .int .u16 0] 36)).alloc (.cells #[.bool false] 4) = w3 at hH0 ⊢
  clear hw3
  refine wp_seq_k fun K6 hK6 => ?_
  refine wp_region_lit ?_
  refine wpList_none rfl fun K hK => ?_
  have e4 := hE5.get 4 rfl
  have c0 := hH0.ok.cell 0
  have c0 : w3.cell? ⟨w.heap.size + 1 + 1, 0, none⟩ = some (.bool false) := c0
  have f0 := hH0.ok.frozen 0
  go_simp
  refine hK undef _ ?_
  clear hK K e4
  refine wpList_nil ?_
  refine hK6 _ _ ?_
  clear hK6 K6
  have hH1 := hH0.setOk true
  generalize w3.setCell ⟨w.heap.size + 1 + 1, 0, none⟩ (.bool true) = w5 at hH1 ⊢
  clear hH0
  refine wp_seq_k fun K8 hK8 => ?_
  refine formR2 p w w5 _ k hk hk13 hE5.size (hE5.get 1 rfl) (hE5.get 2 rfl) hH1 _ fun vs w6 hH2 => ?_
  have hm := putFrom_env (ops := opsOf (formR 2)) hE5 vs (l' := [(1, _), (2, _), (3, _), (4, _)]) (by kernel_rfl) ⟨hE5.get 1 rfl, hE5.get 2 rfl, hE5.get 3 rfl, hE5.get 4 rfl, trivial⟩
  generalize putFrom 0 (opsOf (formR 2)) vs _ = a6 at hm ⊢
  clear hH1
  refine hK8 _ _ ?_
  clear hK8 K8
  clear hE5 a5
  refine wp_seq_k fun K9 hK9 => ?_
  refine wp_region_lit ?_
  refine wpList_val hm 43 rfl rfl fun K hK => ?_
  have e2 := hm.get 2 rfl
  have e4 := hm.get 4 rfl
  go_simp
  refine hK _ _ fun a10 hE10 => ?_
  clear hK K e2 e4
  clear hm a6
  refine wpList_val hE10 5 rfl rfl fun K hK => ?_
  have e43 := hE10.get 43 rfl
  go_simp
  refine hK _ _ fun a11 hE11 => ?_
  clear hK K e43
  clear hE10 a10
  refine wpList_nil ?_
  refine hK9 _ _ ?_
  clear hK9 K9
  refine wp_seq_k fun K12 hK12 => ?_
  refine formR4 p w _ _ k hs0 hs1 hm0 hm1 (hE11.keep ⟨hE11.get 1 rfl, hE11.get 2 rfl, hE11.get 3 rfl, hE11.get 4 rfl, hE11.get 5 rfl, trivial⟩) hH2 _ fun a7 w7 g cap hE7 hH7 hown => ?_
  clear hE11 a11
  clear hH2
  refine hK12 _ _ ?_
  clear hK12 K12
  exact h _ w7 g cap (hE7.keep ⟨hE7.get 1 rfl, hE7.get 2 rfl, hE7.get 3 rfl, hE7.get 4 rfl, hE7.get 5 rfl, hE7.get 6 rfl, trivial⟩) hH7 hown
end Go.Proofs.YtmmfpgoodfgkbaaGreat
