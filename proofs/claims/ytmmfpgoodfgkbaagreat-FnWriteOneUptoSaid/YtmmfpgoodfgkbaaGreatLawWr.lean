/-
  THE WALK of the law on the writing of one packet. Condition: the contracts of the reference's writing and of the packet's making.
-/
import Derived.Laws.BytesString
import Derived.Test.YtmmfpgoodfgkbaaGreatMarOne
import Derived.Test.YtmmfpgoodfgkbaaGreatLegalAny
import Derived.Test.YtmmfpgoodfgkbaaGreatGivenA
import Derived.Test.YtmmfpgoodfgkbaaGreatFits1
namespace Go.Proofs.YtmmfpgoodfgkbaaGreat
open Go Go.RowKit
set_option linter.unusedVariables false

/-- The text of some bytes. -/
def strB (bs : List Int) : ByteArray := bs.foldl (fun r n => r.push (UInt8.ofNat n.toNat)) ByteArray.empty
theorem conv_str {w : World} {B c : Nat} {A : Option Addr} {bs : List Int} (h : Reads w B 1 A bs.length (u8s bs)) : (convert 25 9 (.slice A bs.length c)).run Tryz.prog w = .ok (.string (strB bs)) w := by
  rw [run_convert_bytes_string w _ _ 5 A _ _ Tryz.underlying25 Tryz.underlying5 Tryz.underlying9]
  cases A with
  | none =>
    have hn : bs = [] := by
      apply List.eq_nil_of_length_eq_zero
      apply Classical.byContradiction
      intro hn
      obtain ⟨ad, e, _⟩ := h.2 (by omega)
      cases e
    subst hn
    rfl
  | some a =>
    refine run_bytesToString w a _ _ bs ?_
    by_cases hn : 0 < bs.length
    · obtain ⟨ad, e, _, hc⟩ := h.2 hn
      injection e with e
      subst e
      have := run_loadCells_list (P := Tryz.prog) w a (bs.map (Value.int .u8)) hc
      rwa [List.length_map] at this
    · have hz : bs = [] := List.eq_nil_of_length_eq_zero (by omega)
      subst hz
      exact run_loadCells_list (P := Tryz.prog) w a [] (fun j v hj => by simp at hj)
/-- What 'legal' hands back. -/
def LegalR (w : World) (p c : Pkt) (bs : List Int) (ok : Prop) (e : Ending) (w' : World) : Prop :=
  (ok ∧ bs.length ≤ 131072 ∧ ∃ A cap, e = .returned (.tuple #[.agg c.cells, .slice A bs.length cap, .bool true]) ∧ Reads w' w'.heap.size 1 A bs.length (u8s bs) ∧ Below w.heap.size w w') ∨
  (e = .returned (.tuple #[.agg p.cells, .slice none 0 0, .bool false]) ∧ Below w.heap.size w w')

set_option maxHeartbeats 4000000 in
set_option maxRecDepth 100000 in
theorem law_write (p c : Pkt) (bs : List Int) (ok : Prop) (w : World) (h : p.Lies w w.heap.size) (hcl : c.Lies w w.heap.size) (hcs : c.Short) (hleg : ∀ w', Below w.heap.size w w' → Calls Tryz.prog 8 #[.agg p.cells] w' (LegalR w' p c bs ok))
    (hb : ok → bs.length ≤ 131072 → ∀ q w', Pkt.Same c q → q.Lies w' w'.heap.size → Calls Tryz.prog 29 #[.agg q.cells] w' (Built w' bs)) :
    Calls Tryz.prog 5 #[.agg p.cells] w fun e w' => e = .returned (.bool true) ∧ Below w.heap.size w w' := by
  refine calls_of_wp Tryz.func5 rfl ?_
  rw [Tryz.ntmps5]
  have hE0 : Env 41 [(0, .agg p.cells)] ⟨#[.agg p.cells] ++ Array.replicate (41 - (#[.agg p.cells] : Array Value).size) undef, []⟩ := Env.enter _ (by simp) ⟨by simp, trivial⟩
  generalize (⟨#[.agg p.cells] ++ Array.replicate (41 - (#[.agg p.cells] : Array Value).size) undef, []⟩ : Act) = a0 at hE0 ⊢
  have hS0 : Stp (fun _ => False) w w (lookM []) := Stp.refl w
  refine wp_seq_k fun K1 hK1 => ?_
  refine wp_region_lit ?_
  refine seq_new hE0 hS0 1 101 (fun g => .pointer (some ⟨g, 0, none⟩)) 38 (p.cells) (fun w => by kernel_rfl) rfl rfl rfl rfl rfl fun a2 u1 g101 hE2 hS2 => ?_
  clear hE0 a0
  clear hS0
  refine seq_pure hE2 2 (.bool false) (fun w => by kernel_rfl) rfl rfl rfl rfl rfl fun a3 hE3 => ?_
  clear hE2 a2
  refine wpList_nil ?_
  refine hK1 _ _ ?_
  clear hK1
  refine wp_seq_k fun K4 hK4 => ?_
  refine wp_seq_k fun K5 hK5 => ?_
  refine wp_region_lit ?_
  refine seq_loadN hE3 hS2 8 101 Tryz.underlying38 (by kernel_rfl) rfl rfl rfl rfl rfl rfl rfl fun a6 hE6 => ?_
  clear hE3 a3
  refine wpList_val hE6 9 rfl rfl fun K hK => ?_
  have e8 := hE6.get 8 rfl
  go_simp
  refine (zzFits1_any p u1 ((h.below (hS2.old _ (Nat.le_refl _) (fun _ h => h.elim))).more hS2.size)).mono ?_
  rintro e w5 ⟨b, rfl, hfit, hB5⟩
  refine hK _ _ fun a7 hE7 => ?_
  clear hK K e8
  clear hE6 a6
  have hS8 := hS2.still hB5
  clear hB5 hS2
  cases b with
  | false =>
    refine wpList_val hE7 10 rfl rfl fun K hK => ?_
    have e9 := hE7.get 9 rfl
    go_simp
    refine hK _ _ fun a9 hE9 => ?_
    clear hK K e9
    clear hE7 a7
    refine wpList_nil ?_
    refine hK5 _ _ ?_
    clear hK5
    refine wp_if_t hE9 10 rfl ?_
    refine wp_seq_k fun K10 hK10 => ?_
    refine wp_region_lit ?_
    refine seq_pure hE9 2 (.bool true) (fun w => by kernel_rfl) rfl rfl rfl rfl rfl fun a11 hE11 => ?_
    clear hE9 a9
    refine wpList_nil ?_
    refine hK10 _ _ ?_
    clear hK10
    refine wp_ret ?_
    try simp only [Exit.then]
    refine bodyPost_ret (v := .bool true) (by simp [results, Tryz.results5, go_sem, hE11.get 2 rfl]) hE11.defers ⟨rfl, hS8.below⟩
  | true =>
    refine wpList_val hE7 10 rfl rfl fun K hK => ?_
    have e9 := hE7.get 9 rfl
    go_simp
    refine hK _ _ fun a9 hE9 => ?_
    clear hK K e9
    clear hE7 a7
    refine wpList_nil ?_
    refine hK5 _ _ ?_
    clear hK5
    refine wp_if_f hE9 10 rfl ?_
    refine wp_skip ?_
    refine hK4 _ _ ?_
    clear hK4
    refine wp_seq_k fun K10 hK10 => ?_
    refine wp_region_lit ?_
    refine seq_loadN hE9 hS8 12 101 Tryz.underlying38 (by kernel_rfl) rfl rfl rfl rfl rfl rfl rfl fun a11 hE11 => ?_
    clear hE9 a9
    refine wpList_val hE11 13 rfl rfl fun K hK => ?_
    have e12 := hE11.get 12 rfl
    go_simp
    refine (hleg w5 (hS8.old _ (Nat.le_refl _) (fun _ h => h.elim))).mono ?_
    intro e w6 hL
    rcases hL with hL | hL
    case inl =>
      obtain ⟨hok, hle, A, cap, rfl, hrd, hB6⟩ := hL
      refine hK _ _ fun a12 hE12 => ?_
      clear hK K e12
      clear hE11 a11
      have hBw6 := hS8.below.trans (hB6.mono hS8.size)
      clear hB6 hS8
      have hS13 : Stp (fun _ => False) w6 w6 (lookM []) := Stp.refl w6
      refine seq_pure hE12 11 (.tuple #[.agg c.cells, .slice A bs.length cap, .bool true]) (fun w => by kernel_rfl) rfl rfl rfl rfl rfl fun a14 hE14 => ?_
      clear hE12 a12
      refine seq_pure hE14 14 (.agg c.cells) (fun w => by kernel_rfl) rfl rfl rfl rfl rfl fun a15 hE15 => ?_
      clear hE14 a14
      refine seq_pure hE15 15 (.slice A bs.length cap) (fun w => by kernel_rfl) rfl rfl rfl rfl rfl fun a16 hE16 => ?_
      clear hE15 a15
      refine seq_pure hE16 16 (.bool true) (fun w => by kernel_rfl) rfl rfl rfl rfl rfl fun a17 hE17 => ?_
      clear hE16 a16
      refine seq_new hE17 hS13 3 102 (fun g => .pointer (some ⟨g, 0, none⟩)) 38 #[.int .i64 0, .int .u32 0, .int .u32 0, .int .u64 0, .int .u32 0, .int .u32 0, .int .u32 0, .slice none 0 0, .slice none 0 0, .slice none 0 0, .slice none 0 0, .string ByteArray.empty, .int .u8 0, .slice none 0 0, .slice none 0 0, .slice none 0 0, .slice none 0 0, .int .u32 0, .slice none 0 0, .int .u32 0, .int .u16 0, .int .u16 0, .int .u32 0, .int .u8 0, .slice none 0 0, .slice none 0 0, .bool false, .int .u8 0, .int .u8 0, .int .u16 0] (fun w => by kernel_rfl) rfl rfl rfl rfl rfl fun a18 u2 g102 hE18 hS18 => ?_
      clear hE17 a17
      clear hS13
      refine seq_storeN hE18 hS18 102 (new := c.cells) (by simp [Pkt.cells, Sl.val, Value.oneCell']) rfl rfl rfl rfl rfl (by kernel_rfl) rfl rfl rfl fun u3 hS19 => ?_
      clear hS18
      clear u2
      refine seq_pure hE18 4 (.slice A bs.length cap) (fun w => by kernel_rfl) rfl rfl rfl rfl rfl fun a20 hE20 => ?_
      clear hE18 a18
      refine seq_pure hE20 5 (.bool true) (fun w => by kernel_rfl) rfl rfl rfl rfl rfl fun a21 hE21 => ?_
      clear hE20 a20
      refine wpList_nil ?_
      refine hK10 _ _ ?_
      clear hK10
      refine wp_seq_k fun K22 hK22 => ?_
      refine wp_seq_k fun K23 hK23 => ?_
      refine wp_region_lit ?_
      refine seq_pure hE21 17 (.bool true) (fun w => by kernel_rfl) rfl rfl rfl rfl rfl fun a24 hE24 => ?_
      clear hE21 a21
      refine wpList_val hE24 18 rfl rfl fun K hK => ?_
      have e17 := hE24.get 17 rfl
      go_simp
      refine hK _ _ fun a25 hE25 => ?_
      clear hK K e17
      clear hE24 a24
      refine wpList_nil ?_
      refine hK23 _ _ ?_
      clear hK23
      refine wp_if_f hE25 18 rfl ?_
      refine wp_skip ?_
      refine hK22 _ _ ?_
      clear hK22
      refine wp_seq_k fun K26 hK26 => ?_
      refine wp_region_lit ?_
      refine seq_loadN hE25 hS19 20 102 Tryz.underlying38 (by kernel_rfl) rfl rfl rfl rfl rfl rfl rfl fun a27 hE27 => ?_
      clear hE25 a25
      refine wpList_val hE27 21 rfl rfl fun K hK => ?_
      have e20 := hE27.get 20 rfl
      go_simp
      refine (given_any c u3 ((hcl.below (hBw6.trans (hS19.below.mono hBw6.size))).more (hBw6.trans (hS19.below.mono hBw6.size)).size) hcs).mono ?_
      rintro e w8 ⟨q, hsame, rfl, hql, hB8⟩
      refine hK _ _ fun a28 hE28 => ?_
      clear hK K e20
      clear hE27 a27
      have hS29 := hS19.still hB8
      clear hB8 hS19
      refine wpList_val hE28 22 rfl rfl fun K hK => ?_
      have e21 := hE28.get 21 rfl
      go_simp
      refine (marshalOne_any q bs w8 (fun w' hw' => hb hok hle q w' hsame ((hql.below hw').more hw'.size))).mono ?_
      rintro e w9 ⟨A2, c2, rfl, hgot, hB9⟩
      refine hK _ _ fun a30 hE30 => ?_
      clear hK K e21
      clear hE28 a28
      have hS31 := hS29.still hB9
      clear hB9 hS29
      refine seq_pure hE30 19 (.tuple #[.slice A2 bs.length c2, .bool true]) (fun w => by kernel_rfl) rfl rfl rfl rfl rfl fun a32 hE32 => ?_
      clear hE30 a30
      refine wpList_val hE32 23 rfl rfl fun K hK => ?_
      have e19 := hE32.get 19 rfl
      go_simp
      refine hK _ _ fun a33 hE33 => ?_
      clear hK K e19
      clear hE32 a32
      refine wpList_val hE33 24 rfl rfl fun K hK => ?_
      have e19 := hE33.get 19 rfl
      go_simp
      refine hK _ _ fun a34 hE34 => ?_
      clear hK K e19
      clear hE33 a33
      refine seq_pure hE34 6 (.slice A2 bs.length c2) (fun w => by kernel_rfl) rfl rfl rfl rfl rfl fun a35 hE35 => ?_
      clear hE34 a34
      refine seq_pure hE35 7 (.bool true) (fun w => by kernel_rfl) rfl rfl rfl rfl rfl fun a36 hE36 => ?_
      clear hE35 a35
      refine wpList_nil ?_
      refine hK26 _ _ ?_
      clear hK26
      refine wp_seq_k fun K37 hK37 => ?_
      refine wp_region_lit ?_
      refine seq_pure hE36 25 (.bool true) (fun w => by kernel_rfl) rfl rfl rfl rfl rfl fun a38 hE38 => ?_
      clear hE36 a36
      refine seq_pure hE38 26 (.bool true) (fun w => by kernel_rfl) rfl rfl rfl rfl rfl fun a39 hE39 => ?_
      clear hE38 a38
      refine wpList_gval hE39 27 1 true 26 rfl rfl rfl rfl fun K hK => ?_
      have e6 := hE39.get 6 rfl
      go_simp
      refine hK _ _ fun a40 hE40 => ?_
      clear hK K e6
      clear hE39 a39
      refine wpList_gval hE40 28 1 true 26 rfl rfl rfl rfl fun K hK => ?_
      have e27 := hE40.get 27 rfl
      refine exec_wp (v := .string (strB bs)) (w' := w9) (by simp [execOp, Act.eval, e27, conv_str hgot]) ?_
      refine hK _ _ fun a41 hE41 => ?_
      clear hK K e27
      clear hE40 a40
      refine wpList_gval hE41 29 1 true 26 rfl rfl rfl rfl fun K hK => ?_
      have e4 := hE41.get 4 rfl
      go_simp
      refine hK _ _ fun a42 hE42 => ?_
      clear hK K e4
      clear hE41 a41
      refine wpList_gval hE42 30 1 true 26 rfl rfl rfl rfl fun K hK => ?_
      have e29 := hE42.get 29 rfl
      refine exec_wp (v := .string (strB bs)) (w' := w9) (by simp [execOp, Act.eval, e29, conv_str (hrd.below hS31.below)]) ?_
      refine hK _ _ fun a43 hE43 => ?_
      clear hK K e29
      clear hE42 a42
      refine wpList_gval hE43 31 1 true 26 rfl rfl rfl rfl fun K hK => ?_
      have e28 := hE43.get 28 rfl
      have e30 := hE43.get 30 rfl
      go_simp
      refine hK _ _ fun a44 hE44 => ?_
      clear hK K e28 e30
      clear hE43 a43
      refine wpList_val hE44 32 rfl rfl fun K hK => ?_
      have e26 := hE44.get 26 rfl
      have e31 := hE44.get 31 rfl
      go_simp
      refine hK _ _ fun a45 hE45 => ?_
      clear hK K e26 e31
      clear hE44 a44
      refine seq_pure hE45 33 (.bool true) (fun w => by kernel_rfl) rfl rfl rfl rfl rfl fun a46 hE46 => ?_
      clear hE45 a45
      refine wpList_gval hE46 34 8 true 33 rfl rfl rfl rfl fun K hK => ?_
      have e3 := hE46.get 3 rfl
      refine exec_wp (v := .agg c.cells) (w' := w9) (by simp [execOp, Act.eval, e3, run_loadN _ _ _ _ _ (hS31.blk 102 rfl) Tryz.underlying38 rfl (by kernel_rfl)]) ?_
      refine hK _ _ fun a47 hE47 => ?_
      clear hK K e3
      clear hE46 a46
      refine wpList_gval hE47 35 8 true 33 rfl rfl rfl rfl fun K hK => ?_
      have e34 := hE47.get 34 rfl
      go_simp
      refine (given_any c w9 ((hcl.below (hBw6.trans (hS31.below.mono hBw6.size))).more (hBw6.trans (hS31.below.mono hBw6.size)).size) hcs).mono ?_
      rintro e w10 ⟨q2, hsame2, rfl, hql2, hB10⟩
      refine hK _ _ fun a48 hE48 => ?_
      clear hK K e34
      clear hE47 a47
      have hS49 := hS31.still hB10
      clear hB10 hS31
      refine wpList_gval hE48 36 8 true 33 rfl rfl rfl rfl fun K hK => ?_
      have e35 := hE48.get 35 rfl
      go_simp
      refine (size_any q2 bs w10 (fun w' hw' => hb hok hle q2 w' hsame2 ((hql2.below hw').more hw'.size))).mono ?_
      rintro e w11 ⟨rfl, hB11⟩
      refine hK _ _ fun a50 hE50 => ?_
      clear hK K e35
      clear hE48 a48
      have hS51 := hS49.still hB11
      clear hB11 hS49
      refine wpList_gval hE50 37 8 true 33 rfl rfl rfl rfl fun K hK => ?_
      have e4 := hE50.get 4 rfl
      go_simp
      refine hK _ _ fun a52 hE52 => ?_
      clear hK K e4
      clear hE50 a50
      refine wpList_gval hE52 38 8 true 33 rfl rfl rfl rfl fun K hK => ?_
      have e37 := hE52.get 37 rfl
      go_simp
      refine hK _ _ fun a53 hE53 => ?_
      clear hK K e37
      clear hE52 a52
      refine wpList_gval hE53 39 8 true 33 rfl rfl rfl rfl fun K hK => ?_
      have e36 := hE53.get 36 rfl
      have e38 := hE53.get 38 rfl
      go_simp
      refine hK _ _ fun a54 hE54 => ?_
      clear hK K e36 e38
      clear hE53 a53
      refine wpList_val hE54 40 rfl rfl fun K hK => ?_
      have e33 := hE54.get 33 rfl
      have e39 := hE54.get 39 rfl
      go_simp
      refine hK _ _ fun a55 hE55 => ?_
      clear hK K e33 e39
      clear hE54 a54
      refine seq_pure hE55 2 (.bool true) (fun w => by kernel_rfl) rfl rfl rfl rfl rfl fun a56 hE56 => ?_
      clear hE55 a55
      refine wpList_nil ?_
      refine hK37 _ _ ?_
      clear hK37
      refine wp_ret ?_
      try simp only [Exit.then]
      refine bodyPost_ret (v := .bool true) (by simp [results, Tryz.results5, go_sem, hE56.get 2 rfl]) hE56.defers ⟨rfl, (hBw6.trans (hS51.below.mono hBw6.size))⟩
    case inr =>
      obtain ⟨rfl, hB6⟩ := hL
      refine hK _ _ fun a12 hE12 => ?_
      clear hK K e12
      clear hE11 a11
      have hBw6 := hS8.below.trans (hB6.mono hS8.size)
      clear hB6 hS8
      have hS13 : Stp (fun _ => False) w6 w6 (lookM []) := Stp.refl w6
      refine seq_pure hE12 11 (.tuple #[.agg p.cells, .slice none 0 0, .bool false]) (fun w => by kernel_rfl) rfl rfl rfl rfl rfl fun a14 hE14 => ?_
      clear hE12 a12
      refine seq_pure hE14 14 (.agg p.cells) (fun w => by kernel_rfl) rfl rfl rfl rfl rfl fun a15 hE15 => ?_
      clear hE14 a14
      refine seq_pure hE15 15 (.slice none 0 0) (fun w => by kernel_rfl) rfl rfl rfl rfl rfl fun a16 hE16 => ?_
      clear hE15 a15
      refine seq_pure hE16 16 (.bool false) (fun w => by kernel_rfl) rfl rfl rfl rfl rfl fun a17 hE17 => ?_
      clear hE16 a16
      refine seq_new hE17 hS13 3 102 (fun g => .pointer (some ⟨g, 0, none⟩)) 38 #[.int .i64 0, .int .u32 0, .int .u32 0, .int .u64 0, .int .u32 0, .int .u32 0, .int .u32 0, .slice none 0 0, .slice none 0 0, .slice none 0 0, .slice none 0 0, .string ByteArray.empty, .int .u8 0, .slice none 0 0, .slice none 0 0, .slice none 0 0, .slice none 0 0, .int .u32 0, .slice none 0 0, .int .u32 0, .int .u16 0, .int .u16 0, .int .u32 0, .int .u8 0, .slice none 0 0, .slice none 0 0, .bool false, .int .u8 0, .int .u8 0, .int .u16 0] (fun w => by kernel_rfl) rfl rfl rfl rfl rfl fun a18 u2 g102 hE18 hS18 => ?_
      clear hE17 a17
      clear hS13
      refine seq_storeN hE18 hS18 102 (new := p.cells) (by simp [Pkt.cells, Sl.val, Value.oneCell']) rfl rfl rfl rfl rfl (by kernel_rfl) rfl rfl rfl fun u3 hS19 => ?_
      clear hS18
      clear u2
      refine seq_pure hE18 4 (.slice none 0 0) (fun w => by kernel_rfl) rfl rfl rfl rfl rfl fun a20 hE20 => ?_
      clear hE18 a18
      refine seq_pure hE20 5 (.bool false) (fun w => by kernel_rfl) rfl rfl rfl rfl rfl fun a21 hE21 => ?_
      clear hE20 a20
      refine wpList_nil ?_
      refine hK10 _ _ ?_
      clear hK10
      refine wp_seq_k fun K22 hK22 => ?_
      refine wp_seq_k fun K23 hK23 => ?_
      refine wp_region_lit ?_
      refine seq_pure hE21 17 (.bool false) (fun w => by kernel_rfl) rfl rfl rfl rfl rfl fun a24 hE24 => ?_
      clear hE21 a21
      refine wpList_val hE24 18 rfl rfl fun K hK => ?_
      have e17 := hE24.get 17 rfl
      go_simp
      refine hK _ _ fun a25 hE25 => ?_
      clear hK K e17
      clear hE24 a24
      refine wpList_nil ?_
      refine hK23 _ _ ?_
      clear hK23
      refine wp_if_t hE25 18 rfl ?_
      refine wp_seq_k fun K26 hK26 => ?_
      refine wp_region_lit ?_
      refine seq_pure hE25 2 (.bool true) (fun w => by kernel_rfl) rfl rfl rfl rfl rfl fun a27 hE27 => ?_
      clear hE25 a25
      refine wpList_nil ?_
      refine hK26 _ _ ?_
      clear hK26
      refine wp_ret ?_
      try simp only [Exit.then]
      refine bodyPost_ret (v := .bool true) (by simp [results, Tryz.results5, go_sem, hE27.get 2 rfl]) hE27.defers ⟨rfl, (hBw6.trans (hS19.below.mono hBw6.size))⟩

end Go.Proofs.YtmmfpgoodfgkbaaGreat
