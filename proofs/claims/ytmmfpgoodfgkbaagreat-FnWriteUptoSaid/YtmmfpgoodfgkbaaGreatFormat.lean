/-
  THE WALK of the reference's writing of a packet, out of the contract of its body. Condition: the kind is none of a raw packet; the body's contract.
-/
import Derived.Test.YtmmfpgoodfgkbaaGreatMEnv
import Derived.Test.YtmmfpgoodfgkbaaGreatFormatHeader
import Derived.Test.YtmmfpgoodfgkbaaGreatHead
namespace Go.Proofs.YtmmfpgoodfgkbaaGreat
open Go Go.RowKit
set_option linter.unusedVariables false

/-- What the reference writes: a header ahead of the body; or nothing. -/
def Fmt (w : World) (count type : Int) (bs : List Int) (ok : Bool) (e : Ending) (w' : World) : Prop :=
  (ok = true ∧ bs.length ≤ 262140 ∧ ∃ g cap, e = .returned (.tuple #[.slice (some ⟨g, 0, none⟩) (4 + bs.length) cap, .bool true]) ∧
    w'.ownsRow w.heap.size 5 1 (.slice (some ⟨g, 0, none⟩) (4 + bs.length) cap) (4 + bs.length) (u8s (hdrB count type (((bs.length : Nat) : Int) / 4) ++ bs)) ∧ Below w.heap.size w w') ∨
  ((ok = false ∨ 262140 < bs.length) ∧ e = .returned (.tuple #[.slice none 0 0, .bool false]) ∧ Below w.heap.size w w')

set_option maxHeartbeats 2000000 in
set_option maxRecDepth 100000 in
theorem formatOne_no (p : Pkt) (w : World) (k : Nat) (count type : Int) (bs : List Int) (ok : Bool) (hk : p.kind = (k : Nat)) (hk1 : 1 ≤ k) (hk13 : k ≤ 13) (hc0 : 0 ≤ count) (hc1 : count ≤ 31) (hlen : bs.length ≤ 70368744177000) (hok : ok = false)
    (hform : ∀ w', Below w.heap.size w w' → Calls Tryz.prog 52 #[.agg p.cells] w' (Formed w' count type bs ok)) :
    Calls Tryz.prog 24 #[.agg p.cells] w (Fmt w count type bs ok) := by
  have hn0 : ¬ ((k : Nat) : Int) < 0 := by omega
  have hn13 : ¬ (13 : Int) < ((k : Nat) : Int) := by omega
  have hne : (((k : Nat) : Int) == 0) = false := by simp; omega
  have hkk := Lib.hid hk
  clear hk
  subst hok
  have hok : false = false := rfl
  refine calls_of_wp Tryz.func24 rfl ?_
  rw [Tryz.ntmps24]
  have hE0 : Env 78 [(0, .agg p.cells)] ⟨#[.agg p.cells] ++ Array.replicate (78 - (#[Value.agg p.cells] : Array Value).size) undef, []⟩ := Env.enter _ (by simp) ⟨by simp, trivial⟩
  generalize (⟨#[.agg p.cells] ++ Array.replicate (78 - (#[Value.agg p.cells] : Array Value).size) undef, []⟩ : Act) = a0 at hE0 ⊢
  refine wp_seq_k fun K1 hK1 => ?_
  refine wp_region_lit ?_
  refine wpList_val hE0 1 rfl rfl fun K hK => ?_
  have e0 := hE0.get 0 rfl
  go_simp
  refine hK _ _ fun a2 hE2 => ?_
  clear hK K e0
  clear hE0 a0
  refine wpList_val hE2 2 rfl rfl fun K hK => ?_
  go_simp
  refine hK _ _ fun a3 hE3 => ?_
  clear hK K
  clear hE2 a2
  refine wpList_val hE3 3 rfl rfl fun K hK => ?_
  go_simp
  refine hK _ _ fun a4 hE4 => ?_
  clear hK K
  clear hE3 a3
  refine wpList_nil ?_
  have hb1 := blk_new w 38 p.cells rfl
  have hB1 : Below w.heap.size w (w.alloc (.cells p.cells 38)) := (Below.refl _ _).alloc (Nat.le_refl _) _
  generalize w.alloc (.cells p.cells 38) = w1 at hb1 hB1 ⊢
  refine hK1 _ _ ?_
  clear hK1 K1
  refine wp_seq_k fun K5 hK5 => ?_
  refine wp_seq_k fun K6 hK6 => ?_
  refine wp_region_lit ?_
  refine wpList_val hE4 11 rfl rfl fun K hK => ?_
  have e1 := hE4.get 1 rfl
  go_simp
  refine hK _ _ fun a7 hE7 => ?_
  clear hK K e1
  clear hE4 a4
  refine wpList_val hE7 12 rfl rfl fun K hK => ?_
  have e11 := hE7.get 11 rfl
  have c0 : w1.cell? ⟨w.heap.size, 0, none⟩ = some (.int .i64 (k : Nat)) := (hb1.cell 0).trans (by rw [← hkk.out]; rfl)
  have hz0 : w.heap.size < w1.heap.size := hb1.lt
  go_simp
  refine hK _ _ fun a8 hE8 => ?_
  clear hK K e11
  clear hE7 a7
  refine wpList_val hE8 13 rfl rfl fun K hK => ?_
  have e12 := hE8.get 12 rfl
  go_simp
  refine hK _ _ fun a9 hE9 => ?_
  clear hK K e12
  clear hE8 a8
  refine wpList_val hE9 14 rfl rfl fun K hK => ?_
  have e13 := hE9.get 13 rfl
  go_simp
  refine hK _ _ fun a10 hE10 => ?_
  clear hK K e13
  clear hE9 a9
  refine wpList_gval hE10 15 3 false 14 rfl rfl rfl rfl fun K hK => ?_
  have e1 := hE10.get 1 rfl
  go_simp
  refine hK _ _ fun a11 hE11 => ?_
  clear hK K e1
  clear hE10 a10
  refine wpList_gval hE11 16 3 false 14 rfl rfl rfl rfl fun K hK => ?_
  have e15 := hE11.get 15 rfl
  go_simp
  refine hK _ _ fun a12 hE12 => ?_
  clear hK K e15
  clear hE11 a11
  refine wpList_gval hE12 17 3 false 14 rfl rfl rfl rfl fun K hK => ?_
  have e16 := hE12.get 16 rfl
  go_simp
  refine hK _ _ fun a13 hE13 => ?_
  clear hK K e16
  clear hE12 a12
  refine wpList_val hE13 18 rfl rfl fun K hK => ?_
  have e14 := hE13.get 14 rfl
  have e17 := hE13.get 17 rfl
  go_simp
  refine hK _ _ fun a14 hE14 => ?_
  clear hK K e14 e17
  clear hE13 a13
  clear c0 hz0
  refine wpList_nil ?_
  refine hK6 _ _ ?_
  clear hK6 K6
  refine wp_if_f hE14 18 rfl ?_
  refine wp_skip ?_
  refine hK5 _ _ ?_
  clear hK5 K5
  refine wp_seq_k fun K15 hK15 => ?_
  refine wp_seq_k fun K16 hK16 => ?_
  refine wp_region_lit ?_
  refine wpList_val hE14 19 rfl rfl fun K hK => ?_
  have e1 := hE14.get 1 rfl
  go_simp
  refine hK _ _ fun a17 hE17 => ?_
  clear hK K e1
  clear hE14 a14
  refine wpList_val hE17 20 rfl rfl fun K hK => ?_
  have e19 := hE17.get 19 rfl
  have c0 : w1.cell? ⟨w.heap.size, 0, none⟩ = some (.int .i64 (k : Nat)) := (hb1.cell 0).trans (by rw [← hkk.out]; rfl)
  have hz0 : w.heap.size < w1.heap.size := hb1.lt
  go_simp
  refine hK _ _ fun a18 hE18 => ?_
  clear hK K e19
  clear hE17 a17
  clear c0 hz0
  refine wpList_val hE18 21 rfl rfl fun K hK => ?_
  have e20 := hE18.get 20 rfl
  go_simp
  refine hK _ _ fun a19 hE19 => ?_
  clear hK K e20
  clear hE18 a18
  refine wpList_nil ?_
  refine hK16 _ _ ?_
  clear hK16 K16
  refine wp_if_f hE19 21 rfl ?_
  refine wp_skip ?_
  refine hK15 _ _ ?_
  clear hK15 K15
  refine wp_seq_k fun K20 hK20 => ?_
  refine wp_region_lit ?_
  refine wpList_val hE19 53 rfl rfl fun K hK => ?_
  have e1 := hE19.get 1 rfl
  refine wp_load_blk 38 (.tmp 1) rfl w.heap.size (hE19.ev 1 rfl) 38 p.cells _ hb1 Tryz.underlying38 rfl (by kernel_rfl) ?_
  refine hK _ _ fun a21 hE21 => ?_
  clear hK K e1
  clear hE19 a19
  refine wpList_val hE21 54 rfl rfl fun K hK => ?_
  have e53 := hE21.get 53 rfl
  go_simp
  refine (hform w1 hB1).mono ?_
  rintro e w2 ⟨v, rfl, hown2, hB2⟩
  refine hK _ _ fun a22 hE22 => ?_
  clear hK K e53
  clear hE21 a21
  refine wpList_val hE22 52 rfl rfl fun K hK => ?_
  have e54 := hE22.get 54 rfl
  go_simp
  refine hK _ _ fun a23 hE23 => ?_
  clear hK K e54
  clear hE22 a22
  refine wpList_val hE23 55 rfl rfl fun K hK => ?_
  have e52 := hE23.get 52 rfl
  go_simp
  refine hK _ _ fun a24 hE24 => ?_
  clear hK K e52
  clear hE23 a23
  refine wpList_val hE24 56 rfl rfl fun K hK => ?_
  have e52 := hE24.get 52 rfl
  go_simp
  refine hK _ _ fun a25 hE25 => ?_
  clear hK K e52
  clear hE24 a24
  refine wpList_val hE25 57 rfl rfl fun K hK => ?_
  have e52 := hE25.get 52 rfl
  go_simp
  refine hK _ _ fun a26 hE26 => ?_
  clear hK K e52
  clear hE25 a25
  refine wpList_val hE26 6 rfl rfl fun K hK => ?_
  go_simp
  refine hK _ _ fun a27 hE27 => ?_
  clear hK K
  clear hE26 a26
  refine wpList_none rfl fun K hK => ?_
  have e6 := hE27.get 6 rfl
  have e55 := hE27.get 55 rfl
  go_simp
  refine hK undef _ ?_
  clear hK K e6 e55
  have hh := blk_new w2 36 #[.bool false, .int .u8 count, .int .u8 type, .int .u16 0] rfl
  have hB3 : Below w.heap.size w (w2.alloc (.cells #[.bool false, .int .u8 count, .int .u8 type, .int .u16 0] 36)) := (hB1.trans (hB2.mono hB1.size)).alloc (hB1.trans (hB2.mono hB1.size)).size _
  have hown3 := hown2.alloc (.cells #[.bool false, .int .u8 count, .int .u8 type, .int .u16 0] 36)
  have hz2 : w.heap.size ≤ w1.heap.size := hB1.size
  have hgx : ∀ j, v.ownBlock = some j → w1.heap.size ≤ j ∧ j < w2.heap.size := fun j hj => ⟨(hown2.lt j hj).1, (hown2.lt j hj).2⟩
  have hz3 : w1.heap.size ≤ w2.heap.size := hB2.size
  generalize w2.heap.size = x at *
  generalize w2.alloc (.cells #[.bool false, .int .u8 count, .int .u8 type, .int .u16 0] 36) = w3 at *
  refine wpList_val hE27 7 rfl rfl fun K hK => ?_
  have e56 := hE27.get 56 rfl
  go_simp
  refine hK _ _ fun a29 hE29 => ?_
  clear hK K e56
  clear hE27 a27
  refine wpList_val hE29 8 rfl rfl fun K hK => ?_
  have e57 := hE29.get 57 rfl
  go_simp
  refine hK _ _ fun a30 hE30 => ?_
  clear hK K e57
  clear hE29 a29
  refine wpList_nil ?_
  obtain ⟨A, cv, rfl⟩ := own_form hown3
  refine hK20 _ _ ?_
  clear hK20 K20
  refine wp_seq_k fun K31 hK31 => ?_
  refine wp_seq_k fun K32 hK32 => ?_
  refine wp_region_lit ?_
  refine wpList_val hE30 58 rfl rfl fun K hK => ?_
  have e8 := hE30.get 8 rfl
  go_simp
  refine hK _ _ fun a33 hE33 => ?_
  clear hK K e8
  clear hE30 a30
  refine wpList_val hE33 59 rfl rfl fun K hK => ?_
  have e58 := hE33.get 58 rfl
  go_simp
  refine hK _ _ fun a34 hE34 => ?_
  clear hK K e58
  clear hE33 a33
  refine wpList_val hE34 60 rfl rfl fun K hK => ?_
  have e59 := hE34.get 59 rfl
  go_simp
  refine hK _ _ fun a35 hE35 => ?_
  clear hK K e59
  clear hE34 a34
  refine wpList_gskip hE35 61 2 false 60 rfl rfl rfl rfl rfl fun a36 hE36 => ?_
  clear hE35 a35
  refine wpList_gskip hE36 62 2 false 60 rfl rfl rfl rfl rfl fun a37 hE37 => ?_
  clear hE36 a36
  refine wpList_gskip hE37 63 2 false 60 rfl rfl rfl rfl rfl fun a38 hE38 => ?_
  clear hE37 a37
  refine wpList_val hE38 64 rfl rfl fun K hK => ?_
  have e60 := hE38.get 60 rfl
  have e63 := hE38.get 63 rfl
  go_simp
  refine hK _ _ fun a39 hE39 => ?_
  clear hK K e60 e63
  clear hE38 a38
  refine wpList_nil ?_
  refine hK32 _ _ ?_
  clear hK32 K32
  refine wp_if_t hE39 64 rfl ?_
  refine wp_seq_k fun K40 hK40 => ?_
  refine wp_region_lit ?_
  refine wpList_val hE39 2 rfl rfl fun K hK => ?_
  go_simp
  refine hK _ _ fun a41 hE41 => ?_
  clear hK K
  clear hE39 a39
  refine wpList_val hE41 3 rfl rfl fun K hK => ?_
  go_simp
  refine hK _ _ fun a42 hE42 => ?_
  clear hK K
  clear hE41 a41
  refine wpList_nil ?_
  refine hK40 _ _ ?_
  clear hK40 K40
  refine wp_ret ?_
  refine bodyPost_ret (v := .tuple #[.slice none 0 0, .bool false]) (by simp [results, Tryz.results24, go_sem, hE42.get 2 rfl, hE42.get 3 rfl]) hE42.defers (.inr ⟨.inl hok, rfl, hB3⟩)

set_option maxHeartbeats 2000000 in
set_option maxRecDepth 100000 in
theorem formatOne_long (p : Pkt) (w : World) (k : Nat) (count type : Int) (bs : List Int) (ok : Bool) (hk : p.kind = (k : Nat)) (hk1 : 1 ≤ k) (hk13 : k ≤ 13) (hc0 : 0 ≤ count) (hc1 : count ≤ 31) (hlen : bs.length ≤ 70368744177000) (hok : ok = true) (hle : 262140 < bs.length)
    (hform : ∀ w', Below w.heap.size w w' → Calls Tryz.prog 52 #[.agg p.cells] w' (Formed w' count type bs ok)) :
    Calls Tryz.prog 24 #[.agg p.cells] w (Fmt w count type bs ok) := by
  have hn0 : ¬ ((k : Nat) : Int) < 0 := by omega
  have hn13 : ¬ (13 : Int) < ((k : Nat) : Int) := by omega
  have hne : (((k : Nat) : Int) == 0) = false := by simp; omega
  have hkk := Lib.hid hk
  clear hk
  subst hok
  have hok : true = true := rfl
  have hl9 : (262140 : Int) < ((bs.length : Nat) : Int) := by omega
  refine calls_of_wp Tryz.func24 rfl ?_
  rw [Tryz.ntmps24]
  have hE0 : Env 78 [(0, .agg p.cells)] ⟨#[.agg p.cells] ++ Array.replicate (78 - (#[Value.agg p.cells] : Array Value).size) undef, []⟩ := Env.enter _ (by simp) ⟨by simp, trivial⟩
  generalize (⟨#[.agg p.cells] ++ Array.replicate (78 - (#[Value.agg p.cells] : Array Value).size) undef, []⟩ : Act) = a0 at hE0 ⊢
  refine wp_seq_k fun K1 hK1 => ?_
  refine wp_region_lit ?_
  refine wpList_val hE0 1 rfl rfl fun K hK => ?_
  have e0 := hE0.get 0 rfl
  go_simp
  refine hK _ _ fun a2 hE2 => ?_
  clear hK K e0
  clear hE0 a0
  refine wpList_val hE2 2 rfl rfl fun K hK => ?_
  go_simp
  refine hK _ _ fun a3 hE3 => ?_
  clear hK K
  clear hE2 a2
  refine wpList_val hE3 3 rfl rfl fun K hK => ?_
  go_simp
  refine hK _ _ fun a4 hE4 => ?_
  clear hK K
  clear hE3 a3
  refine wpList_nil ?_
  have hb1 := blk_new w 38 p.cells rfl
  have hB1 : Below w.heap.size w (w.alloc (.cells p.cells 38)) := (Below.refl _ _).alloc (Nat.le_refl _) _
  generalize w.alloc (.cells p.cells 38) = w1 at hb1 hB1 ⊢
  refine hK1 _ _ ?_
  clear hK1 K1
  refine wp_seq_k fun K5 hK5 => ?_
  refine wp_seq_k fun K6 hK6 => ?_
  refine wp_region_lit ?_
  refine wpList_val hE4 11 rfl rfl fun K hK => ?_
  have e1 := hE4.get 1 rfl
  go_simp
  refine hK _ _ fun a7 hE7 => ?_
  clear hK K e1
  clear hE4 a4
  refine wpList_val hE7 12 rfl rfl fun K hK => ?_
  have e11 := hE7.get 11 rfl
  have c0 : w1.cell? ⟨w.heap.size, 0, none⟩ = some (.int .i64 (k : Nat)) := (hb1.cell 0).trans (by rw [← hkk.out]; rfl)
  have hz0 : w.heap.size < w1.heap.size := hb1.lt
  go_simp
  refine hK _ _ fun a8 hE8 => ?_
  clear hK K e11
  clear hE7 a7
  refine wpList_val hE8 13 rfl rfl fun K hK => ?_
  have e12 := hE8.get 12 rfl
  go_simp
  refine hK _ _ fun a9 hE9 => ?_
  clear hK K e12
  clear hE8 a8
  refine wpList_val hE9 14 rfl rfl fun K hK => ?_
  have e13 := hE9.get 13 rfl
  go_simp
  refine hK _ _ fun a10 hE10 => ?_
  clear hK K e13
  clear hE9 a9
  refine wpList_gval hE10 15 3 false 14 rfl rfl rfl rfl fun K hK => ?_
  have e1 := hE10.get 1 rfl
  go_simp
  refine hK _ _ fun a11 hE11 => ?_
  clear hK K e1
  clear hE10 a10
  refine wpList_gval hE11 16 3 false 14 rfl rfl rfl rfl fun K hK => ?_
  have e15 := hE11.get 15 rfl
  go_simp
  refine hK _ _ fun a12 hE12 => ?_
  clear hK K e15
  clear hE11 a11
  refine wpList_gval hE12 17 3 false 14 rfl rfl rfl rfl fun K hK => ?_
  have e16 := hE12.get 16 rfl
  go_simp
  refine hK _ _ fun a13 hE13 => ?_
  clear hK K e16
  clear hE12 a12
  refine wpList_val hE13 18 rfl rfl fun K hK => ?_
  have e14 := hE13.get 14 rfl
  have e17 := hE13.get 17 rfl
  go_simp
  refine hK _ _ fun a14 hE14 => ?_
  clear hK K e14 e17
  clear hE13 a13
  clear c0 hz0
  refine wpList_nil ?_
  refine hK6 _ _ ?_
  clear hK6 K6
  refine wp_if_f hE14 18 rfl ?_
  refine wp_skip ?_
  refine hK5 _ _ ?_
  clear hK5 K5
  refine wp_seq_k fun K15 hK15 => ?_
  refine wp_seq_k fun K16 hK16 => ?_
  refine wp_region_lit ?_
  refine wpList_val hE14 19 rfl rfl fun K hK => ?_
  have e1 := hE14.get 1 rfl
  go_simp
  refine hK _ _ fun a17 hE17 => ?_
  clear hK K e1
  clear hE14 a14
  refine wpList_val hE17 20 rfl rfl fun K hK => ?_
  have e19 := hE17.get 19 rfl
  have c0 : w1.cell? ⟨w.heap.size, 0, none⟩ = some (.int .i64 (k : Nat)) := (hb1.cell 0).trans (by rw [← hkk.out]; rfl)
  have hz0 : w.heap.size < w1.heap.size := hb1.lt
  go_simp
  refine hK _ _ fun a18 hE18 => ?_
  clear hK K e19
  clear hE17 a17
  clear c0 hz0
  refine wpList_val hE18 21 rfl rfl fun K hK => ?_
  have e20 := hE18.get 20 rfl
  go_simp
  refine hK _ _ fun a19 hE19 => ?_
  clear hK K e20
  clear hE18 a18
  refine wpList_nil ?_
  refine hK16 _ _ ?_
  clear hK16 K16
  refine wp_if_f hE19 21 rfl ?_
  refine wp_skip ?_
  refine hK15 _ _ ?_
  clear hK15 K15
  refine wp_seq_k fun K20 hK20 => ?_
  refine wp_region_lit ?_
  refine wpList_val hE19 53 rfl rfl fun K hK => ?_
  have e1 := hE19.get 1 rfl
  refine wp_load_blk 38 (.tmp 1) rfl w.heap.size (hE19.ev 1 rfl) 38 p.cells _ hb1 Tryz.underlying38 rfl (by kernel_rfl) ?_
  refine hK _ _ fun a21 hE21 => ?_
  clear hK K e1
  clear hE19 a19
  refine wpList_val hE21 54 rfl rfl fun K hK => ?_
  have e53 := hE21.get 53 rfl
  go_simp
  refine (hform w1 hB1).mono ?_
  rintro e w2 ⟨v, rfl, hown2, hB2⟩
  refine hK _ _ fun a22 hE22 => ?_
  clear hK K e53
  clear hE21 a21
  refine wpList_val hE22 52 rfl rfl fun K hK => ?_
  have e54 := hE22.get 54 rfl
  go_simp
  refine hK _ _ fun a23 hE23 => ?_
  clear hK K e54
  clear hE22 a22
  refine wpList_val hE23 55 rfl rfl fun K hK => ?_
  have e52 := hE23.get 52 rfl
  go_simp
  refine hK _ _ fun a24 hE24 => ?_
  clear hK K e52
  clear hE23 a23
  refine wpList_val hE24 56 rfl rfl fun K hK => ?_
  have e52 := hE24.get 52 rfl
  go_simp
  refine hK _ _ fun a25 hE25 => ?_
  clear hK K e52
  clear hE24 a24
  refine wpList_val hE25 57 rfl rfl fun K hK => ?_
  have e52 := hE25.get 52 rfl
  go_simp
  refine hK _ _ fun a26 hE26 => ?_
  clear hK K e52
  clear hE25 a25
  refine wpList_val hE26 6 rfl rfl fun K hK => ?_
  go_simp
  refine hK _ _ fun a27 hE27 => ?_
  clear hK K
  clear hE26 a26
  refine wpList_none rfl fun K hK => ?_
  have e6 := hE27.get 6 rfl
  have e55 := hE27.get 55 rfl
  go_simp
  refine hK undef _ ?_
  clear hK K e6 e55
  have hh := blk_new w2 36 #[.bool false, .int .u8 count, .int .u8 type, .int .u16 0] rfl
  have hB3 : Below w.heap.size w (w2.alloc (.cells #[.bool false, .int .u8 count, .int .u8 type, .int .u16 0] 36)) := (hB1.trans (hB2.mono hB1.size)).alloc (hB1.trans (hB2.mono hB1.size)).size _
  have hown3 := hown2.alloc (.cells #[.bool false, .int .u8 count, .int .u8 type, .int .u16 0] 36)
  have hz2 : w.heap.size ≤ w1.heap.size := hB1.size
  have hgx : ∀ j, v.ownBlock = some j → w1.heap.size ≤ j ∧ j < w2.heap.size := fun j hj => ⟨(hown2.lt j hj).1, (hown2.lt j hj).2⟩
  have hz3 : w1.heap.size ≤ w2.heap.size := hB2.size
  generalize w2.heap.size = x at *
  generalize w2.alloc (.cells #[.bool false, .int .u8 count, .int .u8 type, .int .u16 0] 36) = w3 at *
  refine wpList_val hE27 7 rfl rfl fun K hK => ?_
  have e56 := hE27.get 56 rfl
  go_simp
  refine hK _ _ fun a29 hE29 => ?_
  clear hK K e56
  clear hE27 a27
  refine wpList_val hE29 8 rfl rfl fun K hK => ?_
  have e57 := hE29.get 57 rfl
  go_simp
  refine hK _ _ fun a30 hE30 => ?_
  clear hK K e57
  clear hE29 a29
  refine wpList_nil ?_
  obtain ⟨A, cv, rfl⟩ := own_form hown3
  refine hK20 _ _ ?_
  clear hK20 K20
  refine wp_seq_k fun K31 hK31 => ?_
  refine wp_seq_k fun K32 hK32 => ?_
  refine wp_region_lit ?_
  refine wpList_val hE30 58 rfl rfl fun K hK => ?_
  have e8 := hE30.get 8 rfl
  go_simp
  refine hK _ _ fun a33 hE33 => ?_
  clear hK K e8
  clear hE30 a30
  refine wpList_val hE33 59 rfl rfl fun K hK => ?_
  have e58 := hE33.get 58 rfl
  go_simp
  refine hK _ _ fun a34 hE34 => ?_
  clear hK K e58
  clear hE33 a33
  refine wpList_val hE34 60 rfl rfl fun K hK => ?_
  have e59 := hE34.get 59 rfl
  go_simp
  refine hK _ _ fun a35 hE35 => ?_
  clear hK K e59
  clear hE34 a34
  refine wpList_gval hE35 61 2 false 60 rfl rfl rfl rfl fun K hK => ?_
  have e7 := hE35.get 7 rfl
  go_simp
  refine hK _ _ fun a36 hE36 => ?_
  clear hK K e7
  clear hE35 a35
  refine wpList_gval hE36 62 2 false 60 rfl rfl rfl rfl fun K hK => ?_
  have e61 := hE36.get 61 rfl
  go_simp
  refine hK _ _ fun a37 hE37 => ?_
  clear hK K e61
  clear hE36 a36
  refine wpList_gval hE37 63 2 false 60 rfl rfl rfl rfl fun K hK => ?_
  have e62 := hE37.get 62 rfl
  go_simp
  refine hK _ _ fun a38 hE38 => ?_
  clear hK K e62
  clear hE37 a37
  refine wpList_val hE38 64 rfl rfl fun K hK => ?_
  have e60 := hE38.get 60 rfl
  have e63 := hE38.get 63 rfl
  go_simp
  refine hK _ _ fun a39 hE39 => ?_
  clear hK K e60 e63
  clear hE38 a38
  refine wpList_nil ?_
  refine hK32 _ _ ?_
  clear hK32 K32
  refine wp_if_t hE39 64 rfl ?_
  refine wp_seq_k fun K40 hK40 => ?_
  refine wp_region_lit ?_
  refine wpList_val hE39 2 rfl rfl fun K hK => ?_
  go_simp
  refine hK _ _ fun a41 hE41 => ?_
  clear hK K
  clear hE39 a39
  refine wpList_val hE41 3 rfl rfl fun K hK => ?_
  go_simp
  refine hK _ _ fun a42 hE42 => ?_
  clear hK K
  clear hE41 a41
  refine wpList_nil ?_
  refine hK40 _ _ ?_
  clear hK40 K40
  refine wp_ret ?_
  refine bodyPost_ret (v := .tuple #[.slice none 0 0, .bool false]) (by simp [results, Tryz.results24, go_sem, hE42.get 2 rfl, hE42.get 3 rfl]) hE42.defers (.inr ⟨.inr hle, rfl, hB3⟩)

set_option maxHeartbeats 2000000 in
set_option maxRecDepth 100000 in
theorem formatOne_yes (p : Pkt) (w : World) (k : Nat) (count type : Int) (bs : List Int) (ok : Bool) (hk : p.kind = (k : Nat)) (hk1 : 1 ≤ k) (hk13 : k ≤ 13) (hc0 : 0 ≤ count) (hc1 : count ≤ 31) (hlen : bs.length ≤ 70368744177000) (hok : ok = true) (hle : bs.length ≤ 262140)
    (hform : ∀ w', Below w.heap.size w w' → Calls Tryz.prog 52 #[.agg p.cells] w' (Formed w' count type bs ok)) :
    Calls Tryz.prog 24 #[.agg p.cells] w (Fmt w count type bs ok) := by
  have hn0 : ¬ ((k : Nat) : Int) < 0 := by omega
  have hn13 : ¬ (13 : Int) < ((k : Nat) : Int) := by omega
  have hne : (((k : Nat) : Int) == 0) = false := by simp; omega
  have hkk := Lib.hid hk
  clear hk
  subst hok
  have hok : true = true := rfl
  have hl9 : ¬ (262140 : Int) < ((bs.length : Nat) : Int) := by omega
  have hq1 : IntKind.i64.wrap (((bs.length : Nat) : Int) / 4) = ((bs.length : Nat) : Int) / 4 := IntWalk.i64_in _ (by omega)
  have hq2 : IntKind.u16.wrap (((bs.length : Nat) : Int) / 4) = ((bs.length : Nat) : Int) / 4 := by rw [IntKind.wrap_u16]; omega
  refine calls_of_wp Tryz.func24 rfl ?_
  rw [Tryz.ntmps24]
  have hE0 : Env 78 [(0, .agg p.cells)] ⟨#[.agg p.cells] ++ Array.replicate (78 - (#[Value.agg p.cells] : Array Value).size) undef, []⟩ := Env.enter _ (by simp) ⟨by simp, trivial⟩
  generalize (⟨#[.agg p.cells] ++ Array.replicate (78 - (#[Value.agg p.cells] : Array Value).size) undef, []⟩ : Act) = a0 at hE0 ⊢
  refine wp_seq_k fun K1 hK1 => ?_
  refine wp_region_lit ?_
  refine wpList_val hE0 1 rfl rfl fun K hK => ?_
  have e0 := hE0.get 0 rfl
  go_simp
  refine hK _ _ fun a2 hE2 => ?_
  clear hK K e0
  clear hE0 a0
  refine wpList_val hE2 2 rfl rfl fun K hK => ?_
  go_simp
  refine hK _ _ fun a3 hE3 => ?_
  clear hK K
  clear hE2 a2
  refine wpList_val hE3 3 rfl rfl fun K hK => ?_
  go_simp
  refine hK _ _ fun a4 hE4 => ?_
  clear hK K
  clear hE3 a3
  refine wpList_nil ?_
  have hb1 := blk_new w 38 p.cells rfl
  have hB1 : Below w.heap.size w (w.alloc (.cells p.cells 38)) := (Below.refl _ _).alloc (Nat.le_refl _) _
  generalize w.alloc (.cells p.cells 38) = w1 at hb1 hB1 ⊢
  refine hK1 _ _ ?_
  clear hK1 K1
  refine wp_seq_k fun K5 hK5 => ?_
  refine wp_seq_k fun K6 hK6 => ?_
  refine wp_region_lit ?_
  refine wpList_val hE4 11 rfl rfl fun K hK => ?_
  have e1 := hE4.get 1 rfl
  go_simp
  refine hK _ _ fun a7 hE7 => ?_
  clear hK K e1
  clear hE4 a4
  refine wpList_val hE7 12 rfl rfl fun K hK => ?_
  have e11 := hE7.get 11 rfl
  have c0 : w1.cell? ⟨w.heap.size, 0, none⟩ = some (.int .i64 (k : Nat)) := (hb1.cell 0).trans (by rw [← hkk.out]; rfl)
  have hz0 : w.heap.size < w1.heap.size := hb1.lt
  go_simp
  refine hK _ _ fun a8 hE8 => ?_
  clear hK K e11
  clear hE7 a7
  refine wpList_val hE8 13 rfl rfl fun K hK => ?_
  have e12 := hE8.get 12 rfl
  go_simp
  refine hK _ _ fun a9 hE9 => ?_
  clear hK K e12
  clear hE8 a8
  refine wpList_val hE9 14 rfl rfl fun K hK => ?_
  have e13 := hE9.get 13 rfl
  go_simp
  refine hK _ _ fun a10 hE10 => ?_
  clear hK K e13
  clear hE9 a9
  refine wpList_gval hE10 15 3 false 14 rfl rfl rfl rfl fun K hK => ?_
  have e1 := hE10.get 1 rfl
  go_simp
  refine hK _ _ fun a11 hE11 => ?_
  clear hK K e1
  clear hE10 a10
  refine wpList_gval hE11 16 3 false 14 rfl rfl rfl rfl fun K hK => ?_
  have e15 := hE11.get 15 rfl
  go_simp
  refine hK _ _ fun a12 hE12 => ?_
  clear hK K e15
  clear hE11 a11
  refine wpList_gval hE12 17 3 false 14 rfl rfl rfl rfl fun K hK => ?_
  have e16 := hE12.get 16 rfl
  go_simp
  refine hK _ _ fun a13 hE13 => ?_
  clear hK K e16
  clear hE12 a12
  refine wpList_val hE13 18 rfl rfl fun K hK => ?_
  have e14 := hE13.get 14 rfl
  have e17 := hE13.get 17 rfl
  go_simp
  refine hK _ _ fun a14 hE14 => ?_
  clear hK K e14 e17
  clear hE13 a13
  clear c0 hz0
  refine wpList_nil ?_
  refine hK6 _ _ ?_
  clear hK6 K6
  refine wp_if_f hE14 18 rfl ?_
  refine wp_skip ?_
  refine hK5 _ _ ?_
  clear hK5 K5
  refine wp_seq_k fun K15 hK15 => ?_
  refine wp_seq_k fun K16 hK16 => ?_
  refine wp_region_lit ?_
  refine wpList_val hE14 19 rfl rfl fun K hK => ?_
  have e1 := hE14.get 1 rfl
  go_simp
  refine hK _ _ fun a17 hE17 => ?_
  clear hK K e1
  clear hE14 a14
  refine wpList_val hE17 20 rfl rfl fun K hK => ?_
  have e19 := hE17.get 19 rfl
  have c0 : w1.cell? ⟨w.heap.size, 0, none⟩ = some (.int .i64 (k : Nat)) := (hb1.cell 0).trans (by rw [← hkk.out]; rfl)
  have hz0 : w.heap.size < w1.heap.size := hb1.lt
  go_simp
  refine hK _ _ fun a18 hE18 => ?_
  clear hK K e19
  clear hE17 a17
  clear c0 hz0
  refine wpList_val hE18 21 rfl rfl fun K hK => ?_
  have e20 := hE18.get 20 rfl
  go_simp
  refine hK _ _ fun a19 hE19 => ?_
  clear hK K e20
  clear hE18 a18
  refine wpList_nil ?_
  refine hK16 _ _ ?_
  clear hK16 K16
  refine wp_if_f hE19 21 rfl ?_
  refine wp_skip ?_
  refine hK15 _ _ ?_
  clear hK15 K15
  refine wp_seq_k fun K20 hK20 => ?_
  refine wp_region_lit ?_
  refine wpList_val hE19 53 rfl rfl fun K hK => ?_
  have e1 := hE19.get 1 rfl
  refine wp_load_blk 38 (.tmp 1) rfl w.heap.size (hE19.ev 1 rfl) 38 p.cells _ hb1 Tryz.underlying38 rfl (by kernel_rfl) ?_
  refine hK _ _ fun a21 hE21 => ?_
  clear hK K e1
  clear hE19 a19
  refine wpList_val hE21 54 rfl rfl fun K hK => ?_
  have e53 := hE21.get 53 rfl
  go_simp
  refine (hform w1 hB1).mono ?_
  rintro e w2 ⟨v, rfl, hown2, hB2⟩
  refine hK _ _ fun a22 hE22 => ?_
  clear hK K e53
  clear hE21 a21
  refine wpList_val hE22 52 rfl rfl fun K hK => ?_
  have e54 := hE22.get 54 rfl
  go_simp
  refine hK _ _ fun a23 hE23 => ?_
  clear hK K e54
  clear hE22 a22
  refine wpList_val hE23 55 rfl rfl fun K hK => ?_
  have e52 := hE23.get 52 rfl
  go_simp
  refine hK _ _ fun a24 hE24 => ?_
  clear hK K e52
  clear hE23 a23
  refine wpList_val hE24 56 rfl rfl fun K hK => ?_
  have e52 := hE24.get 52 rfl
  go_simp
  refine hK _ _ fun a25 hE25 => ?_
  clear hK K e52
  clear hE24 a24
  refine wpList_val hE25 57 rfl rfl fun K hK => ?_
  have e52 := hE25.get 52 rfl
  go_simp
  refine hK _ _ fun a26 hE26 => ?_
  clear hK K e52
  clear hE25 a25
  refine wpList_val hE26 6 rfl rfl fun K hK => ?_
  go_simp
  refine hK _ _ fun a27 hE27 => ?_
  clear hK K
  clear hE26 a26
  refine wpList_none rfl fun K hK => ?_
  have e6 := hE27.get 6 rfl
  have e55 := hE27.get 55 rfl
  go_simp
  refine hK undef _ ?_
  clear hK K e6 e55
  have hh := blk_new w2 36 #[.bool false, .int .u8 count, .int .u8 type, .int .u16 0] rfl
  have hB3 : Below w.heap.size w (w2.alloc (.cells #[.bool false, .int .u8 count, .int .u8 type, .int .u16 0] 36)) := (hB1.trans (hB2.mono hB1.size)).alloc (hB1.trans (hB2.mono hB1.size)).size _
  have hown3 := hown2.alloc (.cells #[.bool false, .int .u8 count, .int .u8 type, .int .u16 0] 36)
  have hz2 : w.heap.size ≤ w1.heap.size := hB1.size
  have hgx : ∀ j, v.ownBlock = some j → w1.heap.size ≤ j ∧ j < w2.heap.size := fun j hj => ⟨(hown2.lt j hj).1, (hown2.lt j hj).2⟩
  have hz3 : w1.heap.size ≤ w2.heap.size := hB2.size
  generalize w2.heap.size = x at *
  generalize w2.alloc (.cells #[.bool false, .int .u8 count, .int .u8 type, .int .u16 0] 36) = w3 at *
  refine wpList_val hE27 7 rfl rfl fun K hK => ?_
  have e56 := hE27.get 56 rfl
  go_simp
  refine hK _ _ fun a29 hE29 => ?_
  clear hK K e56
  clear hE27 a27
  refine wpList_val hE29 8 rfl rfl fun K hK => ?_
  have e57 := hE29.get 57 rfl
  go_simp
  refine hK _ _ fun a30 hE30 => ?_
  clear hK K e57
  clear hE29 a29
  refine wpList_nil ?_
  obtain ⟨A, cv, rfl⟩ := own_form hown3
  refine hK20 _ _ ?_
  clear hK20 K20
  refine wp_seq_k fun K31 hK31 => ?_
  refine wp_seq_k fun K32 hK32 => ?_
  refine wp_region_lit ?_
  refine wpList_val hE30 58 rfl rfl fun K hK => ?_
  have e8 := hE30.get 8 rfl
  go_simp
  refine hK _ _ fun a33 hE33 => ?_
  clear hK K e8
  clear hE30 a30
  refine wpList_val hE33 59 rfl rfl fun K hK => ?_
  have e58 := hE33.get 58 rfl
  go_simp
  refine hK _ _ fun a34 hE34 => ?_
  clear hK K e58
  clear hE33 a33
  refine wpList_val hE34 60 rfl rfl fun K hK => ?_
  have e59 := hE34.get 59 rfl
  go_simp
  refine hK _ _ fun a35 hE35 => ?_
  clear hK K e59
  clear hE34 a34
  refine wpList_gval hE35 61 2 false 60 rfl rfl rfl rfl fun K hK => ?_
  have e7 := hE35.get 7 rfl
  go_simp
  refine hK _ _ fun a36 hE36 => ?_
  clear hK K e7
  clear hE35 a35
  refine wpList_gval hE36 62 2 false 60 rfl rfl rfl rfl fun K hK => ?_
  have e61 := hE36.get 61 rfl
  go_simp
  refine hK _ _ fun a37 hE37 => ?_
  clear hK K e61
  clear hE36 a36
  refine wpList_gval hE37 63 2 false 60 rfl rfl rfl rfl fun K hK => ?_
  have e62 := hE37.get 62 rfl
  go_simp
  refine hK _ _ fun a38 hE38 => ?_
  clear hK K e62
  clear hE37 a37
  refine wpList_val hE38 64 rfl rfl fun K hK => ?_
  have e60 := hE38.get 60 rfl
  have e63 := hE38.get 63 rfl
  go_simp
  refine hK _ _ fun a39 hE39 => ?_
  clear hK K e60 e63
  clear hE38 a38
  refine wpList_nil ?_
  refine hK32 _ _ ?_
  clear hK32 K32
  refine wp_if_f hE39 64 rfl ?_
  refine wp_skip ?_
  refine hK31 _ _ ?_
  clear hK31 K31
  refine wp_seq_k fun K40 hK40 => ?_
  refine wp_region_lit ?_
  refine wpList_val hE39 65 rfl rfl fun K hK => ?_
  have e7 := hE39.get 7 rfl
  go_simp
  refine hK _ _ fun a41 hE41 => ?_
  clear hK K e7
  clear hE39 a39
  refine wpList_val hE41 66 rfl rfl fun K hK => ?_
  have e65 := hE41.get 65 rfl
  go_simp
  refine hK _ _ fun a42 hE42 => ?_
  clear hK K e65
  clear hE41 a41
  refine wpList_val hE42 67 rfl rfl fun K hK => ?_
  have e66 := hE42.get 66 rfl
  go_simp
  refine hK _ _ fun a43 hE43 => ?_
  clear hK K e66
  clear hE42 a42
  refine wpList_val hE43 68 rfl rfl fun K hK => ?_
  have e67 := hE43.get 67 rfl
  go_simp
  refine hK _ _ fun a44 hE44 => ?_
  clear hK K e67
  clear hE43 a43
  refine wpList_val hE44 69 rfl rfl fun K hK => ?_
  have e6 := hE44.get 6 rfl
  go_simp
  refine hK _ _ fun a45 hE45 => ?_
  clear hK K e6
  clear hE44 a44
  refine wpList_none rfl fun K hK => ?_
  have e68 := hE45.get 68 rfl
  have e69 := hE45.get 69 rfl
  have c3 : w3.cell? ⟨x, 3, none⟩ = some (.int .u16 0) := hh.cell 3
  have f3 : w3.frozen? ⟨x, 3, none⟩ = false := hh.frozen 3
  have hzx : x < w3.heap.size := hh.lt
  go_simp
  refine hK undef _ ?_
  clear hK K e68 e69
  have hh4 := hh.set_ 3 (.int .u16 (((bs.length : Nat) : Int) / 4))
  have hB4 := hB3.setCell (p := ⟨x, 3, none⟩) (show w.heap.size ≤ x by omega) (.int .u16 (((bs.length : Nat) : Int) / 4))
  have hown4 := own_setCell (a := ⟨x, 3, none⟩) hown3 (fun e => by have := hgx _ e; simp at this) (.int .u16 (((bs.length : Nat) : Int) / 4))
  clear c3 f3
  refine wpList_nil ?_
  have hz4 : x < (w3.setCell ⟨x, 3, none⟩ (.int .u16 (((bs.length : Nat) : Int) / 4))).heap.size := by simpa [World.setCell] using hzx
  clear hzx
  generalize w3.setCell ⟨x, 3, none⟩ (.int .u16 (((bs.length : Nat) : Int) / 4)) = w4 at *
  refine hK40 _ _ ?_
  clear hK40 K40
  refine wp_seq_k fun K47 hK47 => ?_
  refine wp_region_lit ?_
  refine wpList_val hE45 71 rfl rfl fun K hK => ?_
  have e6 := hE45.get 6 rfl
  refine wp_load_blk 36 (.tmp 6) rfl x (hE45.ev 6 rfl) 36 #[.bool false, .int .u8 count, .int .u8 type, .int .u16 (((bs.length : Nat) : Int) / 4)] _ hh4 Tryz.underlying36 rfl (by kernel_rfl) ?_
  refine hK _ _ fun a48 hE48 => ?_
  clear hK K e6
  clear hE45 a45
  refine wpList_val hE48 72 rfl rfl fun K hK => ?_
  have e71 := hE48.get 71 rfl
  go_simp
  refine (formatHeader_any count type (((bs.length : Nat) : Int) / 4) w4 hc0 hc1 (by omega) (by omega)).mono ?_
  rintro e w5 ⟨g5, cap5, rfl, hown5, hB5⟩
  refine hK _ _ fun a49 hE49 => ?_
  clear hK K e71
  clear hE48 a48
  refine wpList_val hE49 70 rfl rfl fun K hK => ?_
  have e72 := hE49.get 72 rfl
  go_simp
  refine hK _ _ fun a50 hE50 => ?_
  clear hK K e72
  clear hE49 a49
  refine wpList_val hE50 73 rfl rfl fun K hK => ?_
  have e70 := hE50.get 70 rfl
  go_simp
  refine hK _ _ fun a51 hE51 => ?_
  clear hK K e70
  clear hE50 a50
  refine wpList_val hE51 74 rfl rfl fun K hK => ?_
  have e70 := hE51.get 70 rfl
  go_simp
  refine hK _ _ fun a52 hE52 => ?_
  clear hK K e70
  clear hE51 a51
  refine wpList_val hE52 9 rfl rfl fun K hK => ?_
  have e73 := hE52.get 73 rfl
  go_simp
  refine hK _ _ fun a53 hE53 => ?_
  clear hK K e73
  clear hE52 a52
  refine wpList_val hE53 10 rfl rfl fun K hK => ?_
  have e74 := hE53.get 74 rfl
  go_simp
  refine hK _ _ fun a54 hE54 => ?_
  clear hK K e74
  clear hE53 a53
  refine wpList_nil ?_
  have hown6 := own_below hown4 hB5 (fun j hj => by have := hgx j hj; omega)
  have hB6 : Below w.heap.size w w5 := hB4.trans (hB5.mono hB4.size)
  have hz6 := hB5.size
  refine hK47 _ _ ?_
  clear hK47 K47
  refine wp_seq_k fun K55 hK55 => ?_
  refine wp_region_lit ?_
  refine wpList_val hE54 75 rfl rfl fun K hK => ?_
  have e9 := hE54.get 9 rfl
  go_simp
  refine hK _ _ fun a56 hE56 => ?_
  clear hK K e9
  clear hE54 a54
  refine wpList_val hE56 76 rfl rfl fun K hK => ?_
  have e7 := hE56.get 7 rfl
  go_simp
  refine hK _ _ fun a57 hE57 => ?_
  clear hK K e7
  clear hE56 a56
  refine wpList_val hE57 77 rfl rfl fun K hK => ?_
  have e75 := hE57.get 75 rfl
  have e76 := hE57.get 76 rfl
  refine wp_app_src (.tmp 75) (.tmp 76) _ rfl elem8 w4.heap.size _ 4 _ w5.heap.size A bs.length cv (u8s bs) hown5 (hE57.ev 75 rfl) (hE57.ev 76 rfl) (Reads.of_own hown6) (u8s_one bs) (by omega) hz6 (by omega) fun g7 cap7 w7 hown7 hg7 hat7 => ?_
  refine hK _ _ fun a58 hE58 => ?_
  clear hK K e75 e76
  clear hE57 a57
  refine wpList_val hE58 2 rfl rfl fun K hK => ?_
  have e77 := hE58.get 77 rfl
  go_simp
  refine hK _ _ fun a59 hE59 => ?_
  clear hK K e77
  clear hE58 a58
  refine wpList_val hE59 3 rfl rfl fun K hK => ?_
  go_simp
  refine hK _ _ fun a60 hE60 => ?_
  clear hK K
  clear hE59 a59
  refine wpList_nil ?_
  refine hK55 _ _ ?_
  clear hK55 K55
  refine wp_ret ?_
  refine bodyPost_ret (v := .tuple #[.slice (some ⟨g7, 0, none⟩) (4 + bs.length) cap7, .bool true]) (by simp [results, Tryz.results24, go_sem, hE60.get 2 rfl, hE60.get 3 rfl]) hE60.defers (.inl ⟨hok, hle, g7, cap7, rfl, ?_, ?_⟩)
  · exact own_base (own_eq hown7 rfl (by rw [← u8s_append])) (by have := hB4.size; omega)
  · exact hB6.grown hg7 hB6.size (fun j hj => by have := (hown5.lt j hj).1; have := hB4.size; omega)

end Go.Proofs.YtmmfpgoodfgkbaaGreat
