/-
  THE WALK of the reference's exponent and mantissa of a bitrate. Condition: the number has 32 bits.
-/
import Derived.Test.YtmmfpgoodfgkbaaGreatForms
import Derived.Test.YtmmfpgoodfgkbaaGreatFloat
import Derived.Laws.Closers25b
namespace Go.Proofs.YtmmfpgoodfgkbaaGreat
open Go Go.RowKit
set_option linter.unusedVariables false
theorem frombits_run (b : Int) (w : World) : (invoke (.fn (.func 58) #[]) #[.int .u32 b]).run Tryz.prog w = .ok (.value (.float .f32 b.toNat)) w := by kernel_rfl
theorem frombits_wp {o : Oper} {a : Act} {w : World} {K : Act → World → Prop} {Q : Exit → Act → World → Prop} (x : Operand) (b : Int) (ho : o.op = .call { callee := .value (.func 58), args := #[x], argTypes := #[22] }) (hx : a.eval x = .int .u32 b)
    (h : K (a.put o.dst (.float .f32 b.toNat)) w) : o.wp Tryz.prog a w K Q := by
  refine exec_wp (v := .float .f32 b.toNat) (w' := w) ?_ h
  have hf : a.eval (.func 58) = .func (.func 58) #[] #[] := rfl
  simp [execOp, ho, resolve, hx, hf, Deferred.ofValue]
  exact frombits_run b w

def mantV (n : Nat) : Int := if mantF n then bits .or .u32 (IntKind.u32.wrap (((mantQ n).1 : Int) * 262144)) ((mantQ n).2 : Nat) else 0
theorem conv_some {t1 t2 : TypeId} {P : Program} {w : World} {b r : Nat} (hs : (P.underlying t1).isSome = true) (hd : P.underlying t2 = some (.float .f64)) (h : floatToFloatBits .f32 b .f64 = some r) : (convert t1 t2 (.float .f32 b)).run P w = .ok (.float .f64 r) w := run_convert_float_float w t1 t2 .f32 .f64 b r hs hd h
theorem nan_read (x : Nat) (h : 9218868437227405312 < x % 9223372036854775808) : ∃ s f, Ieee.double.read x = .nan s f := by
  have hs : Ieee.double.signWeight = 9223372036854775808 := rfl
  have hB : Ieee.double.binade = 4503599627370496 := rfl
  have hI : Ieee.double.infRung = 9218868437227405312 := rfl
  unfold Ieee.Format.read
  simp only [hs, hB, hI]
  rw [if_neg (by omega), if_neg (by omega), if_neg (by omega)]
  exact ⟨_, _, rfl⟩
theorem nan_order (x : Nat) (h : ∃ s f, Ieee.double.read x = .nan s f) : (FloatKind.f64.format.order x x == some .eq) = false := by
  obtain ⟨s, f, h⟩ := h
  show (Ieee.double.order x x == some .eq) = false
  unfold Ieee.Format.order
  rw [h]
  rfl
theorem nan_any (u v : Nat) (hu : u < 2) (hv : v < 4503599627370495) : 9218868437227405312 < (u * 9223372036854775808 + 9218868437227405312 + 1 + v) % 9223372036854775808 := by omega
theorem cut_nan (b t : Nat) : 9218868437227405312 < (Question.nanConv .f64 b).cut t % 9223372036854775808 :=
  nan_any (t % 2) (t / 2 % 4503599627370495) (Nat.mod_lt _ (by decide)) (Nat.mod_lt _ (by decide))
theorem cut_nanB (x y t : Nat) : 9218868437227405312 < (Question.nanBits .f64 x y).cut t % 9223372036854775808 :=
  nan_any (t % 2) (t / 2 % 4503599627370495) (Nat.mod_lt _ (by decide)) (Nat.mod_lt _ (by decide))
theorem ask_drew (w : World) (q : Question) (h : q.forced = false) (P : Program) : (choose q).run P w = .ok (q.cut (w.tape w.drawn q)) w.drew := by
  simp [choose, Sem.run, h]
theorem conv_none {t1 t2 : TypeId} {P : Program} {w : World} {b : Nat} (hs : (P.underlying t1).isSome = true) (hd : P.underlying t2 = some (.float .f64)) (h : floatToFloatBits .f32 b .f64 = none) :
    ∃ r, (convert t1 t2 (.float .f32 b)).run P w = .ok (.float .f64 r) w.drew ∧ ((∃ s f, Ieee.single.read b = .nan s f) → (FloatKind.f64.format.order r r == some .eq) = false) := by
  obtain ⟨u, hs'⟩ := Option.isSome_iff_exists.1 hs
  unfold floatToFloatBits at h
  rw [if_neg (by decide)] at h
  have hdec : FloatKind.decode .f32 b = Ieee.single.read b := rfl
  rw [hdec] at h
  cases hr : Ieee.single.read b with
  | nan s f =>
    refine ⟨(Question.nanConv .f64 b).cut (w.tape w.drawn (.nanConv .f64 b)), ?_, fun _ => ?_⟩
    · cases u <;> simp [convert, run_underlying hs', run_underlying hd, Conv.floatToFloat, hdec, hr, Question.forced]
    · exact nan_order _ (nan_read _ (cut_nan b _))
  | infinity s => rw [hr] at h; cases h
  | number s m e =>
    rw [hr] at h
    simp only at h
    split at h
    · rename_i hinf
      refine ⟨(Question.floatToFloat b).cut (w.tape w.drawn (.floatToFloat b)), ?_, fun ⟨_, _, h2⟩ => by cases h2⟩
      · cases u <;> simp [convert, run_underlying hs', run_underlying hd, Conv.floatToFloat, hdec, hr, hinf, Question.forced]
    · cases h
set_option maxHeartbeats 1000000 in
set_option maxRecDepth 100000 in
theorem mant_neg1 (b : Int) (w : World) (h0 : 2147483648 ≤ b) (h1 : b < 4294967296) (r : Nat) (hsome : floatToFloatBits .f32 b.toNat .f64 = some r) :
    Calls Tryz.prog 77 #[.int .u32 b] w fun e w' => e = .returned (.tuple #[.int .u32 0, .bool false]) ∧ Below w.heap.size w w' := by
  have hcv := conv_some (P := Tryz.prog) (w := w) (t1 := 196) (t2 := 256) (b := b.toNat) (by kernel_rfl) (by kernel_rfl) hsome
  have hq : (b / 2147483648 != 0) = true := by simp; omega
  refine calls_of_wp Tryz.func77 rfl ?_
  rw [Tryz.ntmps77]
  have hE0 : Env 47 [(0, .int .u32 b)] ⟨#[.int .u32 b] ++ Array.replicate (47 - (#[.int .u32 b] : Array Value).size) undef, []⟩ := Env.enter _ (by simp) ⟨by simp, trivial⟩
  generalize (⟨#[.int .u32 b] ++ Array.replicate (47 - (#[.int .u32 b] : Array Value).size) undef, []⟩ : Act) = a0 at hE0 ⊢
  refine wp_seq_k fun K1 hK1 => ?_
  refine wp_region_lit ?_
  refine wpList_val hE0 2 rfl rfl fun K hK => ?_
  go_simp
  refine hK _ _ fun a2 hE2 => ?_
  clear hK K
  clear hE0 a0
  refine wpList_val hE2 3 rfl rfl fun K hK => ?_
  go_simp
  refine hK _ _ fun a3 hE3 => ?_
  clear hK K
  clear hE2 a2
  refine wpList_nil ?_
  refine hK1 _ _ ?_
  clear hK1
  refine wp_seq_k fun K4 hK4 => ?_
  refine wp_region_lit ?_
  refine wpList_val hE3 6 rfl rfl fun K hK => ?_
  have e0 := hE3.get 0 rfl
  go_simp
  refine hK _ _ fun a5 hE5 => ?_
  clear hK K e0
  clear hE3 a3
  refine wpList_val hE5 7 rfl rfl fun K hK => ?_
  have e6 := hE5.get 6 rfl
  refine frombits_wp (.tmp 6) b rfl (hE5.ev 6 rfl) ?_
  refine hK _ _ fun a6 hE6 => ?_
  clear hK K e6
  clear hE5 a5
  refine wpList_val hE6 8 rfl rfl fun K hK => ?_
  have e7 := hE6.get 7 rfl
  go_simp
  refine hK _ _ fun a7 hE7 => ?_
  clear hK K e7
  clear hE6 a6
  refine wpList_val hE7 4 rfl rfl fun K hK => ?_
  have e8 := hE7.get 8 rfl
  go_simp
  refine hK _ _ fun a8 hE8 => ?_
  clear hK K e8
  clear hE7 a7
  refine wpList_nil ?_
  refine hK4 _ _ ?_
  clear hK4
  refine wp_seq_k fun K9 hK9 => ?_
  refine wp_seq_k fun K10 hK10 => ?_
  refine wp_region_lit ?_
  refine wpList_val hE8 9 rfl rfl fun K hK => ?_
  have e0 := hE8.get 0 rfl
  go_simp
  refine hK _ _ fun a11 hE11 => ?_
  clear hK K e0
  clear hE8 a8
  refine wpList_val hE11 10 rfl rfl fun K hK => ?_
  have e9 := hE11.get 9 rfl
  go_simp
  refine hK _ _ fun a12 hE12 => ?_
  clear hK K e9
  clear hE11 a11
  refine wpList_val hE12 11 rfl rfl fun K hK => ?_
  have e10 := hE12.get 10 rfl
  go_simp
  refine hK _ _ fun a13 hE13 => ?_
  clear hK K e10
  clear hE12 a12
  refine wpList_val hE13 12 rfl rfl fun K hK => ?_
  have e11 := hE13.get 11 rfl
  go_simp
  refine hK _ _ fun a14 hE14 => ?_
  clear hK K e11
  clear hE13 a13
  refine wpList_gskip hE14 13 3 false 12 rfl rfl rfl rfl rfl fun a15 hE15 => ?_
  clear hE14 a14
  refine wpList_gskip hE15 14 3 false 12 rfl rfl rfl rfl rfl fun a16 hE16 => ?_
  clear hE15 a15
  refine wpList_gskip hE16 15 3 false 12 rfl rfl rfl rfl rfl fun a17 hE17 => ?_
  clear hE16 a16
  refine wpList_val hE17 16 rfl rfl fun K hK => ?_
  have e12 := hE17.get 12 rfl
  have e15 := hE17.get 15 rfl
  go_simp
  refine hK _ _ fun a18 hE18 => ?_
  clear hK K e12 e15
  clear hE17 a17
  refine wpList_val hE18 17 rfl rfl fun K hK => ?_
  have e16 := hE18.get 16 rfl
  go_simp
  refine hK _ _ fun a19 hE19 => ?_
  clear hK K e16
  clear hE18 a18
  refine wpList_gskip hE19 18 8 false 17 rfl rfl rfl rfl rfl fun a20 hE20 => ?_
  clear hE19 a19
  refine wpList_gskip hE20 19 8 false 17 rfl rfl rfl rfl rfl fun a21 hE21 => ?_
  clear hE20 a20
  refine wpList_gskip hE21 20 8 false 17 rfl rfl rfl rfl rfl fun a22 hE22 => ?_
  clear hE21 a21
  refine wpList_gskip hE22 21 8 false 17 rfl rfl rfl rfl rfl fun a23 hE23 => ?_
  clear hE22 a22
  refine wpList_val hE23 22 rfl rfl fun K hK => ?_
  have e17 := hE23.get 17 rfl
  have e21 := hE23.get 21 rfl
  go_simp
  refine hK _ _ fun a24 hE24 => ?_
  clear hK K e17 e21
  clear hE23 a23
  refine wpList_val hE24 23 rfl rfl fun K hK => ?_
  have e22 := hE24.get 22 rfl
  go_simp
  refine hK _ _ fun a25 hE25 => ?_
  clear hK K e22
  clear hE24 a24
  refine wpList_gskip hE25 24 14 false 23 rfl rfl rfl rfl rfl fun a26 hE26 => ?_
  clear hE25 a25
  refine wpList_gskip hE26 25 14 false 23 rfl rfl rfl rfl rfl fun a27 hE27 => ?_
  clear hE26 a26
  refine wpList_val hE27 26 rfl rfl fun K hK => ?_
  have e23 := hE27.get 23 rfl
  have e25 := hE27.get 25 rfl
  go_simp
  refine hK _ _ fun a28 hE28 => ?_
  clear hK K e23 e25
  clear hE27 a27
  refine wpList_nil ?_
  refine hK10 _ _ ?_
  clear hK10
  refine wp_if_t hE28 26 rfl ?_
  refine wp_seq_k fun K29 hK29 => ?_
  refine wp_region_lit ?_
  refine wpList_val hE28 2 rfl rfl fun K hK => ?_
  go_simp
  refine hK _ _ fun a30 hE30 => ?_
  clear hK K
  clear hE28 a28
  refine wpList_val hE30 3 rfl rfl fun K hK => ?_
  go_simp
  refine hK _ _ fun a31 hE31 => ?_
  clear hK K
  clear hE30 a30
  refine wpList_nil ?_
  refine hK29 _ _ ?_
  clear hK29
  refine wp_ret ?_
  try simp only [Exit.then]
  refine bodyPost_ret (v := .tuple #[.int .u32 0, .bool false]) (by simp [results, Tryz.results77, go_sem, hE31.get 2 rfl, hE31.get 3 rfl]) hE31.defers ⟨rfl, Below.refl _ _⟩

set_option maxHeartbeats 1000000 in
set_option maxRecDepth 100000 in
theorem mant_neg2 (b : Int) (w : World) (h0 : 2147483648 ≤ b) (h1 : b < 4294967296) (hnone : floatToFloatBits .f32 b.toNat .f64 = none) :
    Calls Tryz.prog 77 #[.int .u32 b] w fun e w' => e = .returned (.tuple #[.int .u32 0, .bool false]) ∧ Below w.heap.size w w' := by
  obtain ⟨r, hcv, hnn⟩ := conv_none (P := Tryz.prog) (w := w) (t1 := 196) (t2 := 256) (b := b.toNat) (by kernel_rfl) (by kernel_rfl) hnone
  clear hnn
  have hq : (b / 2147483648 != 0) = true := by simp; omega
  refine calls_of_wp Tryz.func77 rfl ?_
  rw [Tryz.ntmps77]
  have hE0 : Env 47 [(0, .int .u32 b)] ⟨#[.int .u32 b] ++ Array.replicate (47 - (#[.int .u32 b] : Array Value).size) undef, []⟩ := Env.enter _ (by simp) ⟨by simp, trivial⟩
  generalize (⟨#[.int .u32 b] ++ Array.replicate (47 - (#[.int .u32 b] : Array Value).size) undef, []⟩ : Act) = a0 at hE0 ⊢
  refine wp_seq_k fun K1 hK1 => ?_
  refine wp_region_lit ?_
  refine wpList_val hE0 2 rfl rfl fun K hK => ?_
  go_simp
  refine hK _ _ fun a2 hE2 => ?_
  clear hK K
  clear hE0 a0
  refine wpList_val hE2 3 rfl rfl fun K hK => ?_
  go_simp
  refine hK _ _ fun a3 hE3 => ?_
  clear hK K
  clear hE2 a2
  refine wpList_nil ?_
  refine hK1 _ _ ?_
  clear hK1
  refine wp_seq_k fun K4 hK4 => ?_
  refine wp_region_lit ?_
  refine wpList_val hE3 6 rfl rfl fun K hK => ?_
  have e0 := hE3.get 0 rfl
  go_simp
  refine hK _ _ fun a5 hE5 => ?_
  clear hK K e0
  clear hE3 a3
  refine wpList_val hE5 7 rfl rfl fun K hK => ?_
  have e6 := hE5.get 6 rfl
  refine frombits_wp (.tmp 6) b rfl (hE5.ev 6 rfl) ?_
  refine hK _ _ fun a6 hE6 => ?_
  clear hK K e6
  clear hE5 a5
  refine wpList_val hE6 8 rfl rfl fun K hK => ?_
  have e7 := hE6.get 7 rfl
  go_simp
  refine hK _ _ fun a7 hE7 => ?_
  clear hK K e7
  clear hE6 a6
  refine wpList_val hE7 4 rfl rfl fun K hK => ?_
  have e8 := hE7.get 8 rfl
  go_simp
  refine hK _ _ fun a8 hE8 => ?_
  clear hK K e8
  clear hE7 a7
  refine wpList_nil ?_
  refine hK4 _ _ ?_
  clear hK4
  refine wp_seq_k fun K9 hK9 => ?_
  refine wp_seq_k fun K10 hK10 => ?_
  refine wp_region_lit ?_
  refine wpList_val hE8 9 rfl rfl fun K hK => ?_
  have e0 := hE8.get 0 rfl
  go_simp
  refine hK _ _ fun a11 hE11 => ?_
  clear hK K e0
  clear hE8 a8
  refine wpList_val hE11 10 rfl rfl fun K hK => ?_
  have e9 := hE11.get 9 rfl
  go_simp
  refine hK _ _ fun a12 hE12 => ?_
  clear hK K e9
  clear hE11 a11
  refine wpList_val hE12 11 rfl rfl fun K hK => ?_
  have e10 := hE12.get 10 rfl
  go_simp
  refine hK _ _ fun a13 hE13 => ?_
  clear hK K e10
  clear hE12 a12
  refine wpList_val hE13 12 rfl rfl fun K hK => ?_
  have e11 := hE13.get 11 rfl
  go_simp
  refine hK _ _ fun a14 hE14 => ?_
  clear hK K e11
  clear hE13 a13
  refine wpList_gskip hE14 13 3 false 12 rfl rfl rfl rfl rfl fun a15 hE15 => ?_
  clear hE14 a14
  refine wpList_gskip hE15 14 3 false 12 rfl rfl rfl rfl rfl fun a16 hE16 => ?_
  clear hE15 a15
  refine wpList_gskip hE16 15 3 false 12 rfl rfl rfl rfl rfl fun a17 hE17 => ?_
  clear hE16 a16
  refine wpList_val hE17 16 rfl rfl fun K hK => ?_
  have e12 := hE17.get 12 rfl
  have e15 := hE17.get 15 rfl
  go_simp
  refine hK _ _ fun a18 hE18 => ?_
  clear hK K e12 e15
  clear hE17 a17
  refine wpList_val hE18 17 rfl rfl fun K hK => ?_
  have e16 := hE18.get 16 rfl
  go_simp
  refine hK _ _ fun a19 hE19 => ?_
  clear hK K e16
  clear hE18 a18
  refine wpList_gskip hE19 18 8 false 17 rfl rfl rfl rfl rfl fun a20 hE20 => ?_
  clear hE19 a19
  refine wpList_gskip hE20 19 8 false 17 rfl rfl rfl rfl rfl fun a21 hE21 => ?_
  clear hE20 a20
  refine wpList_gskip hE21 20 8 false 17 rfl rfl rfl rfl rfl fun a22 hE22 => ?_
  clear hE21 a21
  refine wpList_gskip hE22 21 8 false 17 rfl rfl rfl rfl rfl fun a23 hE23 => ?_
  clear hE22 a22
  refine wpList_val hE23 22 rfl rfl fun K hK => ?_
  have e17 := hE23.get 17 rfl
  have e21 := hE23.get 21 rfl
  go_simp
  refine hK _ _ fun a24 hE24 => ?_
  clear hK K e17 e21
  clear hE23 a23
  refine wpList_val hE24 23 rfl rfl fun K hK => ?_
  have e22 := hE24.get 22 rfl
  go_simp
  refine hK _ _ fun a25 hE25 => ?_
  clear hK K e22
  clear hE24 a24
  refine wpList_gskip hE25 24 14 false 23 rfl rfl rfl rfl rfl fun a26 hE26 => ?_
  clear hE25 a25
  refine wpList_gskip hE26 25 14 false 23 rfl rfl rfl rfl rfl fun a27 hE27 => ?_
  clear hE26 a26
  refine wpList_val hE27 26 rfl rfl fun K hK => ?_
  have e23 := hE27.get 23 rfl
  have e25 := hE27.get 25 rfl
  go_simp
  refine hK _ _ fun a28 hE28 => ?_
  clear hK K e23 e25
  clear hE27 a27
  refine wpList_nil ?_
  refine hK10 _ _ ?_
  clear hK10
  refine wp_if_t hE28 26 rfl ?_
  refine wp_seq_k fun K29 hK29 => ?_
  refine wp_region_lit ?_
  refine wpList_val hE28 2 rfl rfl fun K hK => ?_
  go_simp
  refine hK _ _ fun a30 hE30 => ?_
  clear hK K
  clear hE28 a28
  refine wpList_val hE30 3 rfl rfl fun K hK => ?_
  go_simp
  refine hK _ _ fun a31 hE31 => ?_
  clear hK K
  clear hE30 a30
  refine wpList_nil ?_
  refine hK29 _ _ ?_
  clear hK29
  refine wp_ret ?_
  try simp only [Exit.then]
  refine bodyPost_ret (v := .tuple #[.int .u32 0, .bool false]) (by simp [results, Tryz.results77, go_sem, hE31.get 2 rfl, hE31.get 3 rfl]) hE31.defers ⟨rfl, (Below.refl _ _).drew⟩

set_option maxHeartbeats 1000000 in
set_option maxRecDepth 100000 in
theorem mant_nan (b : Int) (w : World) (h0 : 0 ≤ b) (h1 : b < 2147483648) (hnone : floatToFloatBits .f32 b.toNat .f64 = none) (hn : ∃ s f, Ieee.single.read b.toNat = .nan s f) :
    Calls Tryz.prog 77 #[.int .u32 b] w fun e w' => e = .returned (.tuple #[.int .u32 0, .bool false]) ∧ Below w.heap.size w w' := by
  obtain ⟨r, hcv, hnn⟩ := conv_none (P := Tryz.prog) (w := w) (t1 := 196) (t2 := 256) (b := b.toNat) (by kernel_rfl) (by kernel_rfl) hnone
  have hno := hnn hn
  clear hnn hn
  have hno2 : (FloatKind.f64.format.order r r != some .eq) = true := by simpa [bne] using hno
  have hq : (b / 2147483648 != 0) = false := by simp; omega
  refine calls_of_wp Tryz.func77 rfl ?_
  rw [Tryz.ntmps77]
  have hE0 : Env 47 [(0, .int .u32 b)] ⟨#[.int .u32 b] ++ Array.replicate (47 - (#[.int .u32 b] : Array Value).size) undef, []⟩ := Env.enter _ (by simp) ⟨by simp, trivial⟩
  generalize (⟨#[.int .u32 b] ++ Array.replicate (47 - (#[.int .u32 b] : Array Value).size) undef, []⟩ : Act) = a0 at hE0 ⊢
  refine wp_seq_k fun K1 hK1 => ?_
  refine wp_region_lit ?_
  refine wpList_val hE0 2 rfl rfl fun K hK => ?_
  go_simp
  refine hK _ _ fun a2 hE2 => ?_
  clear hK K
  clear hE0 a0
  refine wpList_val hE2 3 rfl rfl fun K hK => ?_
  go_simp
  refine hK _ _ fun a3 hE3 => ?_
  clear hK K
  clear hE2 a2
  refine wpList_nil ?_
  refine hK1 _ _ ?_
  clear hK1
  refine wp_seq_k fun K4 hK4 => ?_
  refine wp_region_lit ?_
  refine wpList_val hE3 6 rfl rfl fun K hK => ?_
  have e0 := hE3.get 0 rfl
  go_simp
  refine hK _ _ fun a5 hE5 => ?_
  clear hK K e0
  clear hE3 a3
  refine wpList_val hE5 7 rfl rfl fun K hK => ?_
  have e6 := hE5.get 6 rfl
  refine frombits_wp (.tmp 6) b rfl (hE5.ev 6 rfl) ?_
  refine hK _ _ fun a6 hE6 => ?_
  clear hK K e6
  clear hE5 a5
  refine wpList_val hE6 8 rfl rfl fun K hK => ?_
  have e7 := hE6.get 7 rfl
  go_simp
  refine hK _ _ fun a7 hE7 => ?_
  clear hK K e7
  clear hE6 a6
  refine wpList_val hE7 4 rfl rfl fun K hK => ?_
  have e8 := hE7.get 8 rfl
  go_simp
  refine hK _ _ fun a8 hE8 => ?_
  clear hK K e8
  clear hE7 a7
  refine wpList_nil ?_
  refine hK4 _ _ ?_
  clear hK4
  refine wp_seq_k fun K9 hK9 => ?_
  refine wp_seq_k fun K10 hK10 => ?_
  refine wp_region_lit ?_
  refine wpList_val hE8 9 rfl rfl fun K hK => ?_
  have e0 := hE8.get 0 rfl
  go_simp
  refine hK _ _ fun a11 hE11 => ?_
  clear hK K e0
  clear hE8 a8
  refine wpList_val hE11 10 rfl rfl fun K hK => ?_
  have e9 := hE11.get 9 rfl
  go_simp
  refine hK _ _ fun a12 hE12 => ?_
  clear hK K e9
  clear hE11 a11
  refine wpList_val hE12 11 rfl rfl fun K hK => ?_
  have e10 := hE12.get 10 rfl
  go_simp
  refine hK _ _ fun a13 hE13 => ?_
  clear hK K e10
  clear hE12 a12
  refine wpList_val hE13 12 rfl rfl fun K hK => ?_
  have e11 := hE13.get 11 rfl
  go_simp
  refine hK _ _ fun a14 hE14 => ?_
  clear hK K e11
  clear hE13 a13
  refine wpList_gval hE14 13 3 false 12 rfl rfl rfl rfl fun K hK => ?_
  have e4 := hE14.get 4 rfl
  go_simp
  refine hK _ _ fun a15 hE15 => ?_
  clear hK K e4
  clear hE14 a14
  refine wpList_gval hE15 14 3 false 12 rfl rfl rfl rfl fun K hK => ?_
  have e4 := hE15.get 4 rfl
  go_simp
  refine hK _ _ fun a16 hE16 => ?_
  clear hK K e4
  clear hE15 a15
  refine wpList_gval hE16 15 3 false 12 rfl rfl rfl rfl fun K hK => ?_
  have e13 := hE16.get 13 rfl
  have e14 := hE16.get 14 rfl
  go_simp
  refine hK _ _ fun a17 hE17 => ?_
  clear hK K e13 e14
  clear hE16 a16
  refine wpList_val hE17 16 rfl rfl fun K hK => ?_
  have e12 := hE17.get 12 rfl
  have e15 := hE17.get 15 rfl
  go_simp
  refine hK _ _ fun a18 hE18 => ?_
  clear hK K e12 e15
  clear hE17 a17
  refine wpList_val hE18 17 rfl rfl fun K hK => ?_
  have e16 := hE18.get 16 rfl
  go_simp
  refine hK _ _ fun a19 hE19 => ?_
  clear hK K e16
  clear hE18 a18
  refine wpList_gskip hE19 18 8 false 17 rfl rfl rfl rfl rfl fun a20 hE20 => ?_
  clear hE19 a19
  refine wpList_gskip hE20 19 8 false 17 rfl rfl rfl rfl rfl fun a21 hE21 => ?_
  clear hE20 a20
  refine wpList_gskip hE21 20 8 false 17 rfl rfl rfl rfl rfl fun a22 hE22 => ?_
  clear hE21 a21
  refine wpList_gskip hE22 21 8 false 17 rfl rfl rfl rfl rfl fun a23 hE23 => ?_
  clear hE22 a22
  refine wpList_val hE23 22 rfl rfl fun K hK => ?_
  have e17 := hE23.get 17 rfl
  have e21 := hE23.get 21 rfl
  go_simp
  refine hK _ _ fun a24 hE24 => ?_
  clear hK K e17 e21
  clear hE23 a23
  refine wpList_val hE24 23 rfl rfl fun K hK => ?_
  have e22 := hE24.get 22 rfl
  go_simp
  refine hK _ _ fun a25 hE25 => ?_
  clear hK K e22
  clear hE24 a24
  refine wpList_gskip hE25 24 14 false 23 rfl rfl rfl rfl rfl fun a26 hE26 => ?_
  clear hE25 a25
  refine wpList_gskip hE26 25 14 false 23 rfl rfl rfl rfl rfl fun a27 hE27 => ?_
  clear hE26 a26
  refine wpList_val hE27 26 rfl rfl fun K hK => ?_
  have e23 := hE27.get 23 rfl
  have e25 := hE27.get 25 rfl
  go_simp
  refine hK _ _ fun a28 hE28 => ?_
  clear hK K e23 e25
  clear hE27 a27
  refine wpList_nil ?_
  refine hK10 _ _ ?_
  clear hK10
  refine wp_if_t hE28 26 rfl ?_
  refine wp_seq_k fun K29 hK29 => ?_
  refine wp_region_lit ?_
  refine wpList_val hE28 2 rfl rfl fun K hK => ?_
  go_simp
  refine hK _ _ fun a30 hE30 => ?_
  clear hK K
  clear hE28 a28
  refine wpList_val hE30 3 rfl rfl fun K hK => ?_
  go_simp
  refine hK _ _ fun a31 hE31 => ?_
  clear hK K
  clear hE30 a30
  refine wpList_nil ?_
  refine hK29 _ _ ?_
  clear hK29
  refine wp_ret ?_
  try simp only [Exit.then]
  refine bodyPost_ret (v := .tuple #[.int .u32 0, .bool false]) (by simp [results, Tryz.results77, go_sem, hE31.get 2 rfl, hE31.get 3 rfl]) hE31.defers ⟨rfl, (Below.refl _ _).drew⟩

set_option maxHeartbeats 1000000 in
set_option maxRecDepth 100000 in
theorem mant_zero (b : Int) (w : World) (h0 : 0 ≤ b) (h1 : b < 2147483648) (hsome : floatToFloatBits .f32 b.toNat .f64 = some 0) :
    Calls Tryz.prog 77 #[.int .u32 b] w fun e w' => e = .returned (.tuple #[.int .u32 0, .bool false]) ∧ Below w.heap.size w w' := by
  have hcv := conv_some (P := Tryz.prog) (w := w) (t1 := 196) (t2 := 256) (b := b.toNat) (by kernel_rfl) (by kernel_rfl) hsome
  have hq : (b / 2147483648 != 0) = false := by simp; omega
  have hz1 : (FloatKind.f64.format.order 0 0 != some .eq) = false := by decide +kernel
  have hz2 : floatBits .sub .f64 0 0 = some 0 := by decide +kernel
  have hz3 := run_float_arith (P := Tryz.prog) w .sub 256 .f64 0 0 0 hz2
  have hz4 : (FloatKind.f64.format.order 0 0 == some .eq) = true := by decide +kernel
  refine calls_of_wp Tryz.func77 rfl ?_
  rw [Tryz.ntmps77]
  have hE0 : Env 47 [(0, .int .u32 b)] ⟨#[.int .u32 b] ++ Array.replicate (47 - (#[.int .u32 b] : Array Value).size) undef, []⟩ := Env.enter _ (by simp) ⟨by simp, trivial⟩
  generalize (⟨#[.int .u32 b] ++ Array.replicate (47 - (#[.int .u32 b] : Array Value).size) undef, []⟩ : Act) = a0 at hE0 ⊢
  refine wp_seq_k fun K1 hK1 => ?_
  refine wp_region_lit ?_
  refine wpList_val hE0 2 rfl rfl fun K hK => ?_
  go_simp
  refine hK _ _ fun a2 hE2 => ?_
  clear hK K
  clear hE0 a0
  refine wpList_val hE2 3 rfl rfl fun K hK => ?_
  go_simp
  refine hK _ _ fun a3 hE3 => ?_
  clear hK K
  clear hE2 a2
  refine wpList_nil ?_
  refine hK1 _ _ ?_
  clear hK1
  refine wp_seq_k fun K4 hK4 => ?_
  refine wp_region_lit ?_
  refine wpList_val hE3 6 rfl rfl fun K hK => ?_
  have e0 := hE3.get 0 rfl
  go_simp
  refine hK _ _ fun a5 hE5 => ?_
  clear hK K e0
  clear hE3 a3
  refine wpList_val hE5 7 rfl rfl fun K hK => ?_
  have e6 := hE5.get 6 rfl
  refine frombits_wp (.tmp 6) b rfl (hE5.ev 6 rfl) ?_
  refine hK _ _ fun a6 hE6 => ?_
  clear hK K e6
  clear hE5 a5
  refine wpList_val hE6 8 rfl rfl fun K hK => ?_
  have e7 := hE6.get 7 rfl
  go_simp
  refine hK _ _ fun a7 hE7 => ?_
  clear hK K e7
  clear hE6 a6
  refine wpList_val hE7 4 rfl rfl fun K hK => ?_
  have e8 := hE7.get 8 rfl
  go_simp
  refine hK _ _ fun a8 hE8 => ?_
  clear hK K e8
  clear hE7 a7
  refine wpList_nil ?_
  refine hK4 _ _ ?_
  clear hK4
  refine wp_seq_k fun K9 hK9 => ?_
  refine wp_seq_k fun K10 hK10 => ?_
  refine wp_region_lit ?_
  refine wpList_val hE8 9 rfl rfl fun K hK => ?_
  have e0 := hE8.get 0 rfl
  go_simp
  refine hK _ _ fun a11 hE11 => ?_
  clear hK K e0
  clear hE8 a8
  refine wpList_val hE11 10 rfl rfl fun K hK => ?_
  have e9 := hE11.get 9 rfl
  go_simp
  refine hK _ _ fun a12 hE12 => ?_
  clear hK K e9
  clear hE11 a11
  refine wpList_val hE12 11 rfl rfl fun K hK => ?_
  have e10 := hE12.get 10 rfl
  go_simp
  refine hK _ _ fun a13 hE13 => ?_
  clear hK K e10
  clear hE12 a12
  refine wpList_val hE13 12 rfl rfl fun K hK => ?_
  have e11 := hE13.get 11 rfl
  go_simp
  refine hK _ _ fun a14 hE14 => ?_
  clear hK K e11
  clear hE13 a13
  refine wpList_gval hE14 13 3 false 12 rfl rfl rfl rfl fun K hK => ?_
  have e4 := hE14.get 4 rfl
  go_simp
  refine hK _ _ fun a15 hE15 => ?_
  clear hK K e4
  clear hE14 a14
  refine wpList_gval hE15 14 3 false 12 rfl rfl rfl rfl fun K hK => ?_
  have e4 := hE15.get 4 rfl
  go_simp
  refine hK _ _ fun a16 hE16 => ?_
  clear hK K e4
  clear hE15 a15
  refine wpList_gval hE16 15 3 false 12 rfl rfl rfl rfl fun K hK => ?_
  have e13 := hE16.get 13 rfl
  have e14 := hE16.get 14 rfl
  go_simp
  refine hK _ _ fun a17 hE17 => ?_
  clear hK K e13 e14
  clear hE16 a16
  refine wpList_val hE17 16 rfl rfl fun K hK => ?_
  have e12 := hE17.get 12 rfl
  have e15 := hE17.get 15 rfl
  go_simp
  refine hK _ _ fun a18 hE18 => ?_
  clear hK K e12 e15
  clear hE17 a17
  refine wpList_val hE18 17 rfl rfl fun K hK => ?_
  have e16 := hE18.get 16 rfl
  go_simp
  refine hK _ _ fun a19 hE19 => ?_
  clear hK K e16
  clear hE18 a18
  refine wpList_gval hE19 18 8 false 17 rfl rfl rfl rfl fun K hK => ?_
  have e4 := hE19.get 4 rfl
  go_simp
  refine hK _ _ fun a20 hE20 => ?_
  clear hK K e4
  clear hE19 a19
  refine wpList_gval hE20 19 8 false 17 rfl rfl rfl rfl fun K hK => ?_
  have e4 := hE20.get 4 rfl
  go_simp
  refine hK _ _ fun a21 hE21 => ?_
  clear hK K e4
  clear hE20 a20
  refine wpList_gval hE21 20 8 false 17 rfl rfl rfl rfl fun K hK => ?_
  have e18 := hE21.get 18 rfl
  have e19 := hE21.get 19 rfl
  go_simp
  refine hK _ _ fun a22 hE22 => ?_
  clear hK K e18 e19
  clear hE21 a21
  refine wpList_gval hE22 21 8 false 17 rfl rfl rfl rfl fun K hK => ?_
  have e20 := hE22.get 20 rfl
  go_simp
  refine hK _ _ fun a23 hE23 => ?_
  clear hK K e20
  clear hE22 a22
  refine wpList_val hE23 22 rfl rfl fun K hK => ?_
  have e17 := hE23.get 17 rfl
  have e21 := hE23.get 21 rfl
  go_simp
  refine hK _ _ fun a24 hE24 => ?_
  clear hK K e17 e21
  clear hE23 a23
  refine wpList_val hE24 23 rfl rfl fun K hK => ?_
  have e22 := hE24.get 22 rfl
  go_simp
  refine hK _ _ fun a25 hE25 => ?_
  clear hK K e22
  clear hE24 a24
  refine wpList_gval hE25 24 14 false 23 rfl rfl rfl rfl fun K hK => ?_
  have e4 := hE25.get 4 rfl
  go_simp
  refine hK _ _ fun a26 hE26 => ?_
  clear hK K e4
  clear hE25 a25
  refine wpList_gval hE26 25 14 false 23 rfl rfl rfl rfl fun K hK => ?_
  have e24 := hE26.get 24 rfl
  go_simp
  refine hK _ _ fun a27 hE27 => ?_
  clear hK K e24
  clear hE26 a26
  refine wpList_val hE27 26 rfl rfl fun K hK => ?_
  have e23 := hE27.get 23 rfl
  have e25 := hE27.get 25 rfl
  go_simp
  refine hK _ _ fun a28 hE28 => ?_
  clear hK K e23 e25
  clear hE27 a27
  refine wpList_nil ?_
  refine hK10 _ _ ?_
  clear hK10
  refine wp_if_t hE28 26 rfl ?_
  refine wp_seq_k fun K29 hK29 => ?_
  refine wp_region_lit ?_
  refine wpList_val hE28 2 rfl rfl fun K hK => ?_
  go_simp
  refine hK _ _ fun a30 hE30 => ?_
  clear hK K
  clear hE28 a28
  refine wpList_val hE30 3 rfl rfl fun K hK => ?_
  go_simp
  refine hK _ _ fun a31 hE31 => ?_
  clear hK K
  clear hE30 a30
  refine wpList_nil ?_
  refine hK29 _ _ ?_
  clear hK29
  refine wp_ret ?_
  try simp only [Exit.then]
  refine bodyPost_ret (v := .tuple #[.int .u32 0, .bool false]) (by simp [results, Tryz.results77, go_sem, hE31.get 2 rfl, hE31.get 3 rfl]) hE31.defers ⟨rfl, Below.refl _ _⟩

set_option maxHeartbeats 1000000 in
set_option maxRecDepth 100000 in
theorem mant_inf (b : Int) (w : World) (h0 : 0 ≤ b) (h1 : b < 2147483648) (hsome : floatToFloatBits .f32 b.toNat .f64 = some 9218868437227405312) :
    Calls Tryz.prog 77 #[.int .u32 b] w fun e w' => e = .returned (.tuple #[.int .u32 0, .bool false]) ∧ Below w.heap.size w w' := by
  have hcv := conv_some (P := Tryz.prog) (w := w) (t1 := 196) (t2 := 256) (b := b.toNat) (by kernel_rfl) (by kernel_rfl) hsome
  have hq : (b / 2147483648 != 0) = false := by simp; omega
  have hz1 : (FloatKind.f64.format.order 9218868437227405312 9218868437227405312 != some .eq) = false := by decide +kernel
  have hz2 : FloatKind.f64.format.sub 9218868437227405312 9218868437227405312 = none := by decide +kernel
  obtain ⟨r, hr⟩ : ∃ r, r = (Question.nanBits .f64 9218868437227405312 9218868437227405312).cut (w.tape w.drawn (.nanBits .f64 9218868437227405312 9218868437227405312)) := ⟨_, rfl⟩
  have hz3 : (binOp .sub 256 (.float .f64 9218868437227405312) (.float .f64 9218868437227405312)).run Tryz.prog w = .ok (.float .f64 r) w.drew := by rw [hr]; simp [binOp, Op.floatArith, hz2, Question.forced]
  have hz4 : (FloatKind.f64.format.order r 0 != some .eq) = true := by
    obtain ⟨s, f, hn⟩ := nan_read r (by rw [hr]; exact cut_nanB _ _ _)
    show (Ieee.double.order r 0 != some .eq) = true
    unfold Ieee.Format.order
    rw [hn]
    rfl
  clear hr hz2
  refine calls_of_wp Tryz.func77 rfl ?_
  rw [Tryz.ntmps77]
  have hE0 : Env 47 [(0, .int .u32 b)] ⟨#[.int .u32 b] ++ Array.replicate (47 - (#[.int .u32 b] : Array Value).size) undef, []⟩ := Env.enter _ (by simp) ⟨by simp, trivial⟩
  generalize (⟨#[.int .u32 b] ++ Array.replicate (47 - (#[.int .u32 b] : Array Value).size) undef, []⟩ : Act) = a0 at hE0 ⊢
  refine wp_seq_k fun K1 hK1 => ?_
  refine wp_region_lit ?_
  refine wpList_val hE0 2 rfl rfl fun K hK => ?_
  go_simp
  refine hK _ _ fun a2 hE2 => ?_
  clear hK K
  clear hE0 a0
  refine wpList_val hE2 3 rfl rfl fun K hK => ?_
  go_simp
  refine hK _ _ fun a3 hE3 => ?_
  clear hK K
  clear hE2 a2
  refine wpList_nil ?_
  refine hK1 _ _ ?_
  clear hK1
  refine wp_seq_k fun K4 hK4 => ?_
  refine wp_region_lit ?_
  refine wpList_val hE3 6 rfl rfl fun K hK => ?_
  have e0 := hE3.get 0 rfl
  go_simp
  refine hK _ _ fun a5 hE5 => ?_
  clear hK K e0
  clear hE3 a3
  refine wpList_val hE5 7 rfl rfl fun K hK => ?_
  have e6 := hE5.get 6 rfl
  refine frombits_wp (.tmp 6) b rfl (hE5.ev 6 rfl) ?_
  refine hK _ _ fun a6 hE6 => ?_
  clear hK K e6
  clear hE5 a5
  refine wpList_val hE6 8 rfl rfl fun K hK => ?_
  have e7 := hE6.get 7 rfl
  go_simp
  refine hK _ _ fun a7 hE7 => ?_
  clear hK K e7
  clear hE6 a6
  refine wpList_val hE7 4 rfl rfl fun K hK => ?_
  have e8 := hE7.get 8 rfl
  go_simp
  refine hK _ _ fun a8 hE8 => ?_
  clear hK K e8
  clear hE7 a7
  refine wpList_nil ?_
  refine hK4 _ _ ?_
  clear hK4
  refine wp_seq_k fun K9 hK9 => ?_
  refine wp_seq_k fun K10 hK10 => ?_
  refine wp_region_lit ?_
  refine wpList_val hE8 9 rfl rfl fun K hK => ?_
  have e0 := hE8.get 0 rfl
  go_simp
  refine hK _ _ fun a11 hE11 => ?_
  clear hK K e0
  clear hE8 a8
  refine wpList_val hE11 10 rfl rfl fun K hK => ?_
  have e9 := hE11.get 9 rfl
  go_simp
  refine hK _ _ fun a12 hE12 => ?_
  clear hK K e9
  clear hE11 a11
  refine wpList_val hE12 11 rfl rfl fun K hK => ?_
  have e10 := hE12.get 10 rfl
  go_simp
  refine hK _ _ fun a13 hE13 => ?_
  clear hK K e10
  clear hE12 a12
  refine wpList_val hE13 12 rfl rfl fun K hK => ?_
  have e11 := hE13.get 11 rfl
  go_simp
  refine hK _ _ fun a14 hE14 => ?_
  clear hK K e11
  clear hE13 a13
  refine wpList_gval hE14 13 3 false 12 rfl rfl rfl rfl fun K hK => ?_
  have e4 := hE14.get 4 rfl
  go_simp
  refine hK _ _ fun a15 hE15 => ?_
  clear hK K e4
  clear hE14 a14
  refine wpList_gval hE15 14 3 false 12 rfl rfl rfl rfl fun K hK => ?_
  have e4 := hE15.get 4 rfl
  go_simp
  refine hK _ _ fun a16 hE16 => ?_
  clear hK K e4
  clear hE15 a15
  refine wpList_gval hE16 15 3 false 12 rfl rfl rfl rfl fun K hK => ?_
  have e13 := hE16.get 13 rfl
  have e14 := hE16.get 14 rfl
  go_simp
  refine hK _ _ fun a17 hE17 => ?_
  clear hK K e13 e14
  clear hE16 a16
  refine wpList_val hE17 16 rfl rfl fun K hK => ?_
  have e12 := hE17.get 12 rfl
  have e15 := hE17.get 15 rfl
  go_simp
  refine hK _ _ fun a18 hE18 => ?_
  clear hK K e12 e15
  clear hE17 a17
  refine wpList_val hE18 17 rfl rfl fun K hK => ?_
  have e16 := hE18.get 16 rfl
  go_simp
  refine hK _ _ fun a19 hE19 => ?_
  clear hK K e16
  clear hE18 a18
  refine wpList_gval hE19 18 8 false 17 rfl rfl rfl rfl fun K hK => ?_
  have e4 := hE19.get 4 rfl
  go_simp
  refine hK _ _ fun a20 hE20 => ?_
  clear hK K e4
  clear hE19 a19
  refine wpList_gval hE20 19 8 false 17 rfl rfl rfl rfl fun K hK => ?_
  have e4 := hE20.get 4 rfl
  go_simp
  refine hK _ _ fun a21 hE21 => ?_
  clear hK K e4
  clear hE20 a20
  refine wpList_gval hE21 20 8 false 17 rfl rfl rfl rfl fun K hK => ?_
  have e18 := hE21.get 18 rfl
  have e19 := hE21.get 19 rfl
  go_simp
  refine hK _ _ fun a22 hE22 => ?_
  clear hK K e18 e19
  clear hE21 a21
  refine wpList_gval hE22 21 8 false 17 rfl rfl rfl rfl fun K hK => ?_
  have e20 := hE22.get 20 rfl
  go_simp
  refine hK _ _ fun a23 hE23 => ?_
  clear hK K e20
  clear hE22 a22
  refine wpList_val hE23 22 rfl rfl fun K hK => ?_
  have e17 := hE23.get 17 rfl
  have e21 := hE23.get 21 rfl
  go_simp
  refine hK _ _ fun a24 hE24 => ?_
  clear hK K e17 e21
  clear hE23 a23
  refine wpList_val hE24 23 rfl rfl fun K hK => ?_
  have e22 := hE24.get 22 rfl
  go_simp
  refine hK _ _ fun a25 hE25 => ?_
  clear hK K e22
  clear hE24 a24
  refine wpList_gskip hE25 24 14 false 23 rfl rfl rfl rfl rfl fun a26 hE26 => ?_
  clear hE25 a25
  refine wpList_gskip hE26 25 14 false 23 rfl rfl rfl rfl rfl fun a27 hE27 => ?_
  clear hE26 a26
  refine wpList_val hE27 26 rfl rfl fun K hK => ?_
  have e23 := hE27.get 23 rfl
  have e25 := hE27.get 25 rfl
  go_simp
  refine hK _ _ fun a28 hE28 => ?_
  clear hK K e23 e25
  clear hE27 a27
  refine wpList_nil ?_
  refine hK10 _ _ ?_
  clear hK10
  refine wp_if_t hE28 26 rfl ?_
  refine wp_seq_k fun K29 hK29 => ?_
  refine wp_region_lit ?_
  refine wpList_val hE28 2 rfl rfl fun K hK => ?_
  go_simp
  refine hK _ _ fun a30 hE30 => ?_
  clear hK K
  clear hE28 a28
  refine wpList_val hE30 3 rfl rfl fun K hK => ?_
  go_simp
  refine hK _ _ fun a31 hE31 => ?_
  clear hK K
  clear hE30 a30
  refine wpList_nil ?_
  refine hK29 _ _ ?_
  clear hK29
  refine wp_ret ?_
  try simp only [Exit.then]
  refine bodyPost_ret (v := .tuple #[.int .u32 0, .bool false]) (by simp [results, Tryz.results77, go_sem, hE31.get 2 rfl, hE31.get 3 rfl]) hE31.defers ⟨rfl, (Below.refl _ _).drew⟩

set_option maxHeartbeats 2000000 in
set_option maxRecDepth 100000 in
theorem mant_full (b : Int) (w : World) (h0 : 0 ≤ b) (h1 : b < 2147483648) (M : Nat) (E : Int) (hf : fullOf b.toNat = some (M, E)) :
    Calls Tryz.prog 77 #[.int .u32 b] w fun e w' => e = .returned (.tuple #[.int .u32 (if halves E ≤ 63 ∧ M % 2 ^ rest E = 0 then bits .or .u32 (IntKind.u32.wrap ((halves E : Int) * 262144)) ((M / 2 ^ rest E : Nat) : Int) else 0), .bool (decide (halves E ≤ 63) && decide (M % 2 ^ rest E = 0))]) ∧ Below w.heap.size w w' := by
  obtain ⟨hm1, hm2, hm3, hm4, -⟩ := fullOf_some hf
  have hcv := conv_some (P := Tryz.prog) (w := w) (t1 := 196) (t2 := 256) (b := b.toNat) (by kernel_rfl) (by kernel_rfl) (widen hf)
  have hq : (b / 2147483648 != 0) = false := by simp; omega
  have hz1 : (FloatKind.f64.format.order (wd Ieee.double M E) (wd Ieee.double M E) != some .eq) = false := by have := self_eq (E := E) hm1 hm2 (by omega) (by omega); show (Ieee.double.order _ _ != some .eq) = false; rw [this]; rfl
  have hz3 := run_float_arith (P := Tryz.prog) w .sub 256 .f64 (wd Ieee.double M E) (wd Ieee.double M E) 0 (self_sub (E := E) hm1 hm2 (by omega) (by omega))
  have hz2 : (FloatKind.f64.format.order 0 0 != some .eq) = false := by decide +kernel
  have hz4 : (FloatKind.f64.format.order (wd Ieee.double M E) 0 == some .eq) = false := not_zero (E := E) hm1 hm2 (by omega) (by omega)
  have hhb : halves E ≤ 110 := by unfold halves; omega
  have Hf := Lib.hid hf
  clear hf
  refine calls_of_wp Tryz.func77 rfl ?_
  rw [Tryz.ntmps77]
  have hE0 : Env 47 [(0, .int .u32 b)] ⟨#[.int .u32 b] ++ Array.replicate (47 - (#[.int .u32 b] : Array Value).size) undef, []⟩ := Env.enter _ (by simp) ⟨by simp, trivial⟩
  generalize (⟨#[.int .u32 b] ++ Array.replicate (47 - (#[.int .u32 b] : Array Value).size) undef, []⟩ : Act) = a0 at hE0 ⊢
  refine wp_seq_k fun K1 hK1 => ?_
  refine wp_region_lit ?_
  refine wpList_val hE0 2 rfl rfl fun K hK => ?_
  go_simp
  refine hK _ _ fun a2 hE2 => ?_
  clear hK K
  clear hE0 a0
  refine wpList_val hE2 3 rfl rfl fun K hK => ?_
  go_simp
  refine hK _ _ fun a3 hE3 => ?_
  clear hK K
  clear hE2 a2
  refine wpList_nil ?_
  refine hK1 _ _ ?_
  clear hK1
  refine wp_seq_k fun K4 hK4 => ?_
  refine wp_region_lit ?_
  refine wpList_val hE3 6 rfl rfl fun K hK => ?_
  have e0 := hE3.get 0 rfl
  go_simp
  refine hK _ _ fun a5 hE5 => ?_
  clear hK K e0
  clear hE3 a3
  refine wpList_val hE5 7 rfl rfl fun K hK => ?_
  have e6 := hE5.get 6 rfl
  refine frombits_wp (.tmp 6) b rfl (hE5.ev 6 rfl) ?_
  refine hK _ _ fun a6 hE6 => ?_
  clear hK K e6
  clear hE5 a5
  refine wpList_val hE6 8 rfl rfl fun K hK => ?_
  have e7 := hE6.get 7 rfl
  go_simp
  refine hK _ _ fun a7 hE7 => ?_
  clear hK K e7
  clear hE6 a6
  refine wpList_val hE7 4 rfl rfl fun K hK => ?_
  have e8 := hE7.get 8 rfl
  go_simp
  refine hK _ _ fun a8 hE8 => ?_
  clear hK K e8
  clear hE7 a7
  refine wpList_nil ?_
  refine hK4 _ _ ?_
  clear hK4
  refine wp_seq_k fun K9 hK9 => ?_
  refine wp_seq_k fun K10 hK10 => ?_
  refine wp_region_lit ?_
  refine wpList_val hE8 9 rfl rfl fun K hK => ?_
  have e0 := hE8.get 0 rfl
  go_simp
  refine hK _ _ fun a11 hE11 => ?_
  clear hK K e0
  clear hE8 a8
  refine wpList_val hE11 10 rfl rfl fun K hK => ?_
  have e9 := hE11.get 9 rfl
  go_simp
  refine hK _ _ fun a12 hE12 => ?_
  clear hK K e9
  clear hE11 a11
  refine wpList_val hE12 11 rfl rfl fun K hK => ?_
  have e10 := hE12.get 10 rfl
  go_simp
  refine hK _ _ fun a13 hE13 => ?_
  clear hK K e10
  clear hE12 a12
  refine wpList_val hE13 12 rfl rfl fun K hK => ?_
  have e11 := hE13.get 11 rfl
  go_simp
  refine hK _ _ fun a14 hE14 => ?_
  clear hK K e11
  clear hE13 a13
  refine wpList_gval hE14 13 3 false 12 rfl rfl rfl rfl fun K hK => ?_
  have e4 := hE14.get 4 rfl
  go_simp
  refine hK _ _ fun a15 hE15 => ?_
  clear hK K e4
  clear hE14 a14
  refine wpList_gval hE15 14 3 false 12 rfl rfl rfl rfl fun K hK => ?_
  have e4 := hE15.get 4 rfl
  go_simp
  refine hK _ _ fun a16 hE16 => ?_
  clear hK K e4
  clear hE15 a15
  refine wpList_gval hE16 15 3 false 12 rfl rfl rfl rfl fun K hK => ?_
  have e13 := hE16.get 13 rfl
  have e14 := hE16.get 14 rfl
  go_simp
  refine hK _ _ fun a17 hE17 => ?_
  clear hK K e13 e14
  clear hE16 a16
  refine wpList_val hE17 16 rfl rfl fun K hK => ?_
  have e12 := hE17.get 12 rfl
  have e15 := hE17.get 15 rfl
  go_simp
  refine hK _ _ fun a18 hE18 => ?_
  clear hK K e12 e15
  clear hE17 a17
  refine wpList_val hE18 17 rfl rfl fun K hK => ?_
  have e16 := hE18.get 16 rfl
  go_simp
  refine hK _ _ fun a19 hE19 => ?_
  clear hK K e16
  clear hE18 a18
  refine wpList_gval hE19 18 8 false 17 rfl rfl rfl rfl fun K hK => ?_
  have e4 := hE19.get 4 rfl
  go_simp
  refine hK _ _ fun a20 hE20 => ?_
  clear hK K e4
  clear hE19 a19
  refine wpList_gval hE20 19 8 false 17 rfl rfl rfl rfl fun K hK => ?_
  have e4 := hE20.get 4 rfl
  go_simp
  refine hK _ _ fun a21 hE21 => ?_
  clear hK K e4
  clear hE20 a20
  refine wpList_gval hE21 20 8 false 17 rfl rfl rfl rfl fun K hK => ?_
  have e18 := hE21.get 18 rfl
  have e19 := hE21.get 19 rfl
  go_simp
  refine hK _ _ fun a22 hE22 => ?_
  clear hK K e18 e19
  clear hE21 a21
  refine wpList_gval hE22 21 8 false 17 rfl rfl rfl rfl fun K hK => ?_
  have e20 := hE22.get 20 rfl
  go_simp
  refine hK _ _ fun a23 hE23 => ?_
  clear hK K e20
  clear hE22 a22
  refine wpList_val hE23 22 rfl rfl fun K hK => ?_
  have e17 := hE23.get 17 rfl
  have e21 := hE23.get 21 rfl
  go_simp
  refine hK _ _ fun a24 hE24 => ?_
  clear hK K e17 e21
  clear hE23 a23
  refine wpList_val hE24 23 rfl rfl fun K hK => ?_
  have e22 := hE24.get 22 rfl
  go_simp
  refine hK _ _ fun a25 hE25 => ?_
  clear hK K e22
  clear hE24 a24
  refine wpList_gval hE25 24 14 false 23 rfl rfl rfl rfl fun K hK => ?_
  have e4 := hE25.get 4 rfl
  go_simp
  refine hK _ _ fun a26 hE26 => ?_
  clear hK K e4
  clear hE25 a25
  refine wpList_gval hE26 25 14 false 23 rfl rfl rfl rfl fun K hK => ?_
  have e24 := hE26.get 24 rfl
  go_simp
  refine hK _ _ fun a27 hE27 => ?_
  clear hK K e24
  clear hE26 a26
  refine wpList_val hE27 26 rfl rfl fun K hK => ?_
  have e23 := hE27.get 23 rfl
  have e25 := hE27.get 25 rfl
  go_simp
  refine hK _ _ fun a28 hE28 => ?_
  clear hK K e23 e25
  clear hE27 a27
  refine wpList_nil ?_
  clear hz1 hz3 hz2 hz4 hcv hq
  refine hK10 _ _ ?_
  clear hK10
  refine wp_if_f hE28 26 rfl ?_
  refine wp_skip ?_
  refine hK9 _ _ ?_
  clear hK9
  refine wp_seq_k fun K29 hK29 => ?_
  refine wp_region_lit ?_
  refine wpList_val hE28 5 rfl rfl fun K hK => ?_
  go_simp
  refine hK _ _ fun a30 hE30 => ?_
  clear hK K
  clear hE28 a28
  refine wpList_nil ?_
  refine hK29 _ _ ?_
  clear hK29
  refine wp_seq_k fun K31 hK31 => ?_
  refine wp_block ?_
  refine wp_loop_up (halves E) (fun k a w' => Env 47 [(4, .float .f64 (wd Ieee.double M (E - (k : Nat)))), (5, .int .u32 (k : Nat))] a ∧ w' = w) ⟨hE30.keep ⟨by have := hE30.get 4 rfl; simpa using this, hE30.get 5 rfl, trivial⟩, rfl⟩ ?_
  clear hE30 a30
  intro k a1 w1 hkl ⟨hE1, hw1⟩ K hK
  obtain rfl : w1 = w := hw1
  have hcmp : (FloatKind.f64.format.order (wd Ieee.double M (E - (k : Nat))) 4688247212092686336 == some .gt || FloatKind.f64.format.order (wd Ieee.double M (E - (k : Nat))) 4688247212092686336 == some .eq) = decide (-34 ≤ E - (k : Nat)) := geq18 hm1 hm2 (by omega) (by omega)
  by_cases hlt : k < halves E
  case pos =>
    rw [decide_eq_true (by unfold halves at hlt; omega)] at hcmp
    have hdv := run_float_arith (P := Tryz.prog) w1 .quo 256 .f64 (wd Ieee.double M (E - (k : Nat))) 4611686018427387904 (wd Ieee.double M (E - (k : Nat) - 1)) (halve hm1 hm2 (by omega) (by omega))
    have hw2 : IntKind.u32.wrap ((k : Int) + 1) = (k : Int) + 1 := by rw [IntKind.wrap_u32]; omega
    refine wp_seq_k fun K32 hK32 => ?_
    refine wp_seq_k fun K33 hK33 => ?_
    refine wp_region_lit ?_
    refine wpList_val hE1 27 rfl rfl fun K hK => ?_
    have e4 := hE1.get 4 rfl
    go_simp
    refine hK _ _ fun a34 hE34 => ?_
    clear hK K e4
    clear hE1 a1
    refine wpList_val hE34 28 rfl rfl fun K hK => ?_
    have e27 := hE34.get 27 rfl
    go_simp
    refine hK _ _ fun a35 hE35 => ?_
    clear hK K e27
    clear hE34 a34
    refine wpList_nil ?_
    refine hK33 _ _ ?_
    clear hK33
    refine wp_if_t hE35 28 rfl ?_
    refine wp_skip ?_
    refine hK32 _ _ ?_
    clear hK32
    refine wp_block ?_
    refine wp_seq_k fun K36 hK36 => ?_
    refine wp_region_lit ?_
    refine wpList_val hE35 29 rfl rfl fun K hK => ?_
    have e4 := hE35.get 4 rfl
    go_simp
    refine hK _ _ fun a37 hE37 => ?_
    clear hK K e4
    clear hE35 a35
    refine wpList_val hE37 30 rfl rfl fun K hK => ?_
    have e29 := hE37.get 29 rfl
    go_simp
    refine hK _ _ fun a38 hE38 => ?_
    clear hK K e29
    clear hE37 a37
    refine wpList_val hE38 4 rfl rfl fun K hK => ?_
    have e30 := hE38.get 30 rfl
    go_simp
    refine hK _ _ fun a39 hE39 => ?_
    clear hK K e30
    clear hE38 a38
    refine wpList_nil ?_
    refine hK36 _ _ ?_
    clear hK36
    refine wp_region_lit ?_
    refine wpList_val hE39 31 rfl rfl fun K hK => ?_
    have e5 := hE39.get 5 rfl
    go_simp
    refine hK _ _ fun a40 hE40 => ?_
    clear hK K e5
    clear hE39 a39
    refine wpList_val hE40 32 rfl rfl fun K hK => ?_
    have e31 := hE40.get 31 rfl
    go_simp
    refine hK _ _ fun a41 hE41 => ?_
    clear hK K e31
    clear hE40 a40
    refine wpList_val hE41 5 rfl rfl fun K hK => ?_
    have e32 := hE41.get 32 rfl
    go_simp
    refine hK _ _ fun a42 hE42 => ?_
    clear hK K e32
    clear hE41 a41
    refine wpList_nil ?_
    have he : E - (k : Nat) - 1 = E - ((k + 1 : Nat) : Int) := by omega
    exact hK _ _ hlt ⟨hE42.keep ⟨(hE42.get 4 rfl).trans (by rw [he]), (hE42.get 5 rfl).trans (congrArg some (by go_num)), trivial⟩, rfl⟩
  case neg =>
    obtain rfl : k = halves E := by omega
    rw [decide_eq_false (by unfold halves; omega)] at hcmp
    refine wp_seq_k fun K43 hK43 => ?_
    refine wp_seq_k fun K44 hK44 => ?_
    refine wp_region_lit ?_
    refine wpList_val hE1 27 rfl rfl fun K hK => ?_
    have e4 := hE1.get 4 rfl
    go_simp
    refine hK _ _ fun a45 hE45 => ?_
    clear hK K e4
    clear hE1 a1
    refine wpList_val hE45 28 rfl rfl fun K hK => ?_
    have e27 := hE45.get 27 rfl
    go_simp
    refine hK _ _ fun a46 hE46 => ?_
    clear hK K e27
    clear hE45 a45
    refine wpList_nil ?_
    refine hK44 _ _ ?_
    clear hK44
    refine wp_if_f hE46 28 rfl ?_
    refine wp_exit ?_
    refine hK31 _ _ ?_
    clear hK31
    refine wp_seq_k fun K47 hK47 => ?_
    refine wp_seq_k fun K48 hK48 => ?_
    obtain ⟨hti, hq18⟩ := toInt_last hm1 hm2 (by omega) (show E ≤ 200 by omega)
    have hbk := back_eq hm1 hm2 (by omega) (show E ≤ 200 by omega)
    have hbk2 : (FloatKind.f64.format.order (wd Ieee.double M (E - (halves E : Nat))) (floatOfInt .f64 ((M / 2 ^ rest E : Nat) : Int)) != some .eq) = !decide (M % 2 ^ rest E = 0) := hbk
    have hcu := run_convert_float_int (P := Tryz.prog) w1 256 22 .f64 .u32 _ _ (by kernel_rfl) (by kernel_rfl) hti
    clear hbk hti
    obtain ⟨q, hqe⟩ : ∃ q, q = M / 2 ^ rest E := ⟨_, rfl⟩
    rw [← hqe] at hq18 hbk2 hcu
    have Hqe := Lib.hid hqe
    clear hqe
    have hways : ∀ t : Bool, t = (!(decide (halves E ≤ 63) && decide (M % 2 ^ rest E = 0))) → ∀ a', Env 47 [(4, .float .f64 (wd Ieee.double M (E - (halves E : Nat)))), (5, .int .u32 (halves E : Nat)), (41, .bool t)] a' → K48 a' w1 := ?_
    · by_cases h63 : halves E ≤ 63
      · by_cases hz : M % 2 ^ rest E = 0
        · rw [decide_eq_true hz] at hbk2
          have hb2 : ¬ (63 : Int) < (halves E : Nat) := by omega
          simp only [Bool.not_true] at hbk2
          refine wp_region_lit ?_
          refine wpList_val hE46 33 rfl rfl fun K hK => ?_
          have e5 := hE46.get 5 rfl
          go_simp
          refine hK _ _ fun a49 hE49 => ?_
          clear hK K e5
          refine wpList_val hE49 34 rfl rfl fun K hK => ?_
          have e33 := hE49.get 33 rfl
          go_simp
          refine hK _ _ fun a50 hE50 => ?_
          clear hK K e33
          clear hE49 a49
          refine wpList_val hE50 35 rfl rfl fun K hK => ?_
          have e34 := hE50.get 34 rfl
          go_simp
          refine hK _ _ fun a51 hE51 => ?_
          clear hK K e34
          clear hE50 a50
          refine wpList_gval hE51 36 2 false 35 rfl rfl rfl rfl fun K hK => ?_
          have e4 := hE51.get 4 rfl
          go_simp
          refine hK _ _ fun a52 hE52 => ?_
          clear hK K e4
          clear hE51 a51
          refine wpList_gval hE52 37 2 false 35 rfl rfl rfl rfl fun K hK => ?_
          have e4 := hE52.get 4 rfl
          go_simp
          refine hK _ _ fun a53 hE53 => ?_
          clear hK K e4
          clear hE52 a52
          refine wpList_gval hE53 38 2 false 35 rfl rfl rfl rfl fun K hK => ?_
          have e37 := hE53.get 37 rfl
          go_simp
          refine hK _ _ fun a54 hE54 => ?_
          clear hK K e37
          clear hE53 a53
          refine wpList_gval hE54 39 2 false 35 rfl rfl rfl rfl fun K hK => ?_
          have e38 := hE54.get 38 rfl
          go_simp
          refine hK _ _ fun a55 hE55 => ?_
          clear hK K e38
          clear hE54 a54
          refine wpList_gval hE55 40 2 false 35 rfl rfl rfl rfl fun K hK => ?_
          have e36 := hE55.get 36 rfl
          have e39 := hE55.get 39 rfl
          go_simp
          refine hK _ _ fun a56 hE56 => ?_
          clear hK K e36 e39
          clear hE55 a55
          refine wpList_val hE56 41 rfl rfl fun K hK => ?_
          have e35 := hE56.get 35 rfl
          have e40 := hE56.get 40 rfl
          go_simp
          refine hK _ _ fun a57 hE57 => ?_
          clear hK K e35 e40
          clear hE56 a56
          refine wpList_nil ?_
          refine hways false (by rw [decide_eq_true h63]; simp [hz]) _ (hE57.keep ⟨hE57.get 4 rfl, hE57.get 5 rfl, hE57.get 41 rfl, trivial⟩)
        · rw [decide_eq_false hz] at hbk2
          have hb2 : ¬ (63 : Int) < (halves E : Nat) := by omega
          simp only [Bool.not_false] at hbk2
          refine wp_region_lit ?_
          refine wpList_val hE46 33 rfl rfl fun K hK => ?_
          have e5 := hE46.get 5 rfl
          go_simp
          refine hK _ _ fun a58 hE58 => ?_
          clear hK K e5
          refine wpList_val hE58 34 rfl rfl fun K hK => ?_
          have e33 := hE58.get 33 rfl
          go_simp
          refine hK _ _ fun a59 hE59 => ?_
          clear hK K e33
          clear hE58 a58
          refine wpList_val hE59 35 rfl rfl fun K hK => ?_
          have e34 := hE59.get 34 rfl
          go_simp
          refine hK _ _ fun a60 hE60 => ?_
          clear hK K e34
          clear hE59 a59
          refine wpList_gval hE60 36 2 false 35 rfl rfl rfl rfl fun K hK => ?_
          have e4 := hE60.get 4 rfl
          go_simp
          refine hK _ _ fun a61 hE61 => ?_
          clear hK K e4
          clear hE60 a60
          refine wpList_gval hE61 37 2 false 35 rfl rfl rfl rfl fun K hK => ?_
          have e4 := hE61.get 4 rfl
          go_simp
          refine hK _ _ fun a62 hE62 => ?_
          clear hK K e4
          clear hE61 a61
          refine wpList_gval hE62 38 2 false 35 rfl rfl rfl rfl fun K hK => ?_
          have e37 := hE62.get 37 rfl
          go_simp
          refine hK _ _ fun a63 hE63 => ?_
          clear hK K e37
          clear hE62 a62
          refine wpList_gval hE63 39 2 false 35 rfl rfl rfl rfl fun K hK => ?_
          have e38 := hE63.get 38 rfl
          go_simp
          refine hK _ _ fun a64 hE64 => ?_
          clear hK K e38
          clear hE63 a63
          refine wpList_gval hE64 40 2 false 35 rfl rfl rfl rfl fun K hK => ?_
          have e36 := hE64.get 36 rfl
          have e39 := hE64.get 39 rfl
          go_simp
          refine hK _ _ fun a65 hE65 => ?_
          clear hK K e36 e39
          clear hE64 a64
          refine wpList_val hE65 41 rfl rfl fun K hK => ?_
          have e35 := hE65.get 35 rfl
          have e40 := hE65.get 40 rfl
          go_simp
          refine hK _ _ fun a66 hE66 => ?_
          clear hK K e35 e40
          clear hE65 a65
          refine wpList_nil ?_
          refine hways true (by rw [decide_eq_true h63]; simp [hz]) _ (hE66.keep ⟨hE66.get 4 rfl, hE66.get 5 rfl, hE66.get 41 rfl, trivial⟩)
      · have hb2 : (63 : Int) < (halves E : Nat) := by omega
        refine wp_region_lit ?_
        refine wpList_val hE46 33 rfl rfl fun K hK => ?_
        have e5 := hE46.get 5 rfl
        go_simp
        refine hK _ _ fun a67 hE67 => ?_
        clear hK K e5
        refine wpList_val hE67 34 rfl rfl fun K hK => ?_
        have e33 := hE67.get 33 rfl
        go_simp
        refine hK _ _ fun a68 hE68 => ?_
        clear hK K e33
        clear hE67 a67
        refine wpList_val hE68 35 rfl rfl fun K hK => ?_
        have e34 := hE68.get 34 rfl
        go_simp
        refine hK _ _ fun a69 hE69 => ?_
        clear hK K e34
        clear hE68 a68
        refine wpList_gskip hE69 36 2 false 35 rfl rfl rfl rfl rfl fun a70 hE70 => ?_
        clear hE69 a69
        refine wpList_gskip hE70 37 2 false 35 rfl rfl rfl rfl rfl fun a71 hE71 => ?_
        clear hE70 a70
        refine wpList_gskip hE71 38 2 false 35 rfl rfl rfl rfl rfl fun a72 hE72 => ?_
        clear hE71 a71
        refine wpList_gskip hE72 39 2 false 35 rfl rfl rfl rfl rfl fun a73 hE73 => ?_
        clear hE72 a72
        refine wpList_gskip hE73 40 2 false 35 rfl rfl rfl rfl rfl fun a74 hE74 => ?_
        clear hE73 a73
        refine wpList_val hE74 41 rfl rfl fun K hK => ?_
        have e35 := hE74.get 35 rfl
        have e40 := hE74.get 40 rfl
        go_simp
        refine hK _ _ fun a75 hE75 => ?_
        clear hK K e35 e40
        clear hE74 a74
        refine wpList_nil ?_
        refine hways true (by rw [decide_eq_false h63]; rfl) _ (hE75.keep ⟨hE75.get 4 rfl, hE75.get 5 rfl, hE75.get 41 rfl, trivial⟩)
    intro t ht a2 hE2
    clear hbk2
    refine hK48 _ _ ?_
    clear hK48
    cases t with
    | true =>
      refine wp_if_t hE2 41 rfl ?_
      refine wp_seq_k fun K76 hK76 => ?_
      refine wp_region_lit ?_
      refine wpList_val hE2 2 rfl rfl fun K hK => ?_
      go_simp
      refine hK _ _ fun a77 hE77 => ?_
      clear hK K
      clear hE2 a2
      refine wpList_val hE77 3 rfl rfl fun K hK => ?_
      go_simp
      refine hK _ _ fun a78 hE78 => ?_
      clear hK K
      clear hE77 a77
      refine wpList_nil ?_
      refine hK76 _ _ ?_
      clear hK76
      refine wp_ret ?_
      have hbf : (decide (halves E ≤ 63) && decide (M % 2 ^ rest E = 0)) = false := by
        cases hx : (decide (halves E ≤ 63) && decide (M % 2 ^ rest E = 0))
        · rfl
        · rw [hx] at ht; cases ht
      have hno : ¬ (halves E ≤ 63 ∧ M % 2 ^ rest E = 0) := fun ⟨h1, h2⟩ => by simp [h1, h2] at hbf
      try simp only [Exit.then]
      refine bodyPost_ret (v := .tuple #[.int .u32 0, .bool false]) (by simp [results, Tryz.results77, go_sem, hE78.get 2 rfl, hE78.get 3 rfl]) hE78.defers ⟨by rw [if_neg hno, hbf], Below.refl _ _⟩
    | false =>
      have hyes : (decide (halves E ≤ 63) && decide (M % 2 ^ rest E = 0)) = true := by
        cases hx : (decide (halves E ≤ 63) && decide (M % 2 ^ rest E = 0))
        · rw [hx] at ht; cases ht
        · rfl
      have hy2 : halves E ≤ 63 ∧ M % 2 ^ rest E = 0 := by simpa using hyes
      have Hy := Lib.hid hyes
      have Hy2 := Lib.hid hy2
      clear hyes hy2 ht
      refine wp_if_f hE2 41 rfl ?_
      refine wp_skip ?_
      refine hK47 _ _ ?_
      clear hK47
      refine wp_seq_k fun K79 hK79 => ?_
      refine wp_region_lit ?_
      refine wpList_val hE2 42 rfl rfl fun K hK => ?_
      have e5 := hE2.get 5 rfl
      go_simp
      refine hK _ _ fun a80 hE80 => ?_
      clear hK K e5
      clear hE2 a2
      refine wpList_val hE80 43 rfl rfl fun K hK => ?_
      have e42 := hE80.get 42 rfl
      go_simp
      refine hK _ _ fun a81 hE81 => ?_
      clear hK K e42
      clear hE80 a80
      refine wpList_val hE81 44 rfl rfl fun K hK => ?_
      have e4 := hE81.get 4 rfl
      go_simp
      refine hK _ _ fun a82 hE82 => ?_
      clear hK K e4
      clear hE81 a81
      refine wpList_val hE82 45 rfl rfl fun K hK => ?_
      have e44 := hE82.get 44 rfl
      go_simp
      refine hK _ _ fun a83 hE83 => ?_
      clear hK K e44
      clear hE82 a82
      refine wpList_val hE83 46 rfl rfl fun K hK => ?_
      have e43 := hE83.get 43 rfl
      have e45 := hE83.get 45 rfl
      go_simp
      refine hK _ _ fun a84 hE84 => ?_
      clear hK K e43 e45
      clear hE83 a83
      refine wpList_val hE84 2 rfl rfl fun K hK => ?_
      have e46 := hE84.get 46 rfl
      go_simp
      refine hK _ _ fun a85 hE85 => ?_
      clear hK K e46
      clear hE84 a84
      refine wpList_val hE85 3 rfl rfl fun K hK => ?_
      go_simp
      refine hK _ _ fun a86 hE86 => ?_
      clear hK K
      clear hE85 a85
      refine wpList_nil ?_
      refine hK79 _ _ ?_
      clear hK79
      refine wp_ret ?_
      try simp only [Exit.inBlock, Exit.then]
      refine bodyPost_ret (v := .tuple #[.int .u32 (bits .or .u32 (IntKind.u32.wrap ((halves E : Int) * 262144)) (q : Int)), .bool true]) (by simp [results, Tryz.results77, go_sem, hE86.get 2 rfl, hE86.get 3 rfl]) hE86.defers ⟨by rw [if_pos Hy2.out, Hy.out, Hqe.out], Below.refl _ _⟩

theorem read_neg {n : Nat} (h : 2147483648 ≤ n) (h2 : n < 4294967296) : fullOf n = none := by
  have hs : Ieee.single.signWeight = 2147483648 := rfl
  have h3 : n / 2147483648 % 2 = 1 := by omega
  unfold fullOf Ieee.Format.read
  simp only [hs, h3]
  split
  · rename_i m p he
    exfalso
    split at he
    · injection he with he; cases he
    · split at he
      · injection he with he; cases he
      · split at he <;> cases he
  · rfl
theorem mantissa_any (b : Int) (w : World) (h0 : 0 ≤ b) (h1 : b < 4294967296) :
    Calls Tryz.prog 77 #[.int .u32 b] w fun e w' => e = .returned (.tuple #[.int .u32 (mantV b.toNat), .bool (mantF b.toNat)]) ∧ Below w.heap.size w w' := by
  have hnone : fullOf b.toNat = none → mantV b.toNat = 0 ∧ mantF b.toNat = false := fun h => by
    have : mantF b.toNat = false := by unfold mantF; rw [h]
    exact ⟨by unfold mantV; rw [this]; rfl, this⟩
  by_cases hs : 2147483648 ≤ b
  · obtain ⟨e1, e2⟩ := hnone (read_neg (by omega) (by omega))
    rw [e1, e2]
    cases hf : floatToFloatBits .f32 b.toNat .f64 with
    | none => exact mant_neg2 b w hs h1 hf
    | some r => exact mant_neg1 b w hs h1 r hf
  have hlt : b < 2147483648 := by omega
  cases hr : Ieee.single.read b.toNat with
  | nan s f =>
    obtain ⟨e1, e2⟩ := hnone (by unfold fullOf; rw [hr])
    rw [e1, e2]
    refine mant_nan b w h0 hlt ?_ ⟨s, f, hr⟩
    unfold floatToFloatBits
    rw [if_neg (by decide), show FloatKind.decode .f32 b.toNat = Ieee.single.read b.toNat from rfl, hr]
  | infinity s =>
    obtain ⟨e1, e2⟩ := hnone (by unfold fullOf; rw [hr])
    rw [e1, e2]
    have hsf : s = false := by
      have hs2 : Ieee.single.signWeight = 2147483648 := rfl
      have h3 : b.toNat / 2147483648 % 2 = 0 := by omega
      unfold Ieee.Format.read at hr
      simp only [hs2, h3] at hr
      split at hr
      · cases hr
      · split at hr
        · cases hr
        · split at hr
          · injection hr with hr; exact hr.symm
          · cases hr
    subst hsf
    refine mant_inf b w h0 hlt ?_
    unfold floatToFloatBits
    rw [if_neg (by decide), show FloatKind.decode .f32 b.toNat = Ieee.single.read b.toNat from rfl, hr]
    rfl
  | number s m p =>
    have hsf : s = false := by
      have hs2 : Ieee.single.signWeight = 2147483648 := rfl
      have h3 : b.toNat / 2147483648 % 2 = 0 := by omega
      unfold Ieee.Format.read at hr
      simp only [hs2, h3] at hr
      split at hr
      · injection hr with hr; exact hr.symm
      · split at hr
        · injection hr with hr; exact hr.symm
        · split at hr <;> cases hr
    subst hsf
    by_cases hm : m = 0
    · subst hm
      obtain ⟨e1, e2⟩ := hnone (by unfold fullOf; rw [hr]; rfl)
      rw [e1, e2]
      refine mant_zero b w h0 hlt ?_
      unfold floatToFloatBits
      rw [if_neg (by decide), show FloatKind.decode .f32 b.toNat = Ieee.single.read b.toNat from rfl, hr]
      rfl
    · have hf : fullOf b.toNat = some (m * 2 ^ (52 - m.log2), p - (52 - m.log2 : Nat)) := by
        unfold fullOf; rw [hr]; exact if_neg hm
      refine (mant_full b w h0 hlt _ _ hf).mono fun e w' h => ?_
      have e2 : mantF b.toNat = (decide (halves (p - (52 - m.log2 : Nat)) ≤ 63) && decide (m * 2 ^ (52 - m.log2) % 2 ^ rest (p - (52 - m.log2 : Nat)) = 0)) := by unfold mantF; rw [hf]
      have e3 : mantQ b.toNat = (halves (p - (52 - m.log2 : Nat)), m * 2 ^ (52 - m.log2) / 2 ^ rest (p - (52 - m.log2 : Nat))) := by unfold mantQ; rw [hf]
      have e1 : mantV b.toNat = if halves (p - (52 - m.log2 : Nat)) ≤ 63 ∧ m * 2 ^ (52 - m.log2) % 2 ^ rest (p - (52 - m.log2 : Nat)) = 0 then bits .or .u32 (IntKind.u32.wrap ((halves (p - (52 - m.log2 : Nat)) : Int) * 262144)) ((m * 2 ^ (52 - m.log2) / 2 ^ rest (p - (52 - m.log2 : Nat)) : Nat) : Int) else 0 := by
        unfold mantV
        rw [e2, e3]
        by_cases hc : halves (p - (52 - m.log2 : Nat)) ≤ 63 ∧ m * 2 ^ (52 - m.log2) % 2 ^ rest (p - (52 - m.log2 : Nat)) = 0
        · rw [if_pos hc, decide_eq_true hc.1, decide_eq_true hc.2]; rfl
        · rw [if_neg hc, if_neg]
          simpa using hc
      rw [e1, e2]
      exact h
theorem mantV_in (n : Nat) : 0 ≤ mantV n ∧ mantV n < 4294967296 := by
  unfold mantV
  split
  · have h1 := bits_lo_u32 .or (IntKind.u32.wrap (((mantQ n).1 : Int) * 262144)) ((mantQ n).2 : Nat); have h2 := bits_hi_u32 .or (IntKind.u32.wrap (((mantQ n).1 : Int) * 262144)) ((mantQ n).2 : Nat); omega
  · omega
end Go.Proofs.YtmmfpgoodfgkbaaGreat
