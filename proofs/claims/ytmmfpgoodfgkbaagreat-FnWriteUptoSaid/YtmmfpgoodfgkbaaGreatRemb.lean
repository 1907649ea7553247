/-
  THE WALK of the package's writing of a bitrate packet: the float is halved until it fits. Condition: the number can be written; at most 255 sources.
-/
import Derived.Test.YtmmfpgoodfgkbaaGreatMar
import Derived.Test.YtmmfpgoodfgkbaaGreatLens
import Derived.Test.YtmmfpgoodfgkbaaGreatFloatS
import Derived.Test.YtmmfpgoodfgkbaaGreatMant
namespace Go.Proofs.YtmmfpgoodfgkbaaGreat
open Go Go.RowKit
set_option linter.unusedVariables false
set_option linter.unusedSimpArgs false

section
variable {P : Program} {olds : Nat → Prop} {w0 : World} {n : Nat} {a : Act} {w : World} {Q : Exit → Act → World → Prop}
theorem cuo_pure {ps : List (Option Pc)} (f : FuncId) (args : Array Value) (v : Value)
    (h : ∀ w, Calls P f args w fun e w' => e = .returned v ∧ Below w.heap.size w w')
    (L : PL) (w : World) (_ : ps = ([] ++ []).map (lookP L)) (_ : Stp olds w0 w (restr ([] ++ []) (lookM (den olds w0 L)))) :
    Calls P f args w fun e w' => ∃ x : Pay, e = .returned v ∧ Stp (blksOf (lookM (den olds w0 L)) []) w w' (lookM (den olds w0 (zipW [] []))) :=
  (h w).mono fun e w' ⟨he, hB⟩ => ⟨pay0, he, stp_of_below hB⟩
/-- A call that writes into a buffer, and looks at memory that was there. -/
theorem cu_putB (k g : Nat) (bs bs' : List Int) (f : FuncId) (args : Array Value) (v : Value)
    (h : ∀ w, Below w0.heap.size w0 w → w0.heap.size ≤ w.heap.size → w0.heap.size ≤ g → Buf w g bs → Calls P f args w fun e w' => e = .returned v ∧ Buf w' g bs' ∧ w.grownBy w' (some g))
    (L : PL) (w : World) (hps : [some (Pc.buf g bs)] = ([] ++ [k]).map (lookP L)) (hS : Stp (fun _ => False) w0 w (restr ([] ++ [k]) (lookM (den (fun _ => False) w0 L)))) :
    Calls P f args w fun e w' => ∃ x : Pay, e = .returned v ∧ Stp (blksOf (lookM (den (fun _ => False) w0 L)) [k]) w w' (lookM (den (fun _ => False) w0 (zipW [k] [some (.buf g bs')]))) := by
  have hl : lookP L k = some (.buf g bs) := by simpa using hps.symm
  have hk : restr ([] ++ [k]) (lookM (den (fun _ => False) w0 L)) k = some (Pc.den (fun _ => False) w0 (.buf g bs)) := by simp [restr, hasN, lookM_den, hl]
  have hb : Buf w g bs := hS.blk k hk
  have hg0 := (hS.lt k _ hk g rfl).2.resolve_right id
  refine (h w hS.below hS.size hg0 hb).mono fun e w' ⟨he, hb', hg⟩ => ⟨pay0, he, ?_⟩
  exact stp_turn hl hg (fun g' e => by injection e with e; exact e.symm) hb' fun y hy => by
    have : y = g := hy
    subst this
    exact ⟨hb'.lt, .inr rfl⟩
/-- Two ways that meet again. -/
theorem seq_join {X : Type} {c y : Code} {l0 : List (Nat × Value)} {L0 : PL} (_ : Env n l0 a) (_ : Stp olds w0 w (lookM (den olds w0 L0))) (I : X → Prop) (J : X → List (Nat × Value)) (L : PL) (h1 : ∀ K : Act → World → Prop, (∀ (x : X) (a' : Act) (w' : World) (lc : List (Nat × Value)) (Lc : PL), I x → Env n lc a' → Stp olds w0 w' (lookM (den olds w0 Lc)) → (endChk ⟨lc, Lc⟩ ⟨J x, L⟩).map (·.1) = (endChk ⟨lc, Lc⟩ ⟨J x, L⟩).map (·.2) → K a' w') → c.wp P (Exit.then K Q) a w)
    (h2 : ∀ x a' w', I x → Env n (J x) a' → Stp olds w0 w' (lookM (den olds w0 L)) → y.wp P Q a' w') : (Code.seq c y).wp P Q a w :=
  wp_seq (h1 _ fun x a' w' lc Lc hI hE hS hc => h2 x a' w' hI (end_env (s' := ⟨J x, L⟩) (fst_snd hc) hE) (end_mem (s' := ⟨J x, L⟩) (fst_snd hc) hS))
theorem ifT {x z : Code} (h : x.wp P Q a w) : (Code.cond (.const (.bool true)) x z).wp P Q a w := wp_cond rfl h
theorem f_quo {t : TypeId} {x y : Nat} (h : Ieee.single.div x sTwo = some y) : ∀ w, ((do let v ← binOp .quo t (.float .f32 x) (.float .f32 1073741824); pure (Next.value v) : Sem Next).run P w) = .ok (.value (.float .f32 y)) w := fun w => by
  rw [Sem.run_bind, run_float_arith w .quo t .f32 x 1073741824 y h]; rfl
theorem f_wide {t1 t2 : TypeId} {b r : Nat} (hs : (P.underlying t1).isSome = true) (hd : P.underlying t2 = some (.float .f64)) (h : floatToFloatBits .f32 b .f64 = some r) : ∀ w, ((do let v ← convert t1 t2 (.float .f32 b); pure (Next.value v) : Sem Next).run P w) = .ok (.value (.float .f64 r)) w := fun w => by
  rw [Sem.run_bind, conv_some hs hd h]; rfl
theorem f_int {t1 t2 : TypeId} {b : Nat} {m : Int} (hs : (P.underlying t1).isSome = true) (hd : P.underlying t2 = some (.int .u64)) (h : floatToIntVal .f64 b .u64 = some m) : ∀ w, ((do let v ← convert t1 t2 (.float .f64 b); pure (Next.value v) : Sem Next).run P w) = .ok (.value (.int .u64 m)) w := fun w => by
  rw [Sem.run_bind, run_convert_float_int w t1 t2 .f64 .u64 b m hs hd h]; rfl
theorem run_ext {f : FuncId} {fn : Func} {args : Array Value} {v : Value} (hf : P.funcs[f]? = some fn) (hn : (fn.name == "runtime.NumGoroutine") = false) (hb : fn.body.isNone = true) (h1 : (Extern.findNext fn).isNone = true) (h2 : (Extern.find fn).isSome = true) (h3 : ∀ w, (((Extern.find fn).getD fun _ => pure undef) args).run P w = .ok v w) : ∀ w, (callFunc f args).run P w = .ok (.value v) w := fun w => by
  cases hq : Extern.findNext fn with
  | some _ => rw [hq] at h1; cases h1
  | none =>
    cases hr : Extern.find fn with
    | none => rw [hr] at h2; cases h2
    | some e =>
      have h4 := h3 w
      rw [hr] at h4
      have hb' := Option.isNone_iff_eq_none.1 hb
      have hn' : ¬ fn.name = "runtime.NumGoroutine" := by simpa using hn
      have h5 : (e args).run P w = .ok v w := h4
      simp [callFunc, hf, hn', hb', hq, hr, h5]
end
theorem f_floor {P : Program} {x M : Nat} {E : Int} {r : Nat} (h1 : FloatKind.f64.decode x = .number false M E) (h2 : FloatKind.f64.encode ((Ieee.Datum.number false M E).integral .down) = r) : ∀ w, (Extern.MathFloor.toIntegral "math.archFloor" .down #[.float .f64 x]).run P w = .ok (.float .f64 r) w := fun w => by
  delta Extern.MathFloor.toIntegral Extern.MathFloor.toIntegral.match_2
  dsimp only
  rw [dif_pos (by rfl)]
  delta Extern.MathFloor.toIntegral._sparseCasesOn_2 Extern.MathFloor.toIntegral._sparseCasesOn_3
  simp [Array.getLit, h1, ← h2]
theorem or32k {x y : Int} (i : Nat) (hx0 : 0 ≤ x) (hx : x % 2 ^ i = 0) (hx1 : x < 4294967296) (hy0 : 0 ≤ y) (hy : y < 2 ^ i) (hy1 : y < 4294967296) : bits .or .u32 x y = x + y :=
  bits_join .u32 32 (by decide) (fun n h0 h1 => by rw [IntKind.wrap_u32]; omega) i x y hx0 hx (by omega) hy0 hy (by omega)
theorem or8k {x y : Int} (i : Nat) (hx0 : 0 ≤ x) (hx : x % 2 ^ i = 0) (hx1 : x < 256) (hy0 : 0 ≤ y) (hy : y < 2 ^ i) (hy1 : y < 256) : bits .or .u8 x y = x + y :=
  bits_join .u8 8 (by decide) (fun n h0 h1 => by rw [IntKind.wrap_u8]; omega) i x y hx0 hx (by omega) hy0 hy (by omega)
theorem mantV_sum {b M : Nat} {E : Int} (h : fullOf b = some (M, E)) (hm : mantF b = true) : mantV b = (halves E : Nat) * 262144 + (M / 2 ^ rest E : Nat) ∧ ((M / 2 ^ rest E : Nat) : Int) < 262144 ∧ 0 < M / 2 ^ rest E ∧ M / 2 ^ rest E < 2 ^ 18 ∧ halves E ≤ 63 := by
  obtain ⟨h0, h1, h2, h3⟩ := mantQ_pos h hm
  have h18 : (2 : Nat) ^ 18 = 262144 := by decide
  have hq : mantQ b = (halves E, M / 2 ^ rest E) := by unfold mantQ; rw [h]
  refine ⟨?_, by rw [h18] at h1; omega, h0, h1, h2⟩
  unfold mantV
  rw [if_pos hm, hq]
  rw [h18] at h1
  have hw : IntKind.u32.wrap (((halves E : Nat) : Int) * 262144) = ((halves E : Nat) : Int) * 262144 := by rw [IntKind.wrap_u32]; omega
  show bits .or .u32 (IntKind.u32.wrap (((halves E : Nat) : Int) * 262144)) ((M / 2 ^ rest E : Nat) : Int) = _
  rw [hw]
  generalize M / 2 ^ rest E = q at h1 ⊢
  exact or32k 18 (by omega) (by omega) (by omega) (by omega) (by omega) (by omega)
theorem full_of_mant {b : Nat} (h : mantF b = true) : ∃ M E, fullOf b = some (M, E) := by
  unfold mantF at h
  split at h
  · cases h
  · rename_i M E he; exact ⟨M, E, he⟩
set_option maxRecDepth 100000 in
theorem floor_any {M : Nat} {E : Int} (x r : Nat) (w : World) (h1 : FloatKind.f64.decode x = .number false M E) (h2 : FloatKind.f64.encode ((Ieee.Datum.number false M E).integral .down) = r) : Calls Tryz.prog 182 #[.float .f64 x] w fun e w' => e = .returned (.float .f64 r) ∧ Below w.heap.size w w' := by
  refine go_in Tryz.func182 rfl Tryz.ntmps182 [.float .f64 x] fun a hE => ?_
  have hS := stp_in w
  refine rg hE hS [pu] (fun _ => kp []) (fun _ => kP []) fun _ a u hE hS => ?_
  refine wp_seq (ifT ?_)
  refine rgp hE hS [pu, pf (.float .f64 r), pu] (fun _ => kp [(2, .float .f64 r)]) (fun _ => kP []) (fun _ => ⟨kr (run_ext (P := Tryz.prog) (f := 183) (args := #[.float .f64 x]) (v := .float .f64 r) (hf := rfl) (by kernel_rfl) (by kernel_rfl) (by kernel_rfl) (by kernel_rfl) (kr (f_floor (P := Tryz.prog) h1 h2))), trivial⟩) fun _ a u hE hS => ?_
  refine wp_ret (thR ?_)
  exact ret1 hE Tryz.results182 (.float .f64 r) ⟨rfl, hS.below⟩
set_option maxHeartbeats 8000000 in
set_option maxRecDepth 100000 in
theorem rembTo_any (g B0 : Nat) (s : Int) (b : Nat) (A : Option Addr) (c : Nat) (l : List Int) (w : World) (hb : Buf w g (List.replicate (20 + 4 * l.length) 0)) (hr : Reads w B0 1 A l.length (l.flatMap u32c)) (hB0 : B0 ≤ g) (hl : l.length ≤ 255) (hok : ∀ x ∈ l, 0 ≤ x ∧ x < 4294967296) (hs : 0 ≤ s ∧ s < 4294967296) (hm : mantF b = true) :
    Calls Tryz.prog 180 #[.agg #[.int .u32 s, .float .f32 b, .slice A (l.length : Nat) c], .slice (some ⟨g, 0, none⟩) (20 + 4 * l.length : Nat) (20 + 4 * l.length : Nat)] w fun e w' => e = .returned (.tuple #[.int .i64 (20 + 4 * l.length : Nat), .nilIface]) ∧ Buf w' g (hdrB 15 206 ((((20 + 4 * l.length : Nat) : Int) / 4 - 1) % 65536) ++ (be32 s ++ be32 0 ++ [82, 69, 77, 66, (l.length : Int) % 256, mantV b / 65536 % 256, mantV b / 256 % 256, mantV b % 256] ++ l.flatMap be32)) ∧ w.grownBy w' (some g) := by
  obtain ⟨N, hN⟩ : ∃ N, N = 20 + 4 * l.length := ⟨_, rfl⟩
  rw [← hN] at hb ⊢
  rw [pz_start0 N] at hb
  obtain ⟨M, E, hF⟩ := full_of_mant hm
  obtain ⟨hv, hq1, hq0, hq18, hh⟩ := mantV_sum hF hm
  have hfl := fl_len l be32 4 (fun _ => rfl)
  have hgw := hb.lt
  obtain ⟨hf1, hf2, hf3, hf4, _⟩ := fullOf_some hF
  have hq : IntKind.i64.wrap (Int.tdiv ((N : Nat) : Int) 4) = (N : Int) / 4 := by rw [Int.tdiv_eq_ediv_of_nonneg (by omega), IntWalk.i64_in _ (by omega)]
  have hq2 : IntKind.i64.wrap ((N : Int) / 4 - 1) = (N : Int) / 4 - 1 := IntWalk.i64_in _ (by omega)
  refine go_in Tryz.func180 rfl Tryz.ntmps180 [.agg #[.int .u32 s, .float .f32 b, .slice A (l.length : Nat) c], sv g 0 N N] fun a hE => ?_
  have hS := stp_buf1 hb
  refine rg hE hS [nw 101, pu, pu] (fun p1 => kp [(2, pt (p1 0).g 0), (4, .int .i64 0), (5, .nilIface)]) (fun p1 => kP [(101, some (.blk (p1 0).g 199 #[.int .u32 s, .float .f32 b, .slice A (l.length : Nat) c]))]) fun p1 a u hE hS => ?_
  refine rgp hE hS [ld 101, cu 178 [] [] (fun _ => .int .i64 (N : Nat)) (fun _ => []), pu] (fun _ => kp [(6, .int .i64 (N : Nat))]) (fun _ => kP []) (fun _ => ⟨kr (cuo_pure (P := Tryz.prog) (olds := (· = g)) (w0 := w) (ps := []) 178 #[.agg #[.int .u32 s, .float .f32 b, .slice A (l.length : Nat) c]] (.int .i64 (N : Nat)) (fun w4 => by rw [hN]; exact rembsize_any w4 A l.length c _ _ rfl rfl (by omega))), trivial⟩) fun _ a u hE hS => ?_
  refine wp_seq ?_
  refine rgp hE hS [pu, pu, pu, pe (.bool false)] (fun _ => kp [(18, .bool false)]) (fun _ => kP []) (fun _ => ⟨kr (congrArg Value.bool (decide_eq_false (show ¬ ((N : Nat) : Int) < ((N : Nat) : Int) by omega))), trivial⟩) fun _ a u hE hS => ?_
  refine iff hE ?_
  refine wp_skip ?_
  refine rgp hE hS [pu, ix, sbt 1] (fun _ => kp []) (fun _ => kP [(1, some (.buf g ((pz [] N).set 0 143)))]) (fun _ => ⟨kr (show 0 < N by omega), kr (show 0 < (pz [] N).length by rw [pz_len _ _ (by simp only [List.length_append, List.length_cons, List.length_nil, be32_len, be16_len]; omega)]; omega), trivial⟩) fun _ a u hE hS => ?_
  rw [put_one _ _ _ (by rw [pz_len _ _ (by simp only [List.length_append, List.length_cons, List.length_nil, be32_len, be16_len]; omega)]; omega), put_pz ([]) [143] N 0 rfl (by simp only [List.length_cons, List.length_nil]; omega)] at hS
  refine rgp hE hS [pu, ix, sbt 1] (fun _ => kp []) (fun _ => kP [(1, some (.buf g ((pz ([143]) N).set 1 206)))]) (fun _ => ⟨kr (show 1 < N by omega), kr (show 1 < (pz ([143]) N).length by rw [pz_len _ _ (by simp only [List.length_append, List.length_cons, List.length_nil, be32_len, be16_len]; omega)]; omega), trivial⟩) fun _ a u hE hS => ?_
  rw [put_one _ _ _ (by rw [pz_len _ _ (by simp only [List.length_append, List.length_cons, List.length_nil, be32_len, be16_len]; omega)]; omega), put_pz ([143]) [206] N 1 rfl (by simp only [List.length_cons, List.length_nil]; omega)] at hS
  refine rgp hE hS [ld 101, cu 178 [] [] (fun _ => .int .i64 (N : Nat)) (fun _ => []), pe (.int .i64 (((N : Nat) : Int) / 4)), pe (.int .i64 (((N : Nat) : Int) / 4 - 1)), pu, pu] (fun _ => kp [(7, .int .u16 ((((N : Nat) : Int) / 4 - 1) % 65536))]) (fun _ => kP []) (fun _ => ⟨kr (cuo_pure (P := Tryz.prog) (olds := (· = g)) (w0 := w) (ps := []) 178 #[.agg #[.int .u32 s, .float .f32 b, .slice A (l.length : Nat) c]] (.int .i64 (N : Nat)) (fun w4 => by rw [hN]; exact rembsize_any w4 A l.length c _ _ rfl rfl (by omega))), kr (congrArg (Value.int .i64) hq), kr (congrArg (Value.int .i64) hq2), trivial⟩) fun _ a u hE hS => ?_
  refine rgp hE hS [pu, sc, pu, cl put16c [] [1]] (fun _ => kp []) (fun _ => kP [(1, some (.buf g (put (pz ([143] ++ [206]) N) (2) (be16 (((((N : Nat) : Int) / 4 - 1) % 65536))))))]) (fun _ => ⟨kr (show 2 ≤ 4 ∧ 4 ≤ N ∧ (2 < N ∨ 2 = 0) by omega), kr (show 2 ≤ 2 ∧ 2 + 2 ≤ (pz ([143] ++ [206]) N).length ∧ 0 ≤ ((((N : Nat) : Int) / 4 - 1) % 65536) ∧ ((((N : Nat) : Int) / 4 - 1) % 65536) < 65536 from ⟨by omega, by rw [pz_len _ _ (by simp only [List.length_append, List.length_cons, List.length_nil, be32_len, be16_len]; omega)]; omega, by omega, by omega⟩), trivial⟩) fun _ a u hE hS => ?_
  rw [put_pz ([143] ++ [206]) (be16 ((((N : Nat) : Int) / 4 - 1) % 65536)) N (2) rfl (by simp only [be32_len, be16_len]; omega)] at hS
  refine dgp hE hS [pu, sc, pu, ld 101, cl put32c [] [1]] (fun _ => kp []) (fun _ => kP [(1, some (.buf g (put (pz ([143] ++ [206] ++ be16 ((((N : Nat) : Int) / 4 - 1) % 65536)) N) (4) (be32 s))))]) (fun _ => ⟨kr (show 4 ≤ 8 ∧ 8 ≤ N ∧ (4 < N ∨ 4 = 0) by omega), kr (show 4 ≤ 4 ∧ 4 + 4 ≤ (pz ([143] ++ [206] ++ be16 ((((N : Nat) : Int) / 4 - 1) % 65536)) N).length ∧ 0 ≤ s ∧ s < 4294967296 from ⟨by omega, by rw [pz_len _ _ (by simp only [List.length_append, List.length_cons, List.length_nil, be32_len, be16_len]; omega)]; omega, hs.1, hs.2⟩), trivial⟩) fun _ a u hE hS => ?_
  rw [put_pz ([143] ++ [206] ++ be16 ((((N : Nat) : Int) / 4 - 1) % 65536)) (be32 s) N (4) rfl (by simp only [be32_len, be16_len]; omega)] at hS
  refine rgp hE hS [pu, sc, cl put32c [] [1]] (fun _ => kp []) (fun _ => kP [(1, some (.buf g (put (pz ([143] ++ [206] ++ be16 ((((N : Nat) : Int) / 4 - 1) % 65536) ++ be32 s) N) (8) (be32 (0 : Int)))))]) (fun _ => ⟨kr (show 8 ≤ 12 ∧ 12 ≤ N ∧ (8 < N ∨ 8 = 0) by omega), kr (show 4 ≤ 4 ∧ 8 + 4 ≤ (pz ([143] ++ [206] ++ be16 ((((N : Nat) : Int) / 4 - 1) % 65536) ++ be32 s) N).length ∧ 0 ≤ (0 : Int) ∧ (0 : Int) < 4294967296 from ⟨by omega, by rw [pz_len _ _ (by simp only [List.length_append, List.length_cons, List.length_nil, be32_len, be16_len]; omega)]; omega, by decide, by decide⟩), trivial⟩) fun _ a u hE hS => ?_
  rw [put_pz ([143] ++ [206] ++ be16 ((((N : Nat) : Int) / 4 - 1) % 65536) ++ be32 s) (be32 (0 : Int)) N (8) rfl (by simp only [be32_len, be16_len]; omega)] at hS
  refine rgp hE hS [pu, ix, sbt 1] (fun _ => kp []) (fun _ => kP [(1, some (.buf g ((pz ([143] ++ [206] ++ be16 ((((N : Nat) : Int) / 4 - 1) % 65536) ++ be32 s ++ be32 (0 : Int)) N).set 12 82)))]) (fun _ => ⟨kr (show 12 < N by omega), kr (show 12 < (pz ([143] ++ [206] ++ be16 ((((N : Nat) : Int) / 4 - 1) % 65536) ++ be32 s ++ be32 (0 : Int)) N).length by rw [pz_len _ _ (by simp only [List.length_append, List.length_cons, List.length_nil, be32_len, be16_len]; omega)]; omega), trivial⟩) fun _ a u hE hS => ?_
  rw [put_one _ _ _ (by rw [pz_len _ _ (by simp only [List.length_append, List.length_cons, List.length_nil, be32_len, be16_len]; omega)]; omega), put_pz ([143] ++ [206] ++ be16 ((((N : Nat) : Int) / 4 - 1) % 65536) ++ be32 s ++ be32 (0 : Int)) [82] N 12 rfl (by simp only [List.length_cons, List.length_nil]; omega)] at hS
  refine rgp hE hS [pu, ix, sbt 1] (fun _ => kp []) (fun _ => kP [(1, some (.buf g ((pz ([143] ++ [206] ++ be16 ((((N : Nat) : Int) / 4 - 1) % 65536) ++ be32 s ++ be32 (0 : Int) ++ [82]) N).set 13 69)))]) (fun _ => ⟨kr (show 13 < N by omega), kr (show 13 < (pz ([143] ++ [206] ++ be16 ((((N : Nat) : Int) / 4 - 1) % 65536) ++ be32 s ++ be32 (0 : Int) ++ [82]) N).length by rw [pz_len _ _ (by simp only [List.length_append, List.length_cons, List.length_nil, be32_len, be16_len]; omega)]; omega), trivial⟩) fun _ a u hE hS => ?_
  rw [put_one _ _ _ (by rw [pz_len _ _ (by simp only [List.length_append, List.length_cons, List.length_nil, be32_len, be16_len]; omega)]; omega), put_pz ([143] ++ [206] ++ be16 ((((N : Nat) : Int) / 4 - 1) % 65536) ++ be32 s ++ be32 (0 : Int) ++ [82]) [69] N 13 rfl (by simp only [List.length_cons, List.length_nil]; omega)] at hS
  refine rgp hE hS [pu, ix, sbt 1] (fun _ => kp []) (fun _ => kP [(1, some (.buf g ((pz ([143] ++ [206] ++ be16 ((((N : Nat) : Int) / 4 - 1) % 65536) ++ be32 s ++ be32 (0 : Int) ++ [82] ++ [69]) N).set 14 77)))]) (fun _ => ⟨kr (show 14 < N by omega), kr (show 14 < (pz ([143] ++ [206] ++ be16 ((((N : Nat) : Int) / 4 - 1) % 65536) ++ be32 s ++ be32 (0 : Int) ++ [82] ++ [69]) N).length by rw [pz_len _ _ (by simp only [List.length_append, List.length_cons, List.length_nil, be32_len, be16_len]; omega)]; omega), trivial⟩) fun _ a u hE hS => ?_
  rw [put_one _ _ _ (by rw [pz_len _ _ (by simp only [List.length_append, List.length_cons, List.length_nil, be32_len, be16_len]; omega)]; omega), put_pz ([143] ++ [206] ++ be16 ((((N : Nat) : Int) / 4 - 1) % 65536) ++ be32 s ++ be32 (0 : Int) ++ [82] ++ [69]) [77] N 14 rfl (by simp only [List.length_cons, List.length_nil]; omega)] at hS
  refine rgp hE hS [pu, ix, sbt 1] (fun _ => kp []) (fun _ => kP [(1, some (.buf g ((pz ([143] ++ [206] ++ be16 ((((N : Nat) : Int) / 4 - 1) % 65536) ++ be32 s ++ be32 (0 : Int) ++ [82] ++ [69] ++ [77]) N).set 15 66)))]) (fun _ => ⟨kr (show 15 < N by omega), kr (show 15 < (pz ([143] ++ [206] ++ be16 ((((N : Nat) : Int) / 4 - 1) % 65536) ++ be32 s ++ be32 (0 : Int) ++ [82] ++ [69] ++ [77]) N).length by rw [pz_len _ _ (by simp only [List.length_append, List.length_cons, List.length_nil, be32_len, be16_len]; omega)]; omega), trivial⟩) fun _ a u hE hS => ?_
  rw [put_one _ _ _ (by rw [pz_len _ _ (by simp only [List.length_append, List.length_cons, List.length_nil, be32_len, be16_len]; omega)]; omega), put_pz ([143] ++ [206] ++ be16 ((((N : Nat) : Int) / 4 - 1) % 65536) ++ be32 s ++ be32 (0 : Int) ++ [82] ++ [69] ++ [77]) [66] N 15 rfl (by simp only [List.length_cons, List.length_nil]; omega)] at hS
  refine wp_seq ?_
  refine rgp hE hS [pu, ld 101, pu, pe (.bool false)] (fun _ => kp [(52, .bool false)]) (fun _ => kP []) (fun _ => ⟨kr (congrArg Value.bool (decide_eq_false (show ¬ (((l.length : Nat) : Int) > 255) by omega))), trivial⟩) fun _ a u hE hS => ?_
  refine iff hE ?_
  refine wp_skip ?_
  refine rgp hE hS [pu, pu, ld 101, pu, pu, ix, sbt 1] (fun _ => kp []) (fun _ => kP [(1, some (.buf g ((pz ([143] ++ [206] ++ be16 ((((N : Nat) : Int) / 4 - 1) % 65536) ++ be32 s ++ be32 (0 : Int) ++ [82] ++ [69] ++ [77] ++ [66]) N).set 16 ((l.length : Int) % 256))))]) (fun _ => ⟨kr (show 16 < N by omega), kr (show 16 < (pz ([143] ++ [206] ++ be16 ((((N : Nat) : Int) / 4 - 1) % 65536) ++ be32 s ++ be32 (0 : Int) ++ [82] ++ [69] ++ [77] ++ [66]) N).length by rw [pz_len _ _ (by simp only [List.length_append, List.length_cons, List.length_nil, be32_len, be16_len]; omega)]; omega), trivial⟩) fun _ a u hE hS => ?_
  rw [put_one _ _ _ (by rw [pz_len _ _ (by simp only [List.length_append, List.length_cons, List.length_nil, be32_len, be16_len]; omega)]; omega), put_pz ([143] ++ [206] ++ be16 ((((N : Nat) : Int) / 4 - 1) % 65536) ++ be32 s ++ be32 (0 : Int) ++ [82] ++ [69] ++ [77] ++ [66]) [(l.length : Int) % 256] N 16 rfl (by simp only [List.length_cons, List.length_nil]; omega)] at hS
  refine rg hE hS [pu] (fun _ => kp [(8, .int .i64 (0 : Nat))]) (fun _ => kP []) fun _ a u hE hS => ?_
  refine rg hE hS [pu, ld 101, pu] (fun _ => kp [(9, .float .f32 b)]) (fun _ => kP []) fun _ a u hE hS => ?_
  refine seq_join hE hS (fun (x : Nat) => fullOf x = some (M, E)) (fun x => (9, .float .f32 x) :: [(1, sv g 0 N N), (2, pt (p1 0).g 0), (8, .int .i64 (0 : Nat))]) [(1, some (.buf g (pz ([143] ++ [206] ++ be16 ((((N : Nat) : Int) / 4 - 1) % 65536) ++ be32 s ++ be32 (0 : Int) ++ [82] ++ [69] ++ [77] ++ [66] ++ [(l.length : Int) % 256]) N))), (101, some (.blk (p1 0).g 199 #[.int .u32 s, .float .f32 b, .slice A (l.length : Nat) c]))] (fun K hK => ?_) fun x a u hx hE hS => ?_
  · skip
    generalize hgx : (Ieee.single.order b sMax == some .gt || Ieee.single.order b sMax == some .eq) = gx
    refine rgp hE hS [pu, pe (.bool gx)] (fun _ => kn [(63, .bool gx)] [1, 2, 8, 9]) (fun _ => kN [] [1, 101]) (fun _ => ⟨kr (congrArg Value.bool hgx), trivial⟩) fun _ a u hE hS => ?_
    cases gx with
    | true =>
      refine ift hE ?_
      refine rgE hE hS [pu] (fun _ => kp [(9, .float .f32 1744830400)]) (fun _ => kP []) (fun _ => trivial) fun _ a u hE hS => ?_
      exact hK 1744830400 a u _ _ (s_max hF hm hgx) hE hS (by kernel_rfl)
    | false =>
      refine iff hE (wp_skip ?_)
      exact hK b a _ _ _ hF hE hS (by kernel_rfl)
  refine wp_seq ?_
  refine rgp hE hS [pu, pe (.bool false)] (fun _ => kp [(65, .bool false)]) (fun _ => kP []) (fun _ => ⟨kr (congrArg Value.bool (s_pos hx)), trivial⟩) fun _ a u hE hS => ?_
  refine iff hE ?_
  refine wp_skip ?_
  refine wp_seq ?_
  refine wp_block ?_
  refine loop_k hE hS (halves E) (fun k x => kd [8, 9] [(8, .int .i64 (k : Nat)), (9, .float .f32 x)]) (fun _ _ => kP []) (fun k (x : Nat) => fullOf x = some (M, E - (k : Nat))) x (by simpa using hx) ?_
  intro k x a u hk hI hE hS K hK
  have hg := s_geq18 hI
  by_cases hlt : k < halves E
  · have hge : -34 ≤ E - (k : Nat) := by unfold halves at hlt; omega
    rw [decide_eq_true hge] at hg
    obtain ⟨y, hy1, hy2⟩ := s_halve hI hge
    refine wp_seq ?_
    refine rgp hE hS [pu, pe (.bool true)] (fun _ => kp [(68, .bool true)]) (fun _ => kP []) (fun _ => ⟨kr (congrArg Value.bool hg), trivial⟩) fun _ a u hE hS => ?_
    refine ift hE ?_
    refine wp_skip ?_
    refine wp_block ?_
    refine rgp hE hS [pu, pf (.float .f32 y), pu] (fun _ => kp [(9, .float .f32 y)]) (fun _ => kP []) (fun _ => ⟨kr (f_quo (P := Tryz.prog) (t := 196) hy1), trivial⟩) fun _ a u hE hS => ?_
    refine rgE hE hS [pu, pe (.int .i64 ((k + 1 : Nat) : Int)), pu] (fun _ => kp [(8, .int .i64 (k + 1 : Nat))]) (fun _ => kP []) (fun _ => ⟨kr (congrArg (Value.int .i64) (show IntKind.i64.wrap (((k : Nat) : Int) + (1 : Int)) = ((k + 1 : Nat) : Int) from by rw [IntWalk.i64_in _ (by omega)]; omega)), trivial⟩) fun _ a u hE hS => ?_
    exact hK y a u _ _ hlt (by rw [hy2, show E - ((k + 1 : Nat) : Int) = E - (k : Nat) - 1 by omega]) hE hS (by kernel_rfl)
  · obtain rfl : k = halves E := by omega
    rw [decide_eq_false (by unfold halves; omega)] at hg
    refine wp_seq ?_
    refine rgp hE hS [pu, pe (.bool false)] (fun _ => kp [(68, .bool false)]) (fun _ => kP []) (fun _ => ⟨kr (congrArg Value.bool hg), trivial⟩) fun _ a u hE hS => ?_
    refine iff hE ?_
    refine wp_exit ?_
    refine wp_seq ?_
    refine rgp hE hS [pu, pe (.bool false)] (fun _ => kp [(74, .bool false)]) (fun _ => kP []) (fun _ => ⟨kr (congrArg Value.bool (decide_eq_false (show ¬ (((halves E : Nat) : Int) ≥ 64) by omega))), trivial⟩) fun _ a u hE hS => ?_
    refine iff hE ?_
    refine wp_skip ?_
    have hw := widen hI
    obtain ⟨hfd, hfe⟩ := s_floor (E := E) hf1 hf2 (by omega) (by omega)
    have hfi := flo_int _ hq0 hq18
    generalize hqq : M / 2 ^ rest E = q at hv hq1 hq0 hq18 hfe hfi
    refine rgp hE hS [pu, pf (.float .f64 (wd Ieee.double M (E - (halves E : Nat)))), cu 182 [] [] (fun _ => .float .f64 (flo q)) (fun _ => []), pf (.int .u64 (q : Nat)), pu] (fun _ => kn [(10, .int .u64 (q : Nat))] [1, 2, 8]) (fun _ => kN [] [1, 101]) (fun _ => ⟨kr (f_wide (P := Tryz.prog) (t1 := 196) (t2 := 256) (by kernel_rfl) Tryz.underlying256 hw), kr (cuo_pure (P := Tryz.prog) (olds := (· = g)) (w0 := w) (ps := []) 182 #[.float .f64 (wd Ieee.double M (E - (halves E : Nat)))] (.float .f64 (flo q)) (fun w4 => floor_any (wd Ieee.double M (E - (halves E : Nat))) (flo q) w4 hfd hfe)), kr (f_int (P := Tryz.prog) (t1 := 256) (t2 := 204) (by kernel_rfl) Tryz.underlying204 hfi), trivial⟩) fun _ a u hE hS => ?_
    generalize hhh : halves E = h at hE hv hh
    have e1 : IntKind.i64.wrap ((h : Int) * 4) = (h : Int) * 4 := IntWalk.i64_in _ (by omega)
    have e2 : IntKind.u8.wrap ((h : Int) * 4) = (h : Int) * 4 := by rw [IntKind.wrap_u8]; omega
    have e3 : IntKind.u8.wrap ((q : Int).fdiv 65536) = (q : Int) / 65536 := by rw [IntKind.wrap_u8, Int.fdiv_eq_ediv_of_nonneg _ (by omega)]; omega
    have e4 : bits .or .u8 ((h : Int) * 4) ((q : Int) / 65536) = (mantV b) / 65536 % 256 := by rw [or8k 2 (by omega) (by omega) (by omega) (by omega) (by omega) (by omega), hv]; omega
    have e5 : IntKind.u8.wrap ((q : Int).fdiv 256) = (mantV b) / 256 % 256 := by rw [IntKind.wrap_u8, Int.fdiv_eq_ediv_of_nonneg _ (by omega), hv]; omega
    have e6 : IntKind.u8.wrap (q : Int) = (mantV b) % 256 := by rw [IntKind.wrap_u8, hv]; omega
    refine rgp hE hS [pu, pu, pe (.int .i64 ((h : Int) * 4)), pe (.int .u8 ((h : Int) * 4)), pu, pu, pe (.int .u8 ((q : Int) / 65536)), pe (.int .u8 ((mantV b) / 65536 % 256)), ix, sbt 1] (fun _ => kp []) (fun _ => kP [(1, some (.buf g ((pz ([143] ++ [206] ++ be16 ((((N : Nat) : Int) / 4 - 1) % 65536) ++ be32 s ++ be32 (0 : Int) ++ [82] ++ [69] ++ [77] ++ [66] ++ [(l.length : Int) % 256]) N).set 17 ((mantV b) / 65536 % 256))))]) (fun _ => ⟨kr (congrArg (Value.int .i64) e1), kr (congrArg (Value.int .u8) e2), kr (congrArg (Value.int .u8) e3), kr (congrArg (Value.int .u8) e4), kr (show 17 < N by omega), kr (show 17 < (pz ([143] ++ [206] ++ be16 ((((N : Nat) : Int) / 4 - 1) % 65536) ++ be32 s ++ be32 (0 : Int) ++ [82] ++ [69] ++ [77] ++ [66] ++ [(l.length : Int) % 256]) N).length by rw [pz_len _ _ (by simp only [List.length_append, List.length_cons, List.length_nil, be32_len, be16_len]; omega)]; omega), trivial⟩) fun _ a u hE hS => ?_
    rw [put_one _ _ _ (by rw [pz_len _ _ (by simp only [List.length_append, List.length_cons, List.length_nil, be32_len, be16_len]; omega)]; omega), put_pz ([143] ++ [206] ++ be16 ((((N : Nat) : Int) / 4 - 1) % 65536) ++ be32 s ++ be32 (0 : Int) ++ [82] ++ [69] ++ [77] ++ [66] ++ [(l.length : Int) % 256]) [(mantV b) / 65536 % 256] N 17 rfl (by simp only [List.length_cons, List.length_nil]; omega)] at hS
    refine rgp hE hS [pu, pu, pu, pe (.int .u8 ((mantV b) / 256 % 256)), ix, sbt 1] (fun _ => kp []) (fun _ => kP [(1, some (.buf g ((pz ([143] ++ [206] ++ be16 ((((N : Nat) : Int) / 4 - 1) % 65536) ++ be32 s ++ be32 (0 : Int) ++ [82] ++ [69] ++ [77] ++ [66] ++ [(l.length : Int) % 256] ++ [(mantV b) / 65536 % 256]) N).set 18 ((mantV b) / 256 % 256))))]) (fun _ => ⟨kr (congrArg (Value.int .u8) e5), kr (show 18 < N by omega), kr (show 18 < (pz ([143] ++ [206] ++ be16 ((((N : Nat) : Int) / 4 - 1) % 65536) ++ be32 s ++ be32 (0 : Int) ++ [82] ++ [69] ++ [77] ++ [66] ++ [(l.length : Int) % 256] ++ [(mantV b) / 65536 % 256]) N).length by rw [pz_len _ _ (by simp only [List.length_append, List.length_cons, List.length_nil, be32_len, be16_len]; omega)]; omega), trivial⟩) fun _ a u hE hS => ?_
    rw [put_one _ _ _ (by rw [pz_len _ _ (by simp only [List.length_append, List.length_cons, List.length_nil, be32_len, be16_len]; omega)]; omega), put_pz ([143] ++ [206] ++ be16 ((((N : Nat) : Int) / 4 - 1) % 65536) ++ be32 s ++ be32 (0 : Int) ++ [82] ++ [69] ++ [77] ++ [66] ++ [(l.length : Int) % 256] ++ [(mantV b) / 65536 % 256]) [(mantV b) / 256 % 256] N 18 rfl (by simp only [List.length_cons, List.length_nil]; omega)] at hS
    refine rgp hE hS [pu, pu, pe (.int .u8 ((mantV b) % 256)), ix, sbt 1] (fun _ => kp []) (fun _ => kP [(1, some (.buf g ((pz ([143] ++ [206] ++ be16 ((((N : Nat) : Int) / 4 - 1) % 65536) ++ be32 s ++ be32 (0 : Int) ++ [82] ++ [69] ++ [77] ++ [66] ++ [(l.length : Int) % 256] ++ [(mantV b) / 65536 % 256] ++ [(mantV b) / 256 % 256]) N).set 19 ((mantV b) % 256))))]) (fun _ => ⟨kr (congrArg (Value.int .u8) e6), kr (show 19 < N by omega), kr (show 19 < (pz ([143] ++ [206] ++ be16 ((((N : Nat) : Int) / 4 - 1) % 65536) ++ be32 s ++ be32 (0 : Int) ++ [82] ++ [69] ++ [77] ++ [66] ++ [(l.length : Int) % 256] ++ [(mantV b) / 65536 % 256] ++ [(mantV b) / 256 % 256]) N).length by rw [pz_len _ _ (by simp only [List.length_append, List.length_cons, List.length_nil, be32_len, be16_len]; omega)]; omega), trivial⟩) fun _ a u hE hS => ?_
    rw [put_one _ _ _ (by rw [pz_len _ _ (by simp only [List.length_append, List.length_cons, List.length_nil, be32_len, be16_len]; omega)]; omega), put_pz ([143] ++ [206] ++ be16 ((((N : Nat) : Int) / 4 - 1) % 65536) ++ be32 s ++ be32 (0 : Int) ++ [82] ++ [69] ++ [77] ++ [66] ++ [(l.length : Int) % 256] ++ [(mantV b) / 65536 % 256] ++ [(mantV b) / 256 % 256]) [(mantV b) % 256] N 19 rfl (by simp only [List.length_cons, List.length_nil]; omega)] at hS
    refine rg hE hS [pu] (fun _ => kp [(4, .int .i64 (20 : Nat))]) (fun _ => kP []) fun _ a u hE hS => ?_
    refine wp_seq ?_
    refine rg hE hS [pu, ld 101, pu, pu] (fun _ => kn [(99, .slice A (l.length : Nat) c), (100, .int .i64 (l.length : Nat)), (101, .int .i64 0)] [1, 4]) (fun _ => kN [] [1]) fun _ a u hE hS => ?_
    refine range_up hE hS 101 l.length (fun k x => kd [101, 102, 114] [(4, .int .i64 (20 + 4 * k : Nat))]) (fun _ x => kP [(1, some (.buf g (pz x.y N)))]) (fun k (x : Lx (List Int)) => x.n = 0 ∧ x.y = [143] ++ [206] ++ be16 ((((N : Nat) : Int) / 4 - 1) % 65536) ++ be32 s ++ be32 (0 : Int) ++ [82] ++ [69] ++ [77] ++ [66] ++ [(l.length : Int) % 256] ++ [(mantV b) / 65536 % 256] ++ [(mantV b) / 256 % 256] ++ [(mantV b) % 256] ++ (l.take k).flatMap be32) ⟨pay0, 0, [], [143] ++ [206] ++ be16 ((((N : Nat) : Int) / 4 - 1) % 65536) ++ be32 s ++ be32 (0 : Int) ++ [82] ++ [69] ++ [77] ++ [66] ++ [(l.length : Int) % 256] ++ [(mantV b) / 65536 % 256] ++ [(mantV b) / 256 % 256] ++ [(mantV b) % 256]⟩ (by omega) (by simp) (fun k x a u hk hI hE hS K hK RK hRK => ?_) fun ⟨_, n1, _, y1⟩ a u hI hE hS => ?_
    · obtain ⟨hk1, hk2⟩ := hI
      obtain ⟨q0, n0, xs0, y⟩ := x
      simp only at hk1 hk2
      have hr1 := hok _ (List.getElem_mem hk)
      have hS := stp_el hS 90 (el_at hr (fun _ _ => rfl) rfl (fun x hx => ⟨by omega, fun (e : x = g) => by omega⟩) k hk (by omega))
      generalize hrk : l[k] = r at hS hr1
      have hyl : y.length = 20 + 4 * k := by rw [hk2]; have := fl_len (l.take k) be32 4 (fun x => rfl); simp only [List.length_take] at this; simp only [List.length_append, List.length_cons, List.length_nil, be32_len, be16_len]; omega
      refine rgp hE hS [ie 90, le 90 0, pu] (fun _ => kp [(12, .int .u32 r)]) (fun _ => kP []) (fun _ => ⟨kr (show k < l.length from hk), trivial⟩) fun _ a u hE hS => ?_
      refine rgp hE hS [pu, pu, pu, pe (.int .i64 ((20 + 4 * k + 4 : Nat) : Int)), sc, pu, cl put32c [] [1]] (fun _ => kp []) (fun _ => kP [(1, some (.buf g (put (pz y N) (0 + (20 + 4 * k) * 1) (be32 r))))]) (fun _ => ⟨kr (congrArg (Value.int .i64) (show IntKind.i64.wrap (((20 + 4 * k : Nat) : Int) + (4 : Int)) = ((20 + 4 * k + 4 : Nat) : Int) from by rw [IntWalk.i64_in _ (by omega)]; omega)), kr (show 20 + 4 * k ≤ 20 + 4 * k + 4 ∧ 20 + 4 * k + 4 ≤ N ∧ (20 + 4 * k < N ∨ 20 + 4 * k = 0) by omega), kr (show 4 ≤ 20 + 4 * k + 4 - (20 + 4 * k) ∧ 0 + (20 + 4 * k) * 1 + 4 ≤ (pz y N).length ∧ 0 ≤ r ∧ r < 4294967296 from ⟨by omega, by rw [pz_len _ _ (by omega)]; omega, hr1.1, hr1.2⟩), trivial⟩) fun _ a u hE hS => ?_
      rw [put_pz (y) (be32 r) N (0 + (20 + 4 * k) * 1) (by omega) (by rw [be32_len]; omega)] at hS
      refine rgE hE hS [pu, pe (.int .i64 ((20 + 4 * (k + 1) : Nat) : Int)), pu] (fun _ => kp [(4, .int .i64 (20 + 4 * (k + 1) : Nat))]) (fun _ => kP []) (fun _ => ⟨kr (congrArg (Value.int .i64) (show IntKind.i64.wrap (((20 + 4 * k : Nat) : Int) + (4 : Int)) = ((20 + 4 * (k + 1) : Nat) : Int) from by rw [IntWalk.i64_in _ (by omega)]; omega)), trivial⟩) fun _ a u hE hS => ?_
      exact hK ⟨pay0, 0, [], y ++ be32 r⟩ a u _ _ ⟨rfl, by show y ++ be32 r = _; rw [hk2, List.take_succ_eq_append_getElem hk, List.flatMap_append, hrk]; simp⟩ hE hS (by kernel_rfl)
    simp only [List.take_length] at hI
    obtain ⟨h1, h2⟩ := hI
    subst h1 h2
    refine rg hE hS [pu, pu, pu] (fun _ => kp [(5, .nilIface)]) (fun _ => kP []) fun _ a u hE hS => ?_
    refine wp_ret ?_
    have hbuf : Buf u g (hdrB 15 206 ((((N : Nat) : Int) / 4 - 1) % 65536) ++ (be32 s ++ be32 0 ++ [82, 69, 77, 66, (l.length : Int) % 256, mantV b / 65536 % 256, mantV b / 256 % 256, mantV b % 256] ++ l.flatMap be32)) := by
      have h : Buf u g (pz ([143] ++ [206] ++ be16 ((((N : Nat) : Int) / 4 - 1) % 65536) ++ be32 s ++ be32 (0 : Int) ++ [82] ++ [69] ++ [77] ++ [66] ++ [(l.length : Int) % 256] ++ [(mantV b) / 65536 % 256] ++ [(mantV b) / 256 % 256] ++ [(mantV b) % 256] ++ l.flatMap be32) N) := pcF hS 1
      rw [pz_full _ _ (by simp only [List.length_append, List.length_cons, List.length_nil, be32_len, be16_len, hfl]; omega)] at h
      have e : [143] ++ [206] ++ be16 ((((N : Nat) : Int) / 4 - 1) % 65536) ++ be32 s ++ be32 (0 : Int) ++ [82] ++ [69] ++ [77] ++ [66] ++ [(l.length : Int) % 256] ++ [(mantV b) / 65536 % 256] ++ [(mantV b) / 256 % 256] ++ [(mantV b) % 256] ++ l.flatMap be32 = hdrB 15 206 ((((N : Nat) : Int) / 4 - 1) % 65536) ++ (be32 s ++ be32 0 ++ [82, 69, 77, 66, (l.length : Int) % 256, mantV b / 65536 % 256, mantV b / 256 % 256, mantV b % 256] ++ l.flatMap be32) := by simp [hdrB]
      rwa [e] at h
    exact ret2 hE Tryz.results180 (.int .i64 (20 + 4 * l.length : Nat)) .nilIface ⟨by rw [hN], hbuf, ⟨hS.os, hS.tape, hS.output, hS.size, fun k hk hn => hS.kept k hk fun e => hn (by rw [e])⟩⟩
set_option maxHeartbeats 4000000 in
set_option maxRecDepth 100000 in
theorem mar_12 (s : Int) (b : Nat) (A : Option Addr) (c : Nat) (l : List Int) (w : World) (hr : Reads w w.heap.size 1 A l.length (l.flatMap u32c)) (hl : l.length ≤ 255) (hok : ∀ x ∈ l, 0 ≤ x ∧ x < 4294967296) (hs : 0 ≤ s ∧ s < 4294967296) (hm : mantF b = true) :
    Calls Tryz.prog 177 #[.agg #[.int .u32 s, .float .f32 b, .slice A (l.length : Nat) c]] w (MarOut w (hdrB 15 206 ((((4 + (be32 s ++ be32 0 ++ [82, 69, 77, 66, (l.length : Int) % 256, mantV b / 65536 % 256, mantV b / 256 % 256, mantV b % 256] ++ l.flatMap be32).length : Nat) : Int) / 4 - 1) % 65536) ++ (be32 s ++ be32 0 ++ [82, 69, 77, 66, (l.length : Int) % 256, mantV b / 65536 % 256, mantV b / 256 % 256, mantV b % 256] ++ l.flatMap be32))) := by
  have hfl := fl_len l be32 4 (fun _ => rfl)
  have hBN : 4 + (be32 s ++ be32 0 ++ [82, 69, 77, 66, (l.length : Int) % 256, mantV b / 65536 % 256, mantV b / 256 % 256, mantV b % 256] ++ l.flatMap be32).length = 20 + 4 * l.length := by simp only [List.length_append, List.length_cons, List.length_nil, be32_len, hfl]; omega
  rw [hBN]
  refine go_in Tryz.func177 rfl Tryz.ntmps177 [.agg #[.int .u32 s, .float .f32 b, .slice A (l.length : Nat) c]] fun a hE => ?_
  have hS := stp_in w
  refine rg hE hS [nw 101, pu, pu] (fun p1 => kp [(1, pt (p1 0).g 0), (2, .slice none 0 0), (3, .nilIface)]) (fun p1 => kP [(101, some (.blk (p1 0).g 199 #[.int .u32 s, .float .f32 b, .slice A (l.length : Nat) c]))]) fun p1 a u hE hS => ?_
  refine rgp hE hS [ld 101, cu 178 [] [] (fun _ => .int .i64 (20 + 4 * l.length : Nat)) (fun _ => []), mk 1, pu] (fun p2 => kp [(2, sv (p2 2).g 0 (20 + 4 * l.length) (20 + 4 * l.length))]) (fun p2 => kP [(1, some (.buf (p2 2).g (List.replicate (20 + 4 * l.length) 0)))]) (fun _ => ⟨kr (cuo_pure (P := Tryz.prog) (olds := (fun _ => False)) (w0 := w) (ps := []) 178 #[.agg #[.int .u32 s, .float .f32 b, .slice A (l.length : Nat) c]] (.int .i64 (20 + 4 * l.length : Nat)) (fun w4 => rembsize_any w4 A l.length c _ _ rfl rfl (by omega))), kr (show (20 + 4 * l.length) ≤ 140737488355328 by omega), trivial⟩) fun p2 a u hE hS => ?_
  refine rgp hE hS [ld 101, pu, cu 180 [] [1] (fun _ => .tuple #[.int .i64 (20 + 4 * l.length : Nat), .nilIface]) (fun _ => [some (.buf (p2 2).g (hdrB 15 206 ((((20 + 4 * l.length : Nat) : Int) / 4 - 1) % 65536) ++ (be32 s ++ be32 0 ++ [82, 69, 77, 66, (l.length : Int) % 256, mantV b / 65536 % 256, mantV b / 256 % 256, mantV b % 256] ++ l.flatMap be32)))]), pu, pu, pu, pu, pu] (fun _ => kp [(4, .int .i64 (20 + 4 * l.length : Nat))]) (fun _ => kP [(1, some (.buf (p2 2).g (hdrB 15 206 ((((20 + 4 * l.length : Nat) : Int) / 4 - 1) % 65536) ++ (be32 s ++ be32 0 ++ [82, 69, 77, 66, (l.length : Int) % 256, mantV b / 65536 % 256, mantV b / 256 % 256, mantV b % 256] ++ l.flatMap be32))))]) (fun _ => ⟨kr (cu_putB (P := Tryz.prog) (w0 := w) 1 (p2 2).g (List.replicate (20 + 4 * l.length) 0) (hdrB 15 206 ((((20 + 4 * l.length : Nat) : Int) / 4 - 1) % 65536) ++ (be32 s ++ be32 0 ++ [82, 69, 77, 66, (l.length : Int) % 256, mantV b / 65536 % 256, mantV b / 256 % 256, mantV b % 256] ++ l.flatMap be32)) 180 #[.agg #[.int .u32 s, .float .f32 b, .slice A (l.length : Nat) c], .slice (some ⟨(p2 2).g, 0, none⟩) (20 + 4 * l.length : Nat) (20 + 4 * l.length : Nat)] (.tuple #[.int .i64 (20 + 4 * l.length : Nat), .nilIface]) (fun w4 hB hz hg hb => rembTo_any (p2 2).g w.heap.size s b A c l w4 hb (Reads.below hr hB) hg hl hok hs hm)), trivial⟩) fun _ a u hE hS => ?_
  refine wp_seq ?_
  refine rg hE hS [pu, pu] (fun _ => kn [(15, .bool false)] [2, 3, 4]) (fun _ => kN [] [1]) fun _ a u hE hS => ?_
  refine iff hE ?_
  refine wp_skip ?_
  refine wp_seq ?_
  refine rgp hE hS [pu, pu, pu, pe (.bool false)] (fun _ => kp [(20, .bool false)]) (fun _ => kP []) (fun _ => ⟨kr (congrArg (fun x => Value.bool (!x)) (beq_self_eq_true (((20 + 4 * l.length : Nat) : Int)))), trivial⟩) fun _ a u hE hS => ?_
  refine iff hE ?_
  refine wp_skip ?_
  refine rg hE hS [pu, pu, pu] (fun _ => kp []) (fun _ => kP []) fun _ a u hE hS => ?_
  refine wp_ret ?_
  exact ret2 hE Tryz.results177 (sv (p2 2).g 0 (20 + 4 * l.length) (20 + 4 * l.length)) .nilIface (MarOut.buf (bs := hdrB 15 206 ((((20 + 4 * l.length : Nat) : Int) / 4 - 1) % 65536) ++ (be32 s ++ be32 0 ++ [82, 69, 77, 66, (l.length : Int) % 256, mantV b / 65536 % 256, mantV b / 256 % 256, mantV b % 256] ++ l.flatMap be32)) (pcF hS 1) (pcG (g := (p2 2).g) (bs := hdrB 15 206 ((((20 + 4 * l.length : Nat) : Int) / 4 - 1) % 65536) ++ (be32 s ++ be32 0 ++ [82, 69, 77, 66, (l.length : Int) % 256, mantV b / 65536 % 256, mantV b / 256 % 256, mantV b % 256] ++ l.flatMap be32)) hS 1) hS.below (by rw [List.length_append, show (hdrB 15 206 ((((20 + 4 * l.length : Nat) : Int) / 4 - 1) % 65536)).length = 4 from rfl]; omega) (by rw [List.length_append, show (hdrB 15 206 ((((20 + 4 * l.length : Nat) : Int) / 4 - 1) % 65536)).length = 4 from rfl]; omega))
end Go.Proofs.YtmmfpgoodfgkbaaGreat
