/-
  THE WALK of the reference's reading of a bitrate. Condition: the bytes lie in memory, ahead of the packet's variable.
-/
import Derived.Test.YtmmfpgoodfgkbaaGreatDoorMRfb
import Derived.Test.YtmmfpgoodfgkbaaGreatDoorMFl
namespace Go.Proofs.YtmmfpgoodfgkbaaGreatDoor
open Go Go.RowKit
set_option maxHeartbeats 4000000
set_option maxRecDepth 100000
set_option linter.unusedVariables false
set_option linter.unusedSimpArgs false

theorem and18 (x : Int) (h0 : 0 ≤ x) (h1 : x < 4294967296) : bits .and .u32 x 262143 = x % 262144 := by
 have h31 : (BitVec.ofInt 32 262143).toNat = 2 ^ 18 - 1 := by decide
 have key : (BitVec.ofInt 32 x &&& BitVec.ofInt 32 262143).toNat = (x % ((2 ^ 32 : Nat) : Int)).toNat % 2 ^ 18 := by
  rw [BitVec.toNat_and, BitVec.toNat_ofInt, h31, Nat.and_two_pow_sub_one_eq_mod]
 show IntKind.u32.wrap ((BitVec.ofInt 32 x &&& BitVec.ofInt 32 262143).toNat : Nat) = _
 rw [key, IntKind.wrap_u32]
 omega
section
variable {P : Program}
theorem f_mul {t : TypeId} {x y : Nat} (h : Ieee.double.mul x two1 = some y) : ∀ w, ((do let v ← binOp .mul t (.float .f64 x) (.float .f64 4611686018427387904); pure (Next.value v) : Sem Next).run P w) = .ok (.value (.float .f64 y)) w := fun w => by
 rw [Sem.run_bind, run_float_arith w .mul t .f64 x 4611686018427387904 y h]; rfl
theorem f_nar {t1 t2 : TypeId} {b r : Nat} (hs : (P.underlying t1).isSome = true) (hd : P.underlying t2 = some (.float .f32)) (h : floatToFloatBits .f64 b .f32 = some r) : ∀ w, ((do let v ← convert t1 t2 (.float .f64 b); pure (Next.value v) : Sem Next).run P w) = .ok (.value (.float .f32 r)) w := fun w => by
 rw [Sem.run_bind, run_convert_float_float w t1 t2 .f64 .f32 b r hs hd h]; rfl
theorem f_ofint {t1 t2 : TypeId} {n : Int} {r : Nat} (hs : (P.underlying t1).isSome = true) (hd : P.underlying t2 = some (.float .f64)) (h : floatOfInt .f64 n = r) : ∀ w, ((do let v ← convert t1 t2 (.int .u32 n); pure (Next.value v) : Sem Next).run P w) = .ok (.value (.float .f64 r)) w := fun w => by
 rw [Sem.run_bind, run_convert_int_float w t1 t2 .u32 .f64 n hs hd, h]; rfl
end
theorem strne_run (x y : ByteArray) (b : Bool) (h : (b = true → ¬ x.toList = y.toList) ∧ (b = false → x.toList = y.toList)) : ∀ w, ((do let v ← binOp .neq 9 (.string x) (.string y); pure (Next.value v) : Sem Next).run Tryz.prog w) = .ok (.value (.bool b)) w := fun w => by
 cases b with
 | true =>
  have h1 := h.1 rfl
  go_simp
 | false =>
  have h1 := h.2 rfl
  go_simp
theorem dbl_any {M e : Nat} (h0 : 0 < M) (h1 : M < 262144) (he : e ≤ 63) : ∃ (F : Nat → Nat) (G : Nat), floatOfInt .f64 (M : Int) = F 0 ∧ (∀ k, k < e → Ieee.double.mul (F k) two1 = some (F (k + 1))) ∧ floatToFloatBits .f64 (F e) .f32 = some G ∧ G = sgl M e :=
 ⟨dbl M, sgl M e, dbl_zero h0 h1, fun k hk => dbl_succ h0 h1 (by omega), dbl_sgl h0 h1 he, rfl⟩
def cs12 (s m bt : Int) (v : Value) : Array Value := #[.int .i64 12, .int .u32 s, .int .u32 m, .int .u64 0, .int .u32 0, .int .u32 0, .int .u32 0, .slice none 0 0, .slice none 0 0, .slice none 0 0, v, .string ByteArray.empty, .int .u8 0, .slice none 0 0, .slice none 0 0, .slice none 0 0, .slice none 0 0, .int .u32 bt, .slice none 0 0, .int .u32 0, .int .u16 0, .int .u16 0, .int .u32 0, .int .u8 0, .slice none 0 0, .slice none 0 0, .bool false, .int .u8 0, .int .u8 0, .int .u16 0]
def BrR (s m : Int) (y : List Int) (q : Pkt) : Prop := ∃ (n v : Nat) (A : Option Addr) (c : Nat), q = { pFb 12 s 0 with bits := ((sgl (v % 262144) (v / 262144) : Nat) : Int), sources := ⟨A, c, parts4 srcB 4 n (y.drop 8)⟩ } ∧ m = 0 ∧ (strB (y.take 4)).toList = (⟨#[82, 69, 77, 66]⟩ : ByteArray).toList ∧ y.length = 8 + 4 * n ∧ gi y 4 = (n : Int) ∧ rd24 (y.drop 5) 0 = (v : Int) ∧ v % 262144 ≠ 0
theorem readBr_any (g : Nat) (s m : Int) (B b o c : Nat) (y : List Int) (w : World) (hb : Blk w g 38 (cs12 s m 0 (.slice none 0 0))) (hr : Reads w B 1 (some ⟨b, o, none⟩) y.length (u8s y)) (hB : B ≤ g) (hz : Byts y) (hc : y.length ≤ c) (hl : y.length ≤ 1048576) :
  Calls Tryz.prog 74 #[.pointer (some ⟨g, 0, none⟩), .slice (some ⟨b, o, none⟩) y.length c] w (RdOut g w (BrR s m y)) := by
 refine go_in Tryz.func74 rfl Tryz.ntmps74 [pt g 0, sv b o y.length c] fun a hE => ?_
 have hS := stp_blk1 101 hb
 have hS := stp_ry hS 111 hr (fun x hx => ⟨by have := hb.lt; omega, by omega⟩) hz
 refine rg hE hS [pu] (fun _ => kp [(4, .bool false)]) kP0 fun _ a u hE hS => ?_
 refine wp_seq ?_
 by_cases h8 : y.length < 8
 ·skip
  refine rgp hE hS [pu, pu, pe (.bool true), pu, sk, sk, sk, sk, sk, pu, pu, sk, sk, sk, sk, pu, pu, sk, sk, sk, sk, sk, sk, sk, sk, sk, pu] (fun _ => kp [(35, .bool true)]) kP0 (fun _ => ⟨kr (cbV (dtV (show ((y.length : Nat) : Int) < 8 by omega))), trivial⟩) fun _ a u hE hS => ift hE ?_
  refine rg hE hS [pu] kp0 kP0 fun _ a u hE hS => ?_
  refine wp_ret (thR ?_)
  exact ret1 hE Tryz.results74 (.bool false) ⟨_, rfl, hS.grownBy (some g) (fun _ e => by rw [e]), (fun h => by cases h)⟩
 by_cases hm0 : m = 0
 rotate_left
 ·skip
  refine rgp hE hS [pu, pu, pe (.bool false), pu, pu, pu, pu, ld 101, pe (.bool true), pu, pu, sk, sk, sk, sk, pu, pu, sk, sk, sk, sk, sk, sk, sk, sk, sk, pu] (fun _ => kp [(35, .bool true)]) kP0 (fun _ => ⟨kr (cbV (dfV (show ¬ (((y.length : Nat) : Int) < 8) by omega))), kr (cbV (bne_iff_ne.2 hm0)), trivial⟩) fun _ a u hE hS => ift hE ?_
  refine rg hE hS [pu] kp0 kP0 fun _ a u hE hS => ?_
  refine wp_ret (thR ?_)
  exact ret1 hE Tryz.results74 (.bool false) ⟨_, rfl, hS.grownBy (some g) (fun _ e => by rw [e]), (fun h => by cases h)⟩
 by_cases hrm : (strB (y.take 4)).toList = (⟨#[82, 69, 77, 66]⟩ : ByteArray).toList
 rotate_left
 ·skip
  refine rgp hE hS [pu, pu, pe (.bool false), pu, pu, pu, pu, ld 101, pe (.bool false), pu, pu, pu, rsl 111 112, rt 112, pf (.bool true), pu, pu, sk, sk, sk, sk, sk, sk, sk, sk, sk, pu] (fun _ => kp [(35, .bool true)]) kP0 (fun _ => ⟨kr (cbV (dfV (show ¬ (((y.length : Nat) : Int) < 8) by omega))), kr (cbV (show (m != 0) = false by rw [hm0]; rfl)), kr (show 0 ≤ 4 ∧ 4 ≤ y.length ∧ y.length ≤ c by omega), kr (strne_run (strB (y.take 4)) (⟨#[82, 69, 77, 66]⟩ : ByteArray) true ⟨fun _ => hrm, fun h => (by cases h)⟩), trivial⟩) fun _ a u hE hS => ift hE ?_
  refine rg hE hS [pu] kp0 kP0 fun _ a u hE hS => ?_
  refine wp_ret (thR ?_)
  exact ret1 hE Tryz.results74 (.bool false) ⟨_, rfl, hS.grownBy (some g) (fun _ e => by rw [e]), (fun h => by cases h)⟩
 have hg4 := hz.gi 4
 by_cases hln : ((y.length : Nat) : Int) = 8 + 4 * gi y 4
 rotate_left
 ·skip
  refine rgp hE hS [pu, pu, pe (.bool false), pu, pu, pu, pu, ld 101, pe (.bool false), pu, pu, pu, rsl 111 112, rt 112, pf (.bool false), pu, pu, pu, pu, pu, ix, rb 111 4, pe (.int .i64 (gi y 4)), pe (.int .i64 (4 * gi y 4)), pe (.int .i64 (8 + 4 * gi y 4)), pe (.bool true), pu] (fun _ => kp [(35, .bool true)]) kP0 (fun _ => ⟨kr (cbV (dfV (show ¬ (((y.length : Nat) : Int) < 8) by omega))), kr (cbV (show (m != 0) = false by rw [hm0]; rfl)), kr (show 0 ≤ 4 ∧ 4 ≤ y.length ∧ y.length ≤ c by omega), kr (strne_run (strB (y.take 4)) (⟨#[82, 69, 77, 66]⟩ : ByteArray) false ⟨fun h => (by cases h), fun _ => hrm⟩), kr (show 4 < y.length by omega), kr (show 4 < (y).length by omega), kr (ciV (wiV (gi y 4) (by omega))), kr (ciV (wiV (4 * gi y 4) (by omega))), kr (ciV (wiV (8 + 4 * gi y 4) (by omega))), kr (cbV (show (((y.length : Nat) : Int) != 8 + 4 * gi y 4) = true from bne_iff_ne.2 hln)), trivial⟩) fun _ a u hE hS => ift hE ?_
  refine rg hE hS [pu] kp0 kP0 fun _ a u hE hS => ?_
  refine wp_ret (thR ?_)
  exact ret1 hE Tryz.results74 (.bool false) ⟨_, rfl, hS.grownBy (some g) (fun _ e => by rw [e]), (fun h => by cases h)⟩
 refine rgp hE hS [pu, pu, pe (.bool false), pu, pu, pu, pu, ld 101, pe (.bool false), pu, pu, pu, rsl 111 112, rt 112, pf (.bool false), pu, pu, pu, pu, pu, ix, rb 111 4, pe (.int .i64 (gi y 4)), pe (.int .i64 (4 * gi y 4)), pe (.int .i64 (8 + 4 * gi y 4)), pe (.bool false), pu] (fun _ => kp [(35, .bool false)]) kP0 (fun _ => ⟨kr (cbV (dfV (show ¬ (((y.length : Nat) : Int) < 8) by omega))), kr (cbV (show (m != 0) = false by rw [hm0]; rfl)), kr (show 0 ≤ 4 ∧ 4 ≤ y.length ∧ y.length ≤ c by omega), kr (strne_run (strB (y.take 4)) (⟨#[82, 69, 77, 66]⟩ : ByteArray) false ⟨fun h => (by cases h), fun _ => hrm⟩), kr (show 4 < y.length by omega), kr (show 4 < (y).length by omega), kr (ciV (wiV (gi y 4) (by omega))), kr (ciV (wiV (4 * gi y 4) (by omega))), kr (ciV (wiV (8 + 4 * gi y 4) (by omega))), kr (cbV (show (((y.length : Nat) : Int) != 8 + 4 * gi y 4) = false by rw [hln]; simp)), trivial⟩) fun _ a u hE hS => iff hE <| wp_skip ?_
 have hl5 : (y.drop 5).length = y.length - 5 := List.length_drop
 have hv24 := rd24_lt (hz.drop 5) 0
 obtain ⟨v, hv⟩ : ∃ v : Nat, rd24 (y.drop 5) 0 = (v : Int) := ⟨(rd24 (y.drop 5) 0).toNat, by omega⟩
 refine rgp hE hS [pu, rsl 111 112, cl cU24 [112] [], pu] (fun _ => kp [(5, .int .u32 (rd24 (y.drop 5) 0))]) kP0 (fun _ => ⟨kr (show 5 ≤ y.length ∧ y.length ≤ y.length ∧ y.length ≤ c by omega), kr (show 3 ≤ (y.drop 5).length ∧ (y.drop 5).length ≤ (c - 5) ∧ 0 < (y.drop 5).length by simp only [List.length_drop]; omega), trivial⟩) fun _ a u hE hS => ?_
 rw [hv] at hE
 refine rgp hE hS [pu, pe (.int .u32 ((v / 262144 : Nat) : Int)), pe (.int .i64 ((v / 262144 : Nat) : Int)), pu, pe (.int .u32 ((v % 262144 : Nat) : Int)), pu, pu] (fun _ => kp [(6, .int .i64 ((v / 262144 : Nat) : Int)), (7, .int .u32 ((v % 262144 : Nat) : Int))]) kP0 (fun _ => ⟨kr ((shrv .u32 ((v : Nat) : Int) 262144 (by decide)).trans (congrArg (Value.int .u32) (show ((v : Nat) : Int) / 262144 = ((v / 262144 : Nat) : Int) by omega))), kr (ciV (wiV ((v / 262144 : Nat) : Int) (by omega))), kr (congrArg (Value.int .u32) ((and18 ((v : Nat) : Int) (by omega) (by omega)).trans (show ((v : Nat) : Int) % 262144 = ((v % 262144 : Nat) : Int) by omega))), trivial⟩) fun _ a u hE hS => ?_
 refine wp_seq ?_
 by_cases hM : v % 262144 = 0
 ·skip
  refine rgp hE hS [pu, pe (.bool true)] (fun _ => kp [(45, .bool true)]) kP0 (fun _ => ⟨kr (cbV (ebV (show (((v % 262144 : Nat) : Int) : Int) = 0 by omega))), trivial⟩) fun _ a u hE hS => ift hE ?_
  refine rg hE hS [pu] kp0 kP0 fun _ a u hE hS => ?_
  refine wp_ret (thR ?_)
  exact ret1 hE Tryz.results74 (.bool false) ⟨_, rfl, hS.grownBy (some g) (fun _ e => by rw [e]), (fun h => by cases h)⟩
 refine rgp hE hS [pu, pe (.bool false)] (fun _ => kp [(45, .bool false)]) kP0 (fun _ => ⟨kr (cbV (nbV (show (((v % 262144 : Nat) : Int) : Int) ≠ 0 by omega))), trivial⟩) fun _ a u hE hS => iff hE <| wp_skip ?_
 obtain ⟨M, hMv⟩ : ∃ M, v % 262144 = M := ⟨_, rfl⟩
 obtain ⟨e, hev⟩ : ∃ e, v / 262144 = e := ⟨_, rfl⟩
 rw [hMv] at hM hE
 rw [hev] at hE
 have hM0 : 0 < M := by omega
 have hM1 : M < 262144 := by omega
 have he63 : e ≤ 63 := by omega
 obtain ⟨F, G, hF0, hF1, hF2, hG⟩ := dbl_any hM0 hM1 he63
 refine rgp hE hS [pu, pf (.float .f64 (F 0)), pu] (fun _ => kp [(8, .float .f64 (F 0))]) kP0 (fun _ => ⟨kr (f_ofint (P := Tryz.prog) (t1 := 22) (t2 := 252) (by kernel_rfl) Tryz.underlying252 hF0), trivial⟩) fun _ a u hE hS => ?_
 refine wp_seq ?_
 refine rg hE hS [pu, pu] (fun _ => kn [(48, .int .i64 ((e : Nat) : Int)), (49, .int .i64 0)] [0, 1, 4, 8]) (fun _ => kN [] [111, 101]) fun _ a u hE hS => ?_
 refine range_up hE hS 49 e (fun k x => kd [49, 50, 53] [(8, .float .f64 (F k))]) (fun _ x => kP []) (fun k (x : Unit) => True) () (by omega) (trivial) (fun k x a u hk hI hE hS K hK RK hRK => ?_) fun _ a u hI hE hS => ?_
 ·obtain hk1 := hI
  refine rgE hE hS [pu, pf (.float .f64 (F (k + 1))), pu] (fun _ => kp [(8, .float .f64 (F (k + 1)))]) kP0 (fun _ => ⟨kr (f_mul (P := Tryz.prog) (t := 252) (hF1 k hk)), trivial⟩) fun _ a u hE hS => ?_
  exact hK () a u _ _ trivial hE hS (by kernel_rfl)
 refine rgp hE hS [pu, pu, pf (.float .f32 G), pu, pu, pu, st 101] kp0 (fun _ => kP [(101, some (.blk g 38 ((cs12 s m (((G : Nat) : Int)) (.slice none 0 0)))))]) (fun _ => ⟨kr (f_nar (P := Tryz.prog) (t1 := 252) (t2 := 193) (by kernel_rfl) Tryz.underlying193 hF2), trivial⟩) fun _ a u hE hS => ?_
 refine wp_seq ?_
 refine rgp hE hS [pu, rsl 111 111, pu] (fun p20 => kn [(1, sv (p20 1).g (p20 1).c (y.drop 8).length (c - 8))] [0, 4]) (fun p20 => kN [(111, some (.ry (fun x => x < B) ((some ⟨(p20 1).g, (p20 1).c, none⟩)) (y.drop 8)))] [101]) (fun _ => ⟨kr (show 8 ≤ y.length ∧ y.length ≤ y.length ∧ y.length ≤ c by omega), trivial⟩) fun p20 a u hE hS => ?_
 have hS := stp_row0 hS 1 w.heap.size 22 1
 obtain ⟨n, hn⟩ : ∃ n : Nat, gi y 4 = (n : Int) := ⟨(gi y 4).toNat, by omega⟩
 have hl8 : (y.drop 8).length = y.length - 8 := List.length_drop
 have hz8 : Byts (y.drop 8) := hz.drop 8
 obtain ⟨bb, hbb⟩ : ∃ bb, y.drop 8 = bb := ⟨_, rfl⟩
 rw [hbb] at hS hE hl8 hz8
 refine wp_block ?_
 refine loop_k hE hS n (fun k x => kd [1] [(1, sv x.y.1.g x.y.1.c x.y.2.1.length x.y.2.2)]) (fun k x => kN [(101, some (.blk g 38 ((cs12 s m (((G : Nat) : Int)) (.slice x.p.a x.n x.p.c))))), (1, some (.row w.heap.size 22 1 (.slice x.p.a x.n x.p.c) x.n x.xs)), (111, some (.ry (fun x => x < B) (some ⟨x.y.1.g, x.y.1.c, none⟩) x.y.2.1))] []) (fun k (x : Lx (Pay × List Int × Nat)) => x.n = k ∧ x.xs = (parts4 srcB 4 k bb).flatMap u32c ∧ x.y.2.1 = bb.drop (4 * k) ∧ x.y.2.1.length ≤ x.y.2.2) ⟨pay0, 0, [], (⟨(p20 1).g, (p20 1).c, undef, none⟩ : Pay), bb, (c - 8)⟩ (⟨rfl, by simp [parts4], by simp, by show bb.length ≤ (c - 8); omega⟩) ?_
 intro k x a u hkk hI hE hS K hK
 obtain ⟨hk1, hk2, hk3, hk4⟩ := hI
 obtain ⟨xp, xn, xs, y1, z1, c1⟩ := x
 simp only at hk1 hk2 hk3 hk4
 by_cases hlt : k < n
 ·skip
  have hzl : z1.length = bb.length - 4 * k := by rw [hk3]; exact List.length_drop
  refine wp_seq ?_
  refine rgp hE hS [pu, pu, pe (.bool true)] (fun _ => kp [(64, .bool true)]) kP0 (fun _ => ⟨kr (cbV (dtV (show ((z1.length : Nat) : Int) > 0 by omega))), trivial⟩) fun _ a u hE hS => ift hE <| wp_skip ?_
  refine wp_seq ?_
  refine wp_block ?_
  refine dgE hE hS [pu, pu, pu, pu, ld 101, pu, cl cU32 [111] [], nw 92, ap 1 [92], pu, pu, st 101] kp0 (fun p22 => kP [(101, some (.blk g 38 ((cs12 s m (((G : Nat) : Int)) (.slice (p22 8).a (xn + 1) (p22 8).c))))), (1, some (.row w.heap.size 22 1 (.slice (p22 8).a (xn + 1) (p22 8).c) (xn + 1) (xs ++ u32c (srcB z1))))]) (fun _ => ⟨kr (show 4 ≤ z1.length ∧ z1.length ≤ c1 ∧ 0 < z1.length by omega), kr (show w.heap.size ≤ w.heap.size ∧ (xn + 1) * 4 ≤ 140737488355328 ∧ ∀ u ∈ u32c (srcB z1), u.oneCell' = true from ⟨Nat.le_refl _, by omega, by intro u hu; simp [u32c] at hu; rw [hu]; rfl⟩), trivial⟩) fun p22 a u hE hS => ?_
  refine rgE hE hS [pu, rsl 111 111, pu] (fun p23 => kp [(1, sv (p23 1).g (p23 1).c (z1.drop 4).length (c1 - 4))]) (fun p23 => kP [(111, some (.ry (fun x => x < B) ((some ⟨(p23 1).g, (p23 1).c, none⟩)) (z1.drop 4)))]) (fun _ => ⟨kr (show 4 ≤ z1.length ∧ z1.length ≤ z1.length ∧ z1.length ≤ c1 by omega), trivial⟩) fun p23 a u hE hS => ?_
  exact hK ⟨(p22 8), xn + 1, xs ++ u32c (srcB z1), (p23 1), z1.drop 4, c1 - 4⟩ a u _ _ hlt ⟨congrArg (· + 1) hk1, by show xs ++ _ = _; rw [hk2, parts4_succ, List.flatMap_append, hk3]; simp, by show z1.drop 4 = _; rw [hk3, List.drop_drop]; rfl, by show (z1.drop 4).length ≤ c1 - 4; rw [List.length_drop]; omega⟩ hE hS (by kernel_rfl)
 ·have hNk : n = k := by omega
  have hzl : z1.length = bb.length - 4 * k := by rw [hk3]; exact List.length_drop
  refine wp_seq ?_
  refine rgp hE hS [pu, pu, pe (.bool false)] (fun _ => kp [(64, .bool false)]) kP0 (fun _ => ⟨kr (cbV (dfV (show ¬ (((z1.length : Nat) : Int) > 0) by omega))), trivial⟩) fun _ a u hE hS => iff hE ?_
  refine wp_exit ?_
  refine rg hE hS [pu] (fun _ => kp [(4, .bool true)]) kP0 fun _ a u hE hS => ?_
  refine wp_ret ?_
  have hkx : xn = k := hk1
  have hrow := InRows.of_own (pcR (base := w.heap.size) (e := 22) (size := 1) (v := .slice xp.a xn xp.c) (n := xn) (xs := xs) hS 1)
  have hblk := pcB (g := g) (T := 38) (cs := cs12 s m ((G : Nat) : Int) (.slice xp.a xn xp.c)) hS 101
  have hrow2 : InRows u w.heap.size u.heap.size 1 xp.a (parts4 srcB 4 k bb).length ((parts4 srcB 4 k bb).flatMap u32c) := by rw [parts4_len, ← hk2, ← hkx]; exact hrow
  rw [hkx, hm0] at hblk
  exact ret1 hE Tryz.results74 (.bool true) ⟨_, rfl, hS.grownBy (some g) (fun _ e => by rw [e]), fun _ => ⟨({ pFb 12 s 0 with bits := ((G : Nat) : Int), sources := ⟨xp.a, xp.c, parts4 srcB 4 k bb⟩ } : Pkt), (by have e2 : (({ pFb 12 s 0 with bits := ((G : Nat) : Int), sources := ⟨xp.a, xp.c, parts4 srcB 4 k bb⟩ } : Pkt) : Pkt).cells = cs12 s 0 ((G : Nat) : Int) (.slice xp.a k xp.c) := (by unfold cs12 Pkt.cells Sl.val; simp only [parts4_len]; rfl); rw [e2]; exact hblk), ⟨⟨.nil, .nil, (fun x hx => by cases hx), .nil, .nil, .nil, .nil, (fun x hx => by cases hx), .nil, .nil⟩, hrow2, (fun x hx => by cases hx), rfl, rfl⟩, ⟨k, v, xp.a, xp.c, by rw [hMv, hev, hbb, ← hG], hm0, hrm, by omega, by rw [hn, hNk], hv, by omega⟩⟩⟩
end Go.Proofs.YtmmfpgoodfgkbaaGreatDoor
