/-
  THE WALK of the law on the reading of one packet. Condition: the contract of the reference's reading; what it read is what the package reads.
-/
import Derived.Test.YtmmfpgoodfgkbaaGreatUmOne
import Derived.Test.YtmmfpgoodfgkbaaGreatClean
namespace Go.Proofs.YtmmfpgoodfgkbaaGreat
open Go Go.RowKit
set_option linter.unusedVariables false
set_option linter.unusedSimpArgs false

def Agrees (z : List Int) (q : Pkt) : Prop :=
  ∃ (C : Pkt) (tp T : TypeId) (zc : Array Value), q.clean = C ∧ OkC C ∧ NilOk tp ∧ Bu0 q.kind tp T zc ∧ UmP tp T zc z (fun r => r.clean = C)
def strO : Oper := { dst := none, op := .binOp .eql 9 (.tmp 0) (.tmp 0) 9, type := 0, pos := "", after := #[], guard := none }
theorem streq_run (x : ByteArray) : ∀ w, (execOp (fun _ => .string x) strO).run Tryz.prog w = .ok (.value (.bool true)) w := fun w => by
  simp only [execOp, strO]
  go_simp

set_option maxHeartbeats 4000000 in
set_option maxRecDepth 100000 in
theorem lawRO_big (A : Option Addr) (c0 : Nat) (z : List Int) (w : World) (hz : 131072 < z.length) :
    Calls Tryz.prog 6 #[.slice A (z.length : Nat) c0] w fun e w' => e = .returned (.bool true) ∧ Below w.heap.size w w' := by
  obtain ⟨b, hb⟩ : ∃ b, decide (((z.length : Nat) : Int) > 2147483647) = b := ⟨_, rfl⟩
  refine go_in Tryz.func6 rfl Tryz.ntmps6 [.slice A (z.length : Nat) c0] fun a hE => ?_
  have hS := stp_in w
  refine rg hE hS [pu] (fun _ => kp [(2, .bool false)]) (fun _ => kP []) fun _ a u hE hS => ?_
  refine wp_seq ?_
  refine rgp hE hS [pu, pu, pe (.bool b)] (fun _ => kp [(9, .bool b)]) (fun _ => kP []) (fun _ => ⟨kr (congrArg Value.bool hb), trivial⟩) fun _ a u hE hS => ?_
  cases b with
  | true =>
    refine ift hE ?_
    refine rg hE hS [pu] (fun _ => kp [(2, .bool true)]) (fun _ => kP []) fun _ a u hE hS => ?_
    refine wp_ret (thR ?_)
    exact ret1 hE Tryz.results6 (.bool true) ⟨rfl, hS.below⟩
  | false =>
    refine iff hE ?_
    refine wp_skip ?_
    refine wp_seq ?_
    refine rgp hE hS [pu, pu, pe (.bool true)] (fun _ => kp [(12, .bool true)]) (fun _ => kP []) (fun _ => ⟨kr (congrArg Value.bool (decide_eq_true (show ((z.length : Nat) : Int) > 131072 by omega))), trivial⟩) fun _ a u hE hS => ?_
    refine ift hE ?_
    refine rg hE hS [pu] (fun _ => kp [(2, .bool true)]) (fun _ => kP []) fun _ a u hE hS => ?_
    refine wp_ret (thR ?_)
    exact ret1 hE Tryz.results6 (.bool true) ⟨rfl, hS.below⟩
set_option maxHeartbeats 4000000 in
set_option maxRecDepth 100000 in
theorem lawRO_any (R : Pkt → Prop) (A : Option Addr) (c0 : Nat) (z : List Int) (w : World) (hr : Reads w w.heap.size 1 A z.length (u8s z)) (hz : ∀ q, R q → 0 < z.length) (hz2 : z.length ≤ 131072) (hs : ∀ w', Below w.heap.size w w' → Calls Tryz.prog 17 #[.slice A z.length c0] w' (RoneOut w' R)) (hR : ∀ q, R q → Agrees z q) :
    Calls Tryz.prog 6 #[.slice A (z.length : Nat) c0] w fun e w' => e = .returned (.bool true) ∧ Below w.heap.size w w' := by
  refine calls_of_wp Tryz.func6 rfl ?_
  rw [Tryz.ntmps6]
  have hE0 : Env 36 [(0, .slice A (z.length : Nat) c0)] ⟨#[.slice A (z.length : Nat) c0] ++ Array.replicate (36 - (#[.slice A (z.length : Nat) c0] : Array Value).size) undef, []⟩ := Env.enter _ (by simp) ⟨by simp, trivial⟩
  generalize (⟨#[.slice A (z.length : Nat) c0] ++ Array.replicate (36 - (#[.slice A (z.length : Nat) c0] : Array Value).size) undef, []⟩ : Act) = a0 at hE0 ⊢
  have hS0 : Stp (fun _ => False) w w (lookM []) := Stp.refl w
  refine wp_seq_k fun K1 hK1 => ?_
  refine wp_region_lit ?_
  refine seq_pure hE0 2 (.bool false) (fun w => by kernel_rfl) rfl rfl rfl rfl rfl fun a2 hE2 => ?_
  clear hE0 a0
  refine wpList_nil ?_
  refine hK1 _ _ ?_
  clear hK1
  refine wp_seq_k fun K3 hK3 => ?_
  refine wp_seq_k fun K4 hK4 => ?_
  refine wp_region_lit ?_
  refine seq_pure hE2 7 (.slice A (z.length : Nat) c0) (fun w => by kernel_rfl) rfl rfl rfl rfl rfl fun a5 hE5 => ?_
  clear hE2 a2
  refine wpList_val hE5 8 rfl rfl fun K hK => ?_
  have e7 := hE5.get 7 rfl
  go_simp
  refine hK _ _ fun a6 hE6 => ?_
  clear hK K e7
  clear hE5 a5
  refine wpList_val hE6 9 rfl rfl fun K hK => ?_
  have e8 := hE6.get 8 rfl
  refine exec_wp (v := .bool false) (w' := w) (by simp [execOp, Act.eval, e8, go_sem]; omega) ?_
  refine hK _ _ fun a7 hE7 => ?_
  clear hK K e8
  clear hE6 a6
  refine wpList_nil ?_
  refine hK4 _ _ ?_
  clear hK4
  refine wp_if_f hE7 9 rfl ?_
  refine wp_skip ?_
  refine hK3 _ _ ?_
  clear hK3
  refine wp_seq_k fun K8 hK8 => ?_
  refine wp_seq_k fun K9 hK9 => ?_
  refine wp_region_lit ?_
  refine seq_pure hE7 10 (.slice A (z.length : Nat) c0) (fun w => by kernel_rfl) rfl rfl rfl rfl rfl fun a10 hE10 => ?_
  clear hE7 a7
  refine wpList_val hE10 11 rfl rfl fun K hK => ?_
  have e10 := hE10.get 10 rfl
  go_simp
  refine hK _ _ fun a11 hE11 => ?_
  clear hK K e10
  clear hE10 a10
  refine wpList_val hE11 12 rfl rfl fun K hK => ?_
  have e11 := hE11.get 11 rfl
  refine exec_wp (v := .bool false) (w' := w) (by simp [execOp, Act.eval, e11, go_sem]; omega) ?_
  refine hK _ _ fun a12 hE12 => ?_
  clear hK K e11
  clear hE11 a11
  refine wpList_nil ?_
  refine hK9 _ _ ?_
  clear hK9
  refine wp_if_f hE12 12 rfl ?_
  refine wp_skip ?_
  refine hK8 _ _ ?_
  clear hK8
  refine wp_seq_k fun K13 hK13 => ?_
  refine wp_region_lit ?_
  refine seq_pure hE12 14 (.slice A (z.length : Nat) c0) (fun w => by kernel_rfl) rfl rfl rfl rfl rfl fun a14 hE14 => ?_
  clear hE12 a12
  refine wpList_val hE14 15 rfl rfl fun K hK => ?_
  have e14 := hE14.get 14 rfl
  go_simp
  refine (hs w (hS0.old _ (Nat.le_refl _) (fun _ h => h.elim))).mono ?_
  intro e w5 hL
  rcases hL with hL | hL
  case inl =>
    obtain ⟨cs, v, rfl, hv, rfl, hB5⟩ := hL
    refine hK _ _ fun a15 hE15 => ?_
    clear hK K e14
    clear hE14 a14
    have hS16 := hS0.still hB5
    clear hB5 hS0
    refine seq_pure hE15 13 (.tuple #[.agg pNul.cells, .int .i64 v]) (fun w => by kernel_rfl) rfl rfl rfl rfl rfl fun a17 hE17 => ?_
    clear hE15 a15
    refine wpList_val hE17 16 rfl rfl fun K hK => ?_
    have e13 := hE17.get 13 rfl
    go_simp
    refine hK _ _ fun a18 hE18 => ?_
    clear hK K e13
    clear hE17 a17
    refine wpList_val hE18 17 rfl rfl fun K hK => ?_
    have e13 := hE18.get 13 rfl
    go_simp
    refine hK _ _ fun a19 hE19 => ?_
    clear hK K e13
    clear hE18 a18
    refine seq_new hE19 hS16 3 103 (fun g => .pointer (some ⟨g, 0, none⟩)) 38 #[.int .i64 0, .int .u32 0, .int .u32 0, .int .u64 0, .int .u32 0, .int .u32 0, .int .u32 0, .slice none 0 0, .slice none 0 0, .slice none 0 0, .slice none 0 0, .string ByteArray.empty, .int .u8 0, .slice none 0 0, .slice none 0 0, .slice none 0 0, .slice none 0 0, .int .u32 0, .slice none 0 0, .int .u32 0, .int .u16 0, .int .u16 0, .int .u32 0, .int .u8 0, .slice none 0 0, .slice none 0 0, .bool false, .int .u8 0, .int .u8 0, .int .u16 0] (fun w => by kernel_rfl) rfl rfl rfl rfl rfl fun a20 u1 g103 hE20 hS20 => ?_
    clear hE19 a19
    clear hS16
    clear w5
    refine seq_storeN hE20 hS20 103 (new := pNul.cells) (by simp [Pkt.cells, Sl.val, pNul, sNil, Value.oneCell']) rfl rfl rfl rfl rfl (by kernel_rfl) rfl rfl rfl fun u2 hS21 => ?_
    clear hS20
    clear u1
    refine seq_pure hE20 4 (.int .i64 v) (fun w => by kernel_rfl) rfl rfl rfl rfl rfl fun a22 hE22 => ?_
    clear hE20 a20
    refine wpList_nil ?_
    refine hK13 _ _ ?_
    clear hK13
    refine wp_seq_k fun K23 hK23 => ?_
    refine wp_seq_k fun K24 hK24 => ?_
    refine wp_region_lit ?_
    refine seq_pure hE22 18 (.int .i64 v) (fun w => by kernel_rfl) rfl rfl rfl rfl rfl fun a25 hE25 => ?_
    clear hE22 a22
    refine wpList_val hE25 19 rfl rfl fun K hK => ?_
    have e18 := hE25.get 18 rfl
    refine exec_wp (v := .bool true) (w' := u2) (by simp [execOp, Act.eval, e18, go_sem, hv]) ?_
    refine hK _ _ fun a26 hE26 => ?_
    clear hK K e18
    clear hE25 a25
    refine wpList_nil ?_
    refine hK24 _ _ ?_
    clear hK24
    refine wp_if_t hE26 19 rfl ?_
    refine wp_seq_k fun K27 hK27 => ?_
    refine wp_region_lit ?_
    refine seq_pure hE26 2 (.bool true) (fun w => by kernel_rfl) rfl rfl rfl rfl rfl fun a28 hE28 => ?_
    clear hE26 a26
    refine wpList_nil ?_
    refine hK27 _ _ ?_
    clear hK27
    refine wp_ret ?_
    try simp only [Exit.then]
    refine bodyPost_ret (v := .bool true) (by simp [results, Tryz.results6, go_sem, hE28.get 2 rfl]) hE28.defers ⟨rfl, hS21.below⟩
  case inr =>
    obtain ⟨q, rfl, hRq, hq, hB5⟩ := hL
    obtain ⟨C, tp, T, zc, hC, hOk, hN, hBu, hU⟩ := hR q hRq
    refine hK _ _ fun a15 hE15 => ?_
    clear hK K e14
    clear hE14 a14
    have hBw := hS0.below.trans (hB5.mono hS0.size)
    have hS16 : Stp (fun _ => False) w5 w5 (lookM []) := Stp.refl w5
    clear hS0 hB5
    refine seq_pure hE15 13 (.tuple #[.agg q.cells, .int .i64 0]) (fun w => by kernel_rfl) rfl rfl rfl rfl rfl fun a17 hE17 => ?_
    clear hE15 a15
    refine wpList_val hE17 16 rfl rfl fun K hK => ?_
    have e13 := hE17.get 13 rfl
    go_simp
    refine hK _ _ fun a18 hE18 => ?_
    clear hK K e13
    clear hE17 a17
    refine wpList_val hE18 17 rfl rfl fun K hK => ?_
    have e13 := hE18.get 13 rfl
    go_simp
    refine hK _ _ fun a19 hE19 => ?_
    clear hK K e13
    clear hE18 a18
    refine seq_new hE19 hS16 3 103 (fun g => .pointer (some ⟨g, 0, none⟩)) 38 #[.int .i64 0, .int .u32 0, .int .u32 0, .int .u64 0, .int .u32 0, .int .u32 0, .int .u32 0, .slice none 0 0, .slice none 0 0, .slice none 0 0, .slice none 0 0, .string ByteArray.empty, .int .u8 0, .slice none 0 0, .slice none 0 0, .slice none 0 0, .slice none 0 0, .int .u32 0, .slice none 0 0, .int .u32 0, .int .u16 0, .int .u16 0, .int .u32 0, .int .u8 0, .slice none 0 0, .slice none 0 0, .bool false, .int .u8 0, .int .u8 0, .int .u16 0] (fun w => by kernel_rfl) rfl rfl rfl rfl rfl fun a20 u1 g103 hE20 hS20 => ?_
    clear hE19 a19
    clear hS16
    refine seq_storeN hE20 hS20 103 (new := q.cells) (by simp [Pkt.cells, Sl.val, pNul, sNil, Value.oneCell']) rfl rfl rfl rfl rfl (by kernel_rfl) rfl rfl rfl fun u2 hS21 => ?_
    clear hS20
    clear u1
    refine seq_pure hE20 4 (.int .i64 0) (fun w => by kernel_rfl) rfl rfl rfl rfl rfl fun a22 hE22 => ?_
    clear hE20 a20
    refine wpList_nil ?_
    refine hK13 _ _ ?_
    clear hK13
    refine wp_seq_k fun K23 hK23 => ?_
    refine wp_seq_k fun K24 hK24 => ?_
    refine wp_region_lit ?_
    refine seq_pure hE22 18 (.int .i64 0) (fun w => by kernel_rfl) rfl rfl rfl rfl rfl fun a25 hE25 => ?_
    clear hE22 a22
    refine wpList_val hE25 19 rfl rfl fun K hK => ?_
    have e18 := hE25.get 18 rfl
    go_simp
    refine hK _ _ fun a26 hE26 => ?_
    clear hK K e18
    clear hE25 a25
    refine wpList_nil ?_
    refine hK24 _ _ ?_
    clear hK24
    refine wp_if_f hE26 19 rfl ?_
    refine wp_skip ?_
    refine hK23 _ _ ?_
    clear hK23
    refine wp_seq_k fun K27 hK27 => ?_
    refine wp_region_lit ?_
    refine seq_pure hE26 21 (.pointer (some ⟨g103, 0, none⟩)) (fun w => by kernel_rfl) rfl rfl rfl rfl rfl fun a28 hE28 => ?_
    clear hE26 a26
    refine seq_load hE28 hS21 22 103 0 (v := .int .i64 q.kind) (fun w => by kernel_rfl) rfl rfl rfl rfl rfl rfl rfl fun a29 hE29 => ?_
    clear hE28 a28
    refine seq_pure hE29 23 (.slice A (z.length : Nat) c0) (fun w => by kernel_rfl) rfl rfl rfl rfl rfl fun a30 hE30 => ?_
    clear hE29 a29
    refine wpList_val hE30 24 rfl rfl fun K hK => ?_
    have e22 := hE30.get 22 rfl
    have e23 := hE30.get 23 rfl
    go_simp
    refine (unmarshalOne_any A c0 z (fun r => r.clean = C) (hz q hRq) (by omega) hN hBu hU u2 ((hr.below (hBw.trans (hS21.below.mono hBw.size))).more (hBw.trans (hS21.below.mono hBw.size)).size)).mono ?_
    rintro e w7 ⟨q2, rfl, hq2, hC2, hB7⟩
    refine hK _ _ fun a31 hE31 => ?_
    clear hK K e22 e23
    clear hE30 a30
    have hb3 : Blk w7 g103 38 q.cells := (hS21.still hB7).blk 103 rfl
    have hBw7 := hBw.trans ((hS21.below.trans (hB7.mono hS21.size)).mono hBw.size)
    have hq7 := (hq.below (hS21.below.trans (hB7.mono hS21.size))).moreC (hS21.below.trans (hB7.mono hS21.size)).size
    have hS32 : Stp (fun _ => False) w7 w7 (lookM [(103, some (ckP (OldAt (fun _ => False) w7 g103 0 q.cells.toList)))]) := stp_oldB (L := []) (Stp.refl w7) 103 hb3
    clear hS21
    refine seq_pure hE31 20 (.tuple #[.agg q2.cells, .bool true]) (fun w => by kernel_rfl) rfl rfl rfl rfl rfl fun a33 hE33 => ?_
    clear hE31 a31
    refine wpList_val hE33 25 rfl rfl fun K hK => ?_
    have e20 := hE33.get 20 rfl
    go_simp
    refine hK _ _ fun a34 hE34 => ?_
    clear hK K e20
    clear hE33 a33
    refine wpList_val hE34 26 rfl rfl fun K hK => ?_
    have e20 := hE34.get 20 rfl
    go_simp
    refine hK _ _ fun a35 hE35 => ?_
    clear hK K e20
    clear hE34 a34
    refine seq_new hE35 hS32 5 105 (fun g => .pointer (some ⟨g, 0, none⟩)) 53 #[.int .i64 0, .int .u32 0, .int .u32 0, .int .u64 0, .int .u32 0, .int .u32 0, .int .u32 0, .slice none 0 0, .slice none 0 0, .slice none 0 0, .slice none 0 0, .string ByteArray.empty, .int .u8 0, .slice none 0 0, .slice none 0 0, .slice none 0 0, .slice none 0 0, .int .u32 0, .slice none 0 0, .int .u32 0, .int .u16 0, .int .u16 0, .int .u32 0, .int .u8 0, .slice none 0 0, .slice none 0 0, .bool false, .int .u8 0, .int .u8 0, .int .u16 0] (fun w => by kernel_rfl) rfl rfl rfl rfl rfl fun a36 u3 g105 hE36 hS36 => ?_
    clear hE35 a35
    clear hS32
    refine seq_storeN hE36 hS36 105 (new := q2.cells) (by simp [Pkt.cells, Sl.val, Value.oneCell']) rfl rfl rfl rfl rfl (by kernel_rfl) rfl rfl rfl fun u4 hS37 => ?_
    clear hS36
    clear u3
    refine seq_pure hE36 6 (.bool true) (fun w => by kernel_rfl) rfl rfl rfl rfl rfl fun a38 hE38 => ?_
    clear hE36 a36
    refine wpList_nil ?_
    refine hK27 _ _ ?_
    clear hK27
    refine wp_seq_k fun K39 hK39 => ?_
    have hE40 := hE38.keep (l' := [(0, .slice A (z.length : Nat) c0), (2, .bool false), (7, .slice A (z.length : Nat) c0), (8, .int .i64 (z.length : Nat)), (9, .bool false), (10, .slice A (z.length : Nat) c0), (11, .int .i64 (z.length : Nat)), (12, .bool false), (14, .slice A (z.length : Nat) c0), (15, .tuple #[.agg q.cells, .int .i64 0]), (13, .tuple #[.agg q.cells, .int .i64 0]), (16, .agg q.cells), (17, .int .i64 0), (3, .pointer (some ⟨g103, 0, none⟩)), (4, .int .i64 0), (18, .int .i64 0), (19, .bool false), (21, .pointer (some ⟨g103, 0, none⟩)), (22, .int .i64 q.kind), (23, .slice A (z.length : Nat) c0), (24, .tuple #[.agg q2.cells, .bool true]), (20, .tuple #[.agg q2.cells, .bool true]), (25, .agg q2.cells), (26, .bool true), (5, .pointer (some ⟨g105, 0, none⟩)), (6, .bool true)]) ⟨hE38.get 0 rfl, hE38.get 2 rfl, hE38.get 7 rfl, hE38.get 8 rfl, hE38.get 9 rfl, hE38.get 10 rfl, hE38.get 11 rfl, hE38.get 12 rfl, hE38.get 14 rfl, hE38.get 15 rfl, hE38.get 13 rfl, hE38.get 16 rfl, hE38.get 17 rfl, hE38.get 3 rfl, hE38.get 4 rfl, hE38.get 18 rfl, hE38.get 19 rfl, hE38.get 21 rfl, hE38.get 22 rfl, hE38.get 23 rfl, hE38.get 24 rfl, hE38.get 20 rfl, hE38.get 25 rfl, hE38.get 26 rfl, hE38.get 5 rfl, hE38.get 6 rfl, trivial⟩
    clear hE38
    have hS41 := hS37.keep (L' := [(105, some (ckB (g105) 53 (q2.cells))), (103, some (ckP (OldAt (fun _ => False) w7 g103 0 q.cells.toList)))]) ⟨rfl, rfl, trivial⟩
    clear hS37
    have hS : Stp (fun _ => False) w7 u4 (lookM (den (fun _ => False) w7 [(105, some (.blk g105 53 q2.cells)), (103, some (.old g103 0 q.cells.toList))])) := hS41
    have hE := hE40
    clear hE40 hS41
    refine dgE hE hS [pu, pu, ld 105, cu 20 [] [90] (fun y => .agg (dP y.v).cells) (fun y => [some (.ck (ckK C q2 y))]), cu 19 [90] [] (fun _ => .string (strB (keyB C))) (fun _ => []), lo 103 0, cu 19 [] [] (fun _ => .string (strB (keyB C))) (fun _ => []), pf (.bool true), pu, pu] (fun _ => kp [(2, .bool true)]) (fun p1 => kP [(90, some (.ck (ckK C q2 (p1 3))))]) (fun p1 => ⟨kr (cu_plainL (w0 := w7) (ps := [none]) 90 hC2 hOk hq2), kr (cu_keyC (w0 := w7) 90 (p1 3) hOk hq2), kr (cu_key0 (w0 := w7) hC hOk hq7), kr (streq_run (strB (keyB C))), trivial⟩) fun p1 a u hE hS => ?_
    refine hK39 _ _ ?_
    clear hK39
    refine wp_ret ?_
    try simp only [Exit.then]
    refine bodyPost_ret (v := .bool true) (by simp [results, Tryz.results6, go_sem, hE.get 2 rfl]) hE.defers ⟨rfl, hBw7.trans (hS.below.mono hBw7.size)⟩

end Go.Proofs.YtmmfpgoodfgkbaaGreat
