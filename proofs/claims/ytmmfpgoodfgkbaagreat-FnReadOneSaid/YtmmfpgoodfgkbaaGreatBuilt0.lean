/-
  THE WALKS of the thin package's making of an empty packet of each kind: all its lists are nil. No condition.
-/
import Derived.Test.YtmmfpgoodfgkbaaGreatUm
import Derived.Test.YtmmfpgoodfgkbaaGreatMClone
namespace Go.Proofs.YtmmfpgoodfgkbaaGreat
open Go Go.RowKit
set_option linter.unusedVariables false
set_option linter.unusedSimpArgs false

theorem cu_nil {olds : Nat → Prop} {w0 : World} (f : FuncId) (args : Array Value) (v : Value) (h : ∀ w, Calls Tryz.prog f args w fun e w' => e = .returned v ∧ Below w.heap.size w w') (L : PL) (w : World) (hps : [] = ([] ++ []).map (lookP L)) (hS : Stp olds w0 w (restr ([] ++ []) (lookM (den olds w0 L)))) :
    Calls Tryz.prog f args w fun e w' => ∃ x : Pay, e = .returned v ∧ Stp (blksOf (lookM (den olds w0 L)) []) w w' (lookM (den olds w0 (zipW [] []))) :=
  (h w).mono fun e w' ⟨he, hB⟩ => ⟨pay0, he, stp_of_below hB⟩
theorem clone8_nil (w : World) : Calls Tryz.prog 44 #[.slice none 0 0] w fun e w' => e = .returned (.slice none 0 0) ∧ Below w.heap.size w w' := by
  have qT : ∀ (w : World) (a : Option Addr) (n c n' c' : Nat), (binOp .eql 25 (.slice a n c) (.slice none n' c')).run Tryz.prog w = .ok (.bool a.isNone) w := fun w a n c n' c' => Lib.run_eql_slice_nil w _ _ a n c n' c' Tryz.underlying25
  go_enter Tryz.func44, Tryz.ntmps44
  go_wp2_with (simp only [qT])
  go_ret
  exact ⟨rfl, Below.refl _ _⟩
theorem clone32_nil (w : World) : Calls Tryz.prog 28 #[.slice none 0 0] w fun e w' => e = .returned (.slice none 0 0) ∧ Below w.heap.size w w' := by
  have qT : ∀ (w : World) (a : Option Addr) (n c n' c' : Nat), (binOp .eql 27 (.slice a n c) (.slice none n' c')).run Tryz.prog w = .ok (.bool a.isNone) w := fun w a n c n' c' => Lib.run_eql_slice_nil w _ _ a n c n' c' Tryz.underlying27
  go_enter Tryz.func28, Tryz.ntmps28
  go_wp2_with (simp only [qT])
  go_ret
  exact ⟨rfl, Below.refl _ _⟩
set_option maxHeartbeats 4000000 in
set_option maxRecDepth 100000 in
theorem reports_nil (w : World) : Calls Tryz.prog 55 #[.slice none 0 0] w fun e w' => e = .returned (.slice none 0 0) ∧ Below w.heap.size w w' := by
  refine go_in Tryz.func55 rfl Tryz.ntmps55 [.slice none 0 0] fun a hE => ?_
  have hS := stp_in w
  refine rg hE hS [pu] (fun _ => kp [(2, .slice none 0 0)]) (fun _ => kP []) fun _ a u hE hS => ?_
  refine rg hE hS [pu] (fun _ => kp [(3, .slice none 0 0)]) (fun _ => kP []) fun _ a u hE hS => ?_
  refine wp_seq ?_
  refine rg hE hS [pu, pu, pu] (fun _ => kp [(6, .slice none 0 0), (7, .int .i64 0), (8, .int .i64 0)]) (fun _ => kP []) fun _ a u hE hS => ?_
  refine range_up hE hS 8 0 (fun _ _ => kd [8, 9, 30] []) (fun _ _ => kP []) (fun _ (_ : Unit) => True) () (by omega) (trivial) (fun k x a u hk => absurd hk (Nat.not_lt_zero k)) fun _ a u hI hE hS => ?_
  refine rg hE hS [pu, pu] (fun _ => kp []) (fun _ => kP []) fun _ a u hE hS => ?_
  refine wp_ret ?_
  exact ret1 hE Tryz.results55 (.slice none 0 0) ⟨rfl, hS.below⟩
set_option maxHeartbeats 4000000 in
set_option maxRecDepth 100000 in
theorem built0_1 (w : World) : Calls Tryz.prog 29 #[.agg (pFb 1 0 0).cells] w fun e w' => ∃ g, e = .returned (.iface 151 (.pointer (some ⟨g, 0, none⟩))) ∧ Blk w' g 155 #[.int .u32 0, .int .u64 0, .int .u32 0, .int .u32 0, .int .u32 0, .slice none 0 0, .slice none 0 0] ∧ w.heap.size ≤ g ∧ Below w.heap.size w w' := by
  refine go_in Tryz.func29 rfl Tryz.ntmps29 [.agg (pFb 1 0 0).cells] fun a hE => ?_
  have hS := stp_in w
  refine rg hE hS [nw 100, pu] (fun p1 => kp [(1, pt (p1 0).g 0), (2, .nilIface)]) (fun p1 => kP [(100, some (.blk (p1 0).g 53 (pFb 1 0 0).cells))]) fun p1 a u hE hS => ?_
  refine wp_seq ?_
  refine rg hE hS [pu, ld 100] (fun _ => kp [(14, .int .i64 1)]) (fun _ => kP []) fun _ a u hE hS => ?_
  refine wp_block ?_
  refine rg hE hS [pu, pu] (fun _ => kp [(15, .bool true)]) (fun _ => kP []) fun _ a u hE hS => ?_
  refine ift hE ?_
  refine dgp hE hS [pu, ld 100, pu, ld 100, pu, ld 100, pu, ld 100, pu, ld 100, pu, ld 100, cu 55 [] [] (fun _ => .slice none 0 0) (fun _ => []), pu, ld 100, cu 44 [] [] (fun _ => .slice none 0 0) (fun _ => []), pu, nw 101, pu, pu] (fun p4 => kp [(2, .iface 151 (pt (p4 17).g 0))]) (fun p4 => kP [(101, some (.blk (p4 17).g 155 #[.int .u32 0, .int .u64 0, .int .u32 0, .int .u32 0, .int .u32 0, .slice none 0 0, .slice none 0 0]))]) (fun _ => ⟨kr (cu_nil (w0 := w) (olds := fun _ => False) 55 #[.slice none 0 0] (.slice none 0 0) reports_nil), kr (cu_nil (w0 := w) (olds := fun _ => False) 44 #[.slice none 0 0] (.slice none 0 0) clone8_nil), trivial⟩) fun p4 a u hE hS => ?_
  refine wp_ret (bkR (thR ?_))
  exact ret1 hE Tryz.results29 (.iface 151 (pt (p4 17).g 0)) ⟨_, rfl, pcB hS 101, pcH (g := (p4 17).g) (T := 155) (cs := #[.int .u32 0, .int .u64 0, .int .u32 0, .int .u32 0, .int .u32 0, .slice none 0 0, .slice none 0 0]) hS 101, hS.below⟩

set_option maxHeartbeats 4000000 in
set_option maxRecDepth 100000 in
theorem built0_2 (w : World) : Calls Tryz.prog 29 #[.agg (pFb 2 0 0).cells] w fun e w' => ∃ g, e = .returned (.iface 156 (.pointer (some ⟨g, 0, none⟩))) ∧ Blk w' g 158 #[.int .u32 0, .slice none 0 0, .slice none 0 0] ∧ w.heap.size ≤ g ∧ Below w.heap.size w w' := by
  refine go_in Tryz.func29 rfl Tryz.ntmps29 [.agg (pFb 2 0 0).cells] fun a hE => ?_
  have hS := stp_in w
  refine rg hE hS [nw 100, pu] (fun p1 => kp [(1, pt (p1 0).g 0), (2, .nilIface)]) (fun p1 => kP [(100, some (.blk (p1 0).g 53 (pFb 2 0 0).cells))]) fun p1 a u hE hS => ?_
  refine wp_seq ?_
  refine rg hE hS [pu, ld 100] (fun _ => kp [(14, .int .i64 2)]) (fun _ => kP []) fun _ a u hE hS => ?_
  refine wp_block ?_
  refine rg hE hS [pu, pu] (fun _ => kp [(15, .bool false)]) (fun _ => kP []) fun _ a u hE hS => ?_
  refine iff hE ?_
  refine rg hE hS [pu, pu] (fun _ => kp [(36, .bool true)]) (fun _ => kP []) fun _ a u hE hS => ?_
  refine ift hE ?_
  refine dgp hE hS [pu, ld 100, pu, ld 100, cu 55 [] [] (fun _ => .slice none 0 0) (fun _ => []), pu, ld 100, cu 44 [] [] (fun _ => .slice none 0 0) (fun _ => []), pu, nw 101, pu, pu] (fun p5 => kp [(2, .iface 156 (pt (p5 9).g 0))]) (fun p5 => kP [(101, some (.blk (p5 9).g 158 #[.int .u32 0, .slice none 0 0, .slice none 0 0]))]) (fun _ => ⟨kr (cu_nil (w0 := w) (olds := fun _ => False) 55 #[.slice none 0 0] (.slice none 0 0) reports_nil), kr (cu_nil (w0 := w) (olds := fun _ => False) 44 #[.slice none 0 0] (.slice none 0 0) clone8_nil), trivial⟩) fun p5 a u hE hS => ?_
  refine wp_ret (bkR (thR ?_))
  exact ret1 hE Tryz.results29 (.iface 156 (pt (p5 9).g 0)) ⟨_, rfl, pcB hS 101, pcH (g := (p5 9).g) (T := 158) (cs := #[.int .u32 0, .slice none 0 0, .slice none 0 0]) hS 101, hS.below⟩

set_option maxHeartbeats 4000000 in
set_option maxRecDepth 100000 in
theorem built0_4 (w : World) : Calls Tryz.prog 29 #[.agg (pFb 4 0 0).cells] w fun e w' => ∃ g, e = .returned (.iface 161 (.pointer (some ⟨g, 0, none⟩))) ∧ Blk w' g 163 #[.slice none 0 0, .string ByteArray.empty] ∧ w.heap.size ≤ g ∧ Below w.heap.size w w' := by
  refine go_in Tryz.func29 rfl Tryz.ntmps29 [.agg (pFb 4 0 0).cells] fun a hE => ?_
  have hS := stp_in w
  refine rg hE hS [nw 100, pu] (fun p1 => kp [(1, pt (p1 0).g 0), (2, .nilIface)]) (fun p1 => kP [(100, some (.blk (p1 0).g 53 (pFb 4 0 0).cells))]) fun p1 a u hE hS => ?_
  refine wp_seq ?_
  refine rg hE hS [pu, ld 100] (fun _ => kp [(14, .int .i64 4)]) (fun _ => kP []) fun _ a u hE hS => ?_
  refine wp_block ?_
  refine rg hE hS [pu, pu] (fun _ => kp [(15, .bool false)]) (fun _ => kP []) fun _ a u hE hS => ?_
  refine iff hE ?_
  refine rg hE hS [pu, pu] (fun _ => kp [(36, .bool false)]) (fun _ => kP []) fun _ a u hE hS => ?_
  refine iff hE ?_
  refine rg hE hS [pu, pu] (fun _ => kp [(49, .bool false)]) (fun _ => kP []) fun _ a u hE hS => ?_
  refine iff hE ?_
  refine rg hE hS [pu, pu] (fun _ => kp [(55, .bool true)]) (fun _ => kP []) fun _ a u hE hS => ?_
  refine ift hE ?_
  refine dgp hE hS [pu, ld 100, cu 28 [] [] (fun _ => .slice none 0 0) (fun _ => []), pu, ld 100, pu, nw 101, pu, pu] (fun p7 => kp [(2, .iface 161 (pt (p7 6).g 0))]) (fun p7 => kP [(101, some (.blk (p7 6).g 163 #[.slice none 0 0, .string ByteArray.empty]))]) (fun _ => ⟨kr (cu_nil (w0 := w) (olds := fun _ => False) 28 #[.slice none 0 0] (.slice none 0 0) clone32_nil), trivial⟩) fun p7 a u hE hS => ?_
  refine wp_ret (bkR (thR ?_))
  exact ret1 hE Tryz.results29 (.iface 161 (pt (p7 6).g 0)) ⟨_, rfl, pcB hS 101, pcH (g := (p7 6).g) (T := 163) (cs := #[.slice none 0 0, .string ByteArray.empty]) hS 101, hS.below⟩

set_option maxHeartbeats 4000000 in
set_option maxRecDepth 100000 in
theorem built0_5 (w : World) : Calls Tryz.prog 29 #[.agg (pFb 5 0 0).cells] w fun e w' => ∃ g, e = .returned (.iface 164 (.pointer (some ⟨g, 0, none⟩))) ∧ Blk w' g 166 #[.int .u8 0, .int .u32 0, .string ByteArray.empty, .slice none 0 0] ∧ w.heap.size ≤ g ∧ Below w.heap.size w w' := by
  refine go_in Tryz.func29 rfl Tryz.ntmps29 [.agg (pFb 5 0 0).cells] fun a hE => ?_
  have hS := stp_in w
  refine rg hE hS [nw 100, pu] (fun p1 => kp [(1, pt (p1 0).g 0), (2, .nilIface)]) (fun p1 => kP [(100, some (.blk (p1 0).g 53 (pFb 5 0 0).cells))]) fun p1 a u hE hS => ?_
  refine wp_seq ?_
  refine rg hE hS [pu, ld 100] (fun _ => kp [(14, .int .i64 5)]) (fun _ => kP []) fun _ a u hE hS => ?_
  refine wp_block ?_
  refine rg hE hS [pu, pu] (fun _ => kp [(15, .bool false)]) (fun _ => kP []) fun _ a u hE hS => ?_
  refine iff hE ?_
  refine rg hE hS [pu, pu] (fun _ => kp [(36, .bool false)]) (fun _ => kP []) fun _ a u hE hS => ?_
  refine iff hE ?_
  refine rg hE hS [pu, pu] (fun _ => kp [(49, .bool false)]) (fun _ => kP []) fun _ a u hE hS => ?_
  refine iff hE ?_
  refine rg hE hS [pu, pu] (fun _ => kp [(55, .bool false)]) (fun _ => kP []) fun _ a u hE hS => ?_
  refine iff hE ?_
  refine rg hE hS [pu, pu] (fun _ => kp [(65, .bool true)]) (fun _ => kP []) fun _ a u hE hS => ?_
  refine ift hE ?_
  refine dgp hE hS [pu, ld 100, pu, ld 100, pu, ld 100, pu, ld 100, cu 44 [] [] (fun _ => .slice none 0 0) (fun _ => []), pu, nw 101, pu, pu] (fun p8 => kp [(2, .iface 164 (pt (p8 10).g 0))]) (fun p8 => kP [(101, some (.blk (p8 10).g 166 #[.int .u8 0, .int .u32 0, .string ByteArray.empty, .slice none 0 0]))]) (fun _ => ⟨kr (cu_nil (w0 := w) (olds := fun _ => False) 44 #[.slice none 0 0] (.slice none 0 0) clone8_nil), trivial⟩) fun p8 a u hE hS => ?_
  refine wp_ret (bkR (thR ?_))
  exact ret1 hE Tryz.results29 (.iface 164 (pt (p8 10).g 0)) ⟨_, rfl, pcB hS 101, pcH (g := (p8 10).g) (T := 166) (cs := #[.int .u8 0, .int .u32 0, .string ByteArray.empty, .slice none 0 0]) hS 101, hS.below⟩

set_option maxHeartbeats 4000000 in
set_option maxRecDepth 100000 in
theorem built0_6 (w : World) : Calls Tryz.prog 29 #[.agg (pFb 6 0 0).cells] w fun e w' => ∃ g, e = .returned (.iface 167 (.pointer (some ⟨g, 0, none⟩))) ∧ Blk w' g 170 #[.int .u32 0, .int .u32 0, .slice none 0 0] ∧ w.heap.size ≤ g ∧ Below w.heap.size w w' := by
  refine go_in Tryz.func29 rfl Tryz.ntmps29 [.agg (pFb 6 0 0).cells] fun a hE => ?_
  have hS := stp_in w
  refine rg hE hS [nw 100, pu] (fun p1 => kp [(1, pt (p1 0).g 0), (2, .nilIface)]) (fun p1 => kP [(100, some (.blk (p1 0).g 53 (pFb 6 0 0).cells))]) fun p1 a u hE hS => ?_
  refine wp_seq ?_
  refine rg hE hS [pu, ld 100] (fun _ => kp [(14, .int .i64 6)]) (fun _ => kP []) fun _ a u hE hS => ?_
  refine wp_block ?_
  refine rg hE hS [pu, pu] (fun _ => kp [(15, .bool false)]) (fun _ => kP []) fun _ a u hE hS => ?_
  refine iff hE ?_
  refine rg hE hS [pu, pu] (fun _ => kp [(36, .bool false)]) (fun _ => kP []) fun _ a u hE hS => ?_
  refine iff hE ?_
  refine rg hE hS [pu, pu] (fun _ => kp [(49, .bool false)]) (fun _ => kP []) fun _ a u hE hS => ?_
  refine iff hE ?_
  refine rg hE hS [pu, pu] (fun _ => kp [(55, .bool false)]) (fun _ => kP []) fun _ a u hE hS => ?_
  refine iff hE ?_
  refine rg hE hS [pu, pu] (fun _ => kp [(65, .bool false)]) (fun _ => kP []) fun _ a u hE hS => ?_
  refine iff hE ?_
  refine rg hE hS [pu, pu] (fun _ => kp [(79, .bool true)]) (fun _ => kP []) fun _ a u hE hS => ?_
  refine ift hE ?_
  refine rg hE hS [pu, ld 100, pu, ld 100, pu, nw 101, pu] (fun p9 => kp [(3, pt (p9 5).g 0)]) (fun p9 => kP [(101, some (.blk (p9 5).g 170 #[.int .u32 0, .int .u32 0, .slice none 0 0]))]) fun p9 a u hE hS => ?_
  refine wp_seq ?_
  refine rg hE hS [pu, ld 100, pu, pu] (fun _ => kp [(88, .slice none 0 0), (89, .int .i64 0), (90, .int .i64 0)]) (fun _ => kP []) fun _ a u hE hS => ?_
  refine range_up hE hS 90 0 (fun _ _ => kd [90, 91, 108] []) (fun _ _ => kP []) (fun _ (_ : Unit) => True) () (by omega) (trivial) (fun k x a u hk => absurd hk (Nat.not_lt_zero k)) fun _ a u hI hE hS => ?_
  refine rg hE hS [pu, pu, pu] (fun _ => kn [(2, .iface 167 (pt (p9 5).g 0))] []) (fun _ => kN [] [101]) fun _ a u hE hS => ?_
  refine wp_ret (bkR (thR ?_))
  exact ret1 hE Tryz.results29 (.iface 167 (pt (p9 5).g 0)) ⟨_, rfl, pcB hS 101, pcH (g := (p9 5).g) (T := 170) (cs := #[.int .u32 0, .int .u32 0, .slice none 0 0]) hS 101, hS.below⟩

set_option maxHeartbeats 4000000 in
set_option maxRecDepth 100000 in
theorem built0_7 (w : World) : Calls Tryz.prog 29 #[.agg (pFb 7 0 0).cells] w fun e w' => ∃ g, e = .returned (.iface 174 (.pointer (some ⟨g, 0, none⟩))) ∧ Blk w' g 176 #[.int .u32 0, .int .u32 0] ∧ w.heap.size ≤ g ∧ Below w.heap.size w w' := by
  refine go_in Tryz.func29 rfl Tryz.ntmps29 [.agg (pFb 7 0 0).cells] fun a hE => ?_
  have hS := stp_in w
  refine rg hE hS [nw 100, pu] (fun p1 => kp [(1, pt (p1 0).g 0), (2, .nilIface)]) (fun p1 => kP [(100, some (.blk (p1 0).g 53 (pFb 7 0 0).cells))]) fun p1 a u hE hS => ?_
  refine wp_seq ?_
  refine rg hE hS [pu, ld 100] (fun _ => kp [(14, .int .i64 7)]) (fun _ => kP []) fun _ a u hE hS => ?_
  refine wp_block ?_
  refine rg hE hS [pu, pu] (fun _ => kp [(15, .bool false)]) (fun _ => kP []) fun _ a u hE hS => ?_
  refine iff hE ?_
  refine rg hE hS [pu, pu] (fun _ => kp [(36, .bool false)]) (fun _ => kP []) fun _ a u hE hS => ?_
  refine iff hE ?_
  refine rg hE hS [pu, pu] (fun _ => kp [(49, .bool false)]) (fun _ => kP []) fun _ a u hE hS => ?_
  refine iff hE ?_
  refine rg hE hS [pu, pu] (fun _ => kp [(55, .bool false)]) (fun _ => kP []) fun _ a u hE hS => ?_
  refine iff hE ?_
  refine rg hE hS [pu, pu] (fun _ => kp [(65, .bool false)]) (fun _ => kP []) fun _ a u hE hS => ?_
  refine iff hE ?_
  refine rg hE hS [pu, pu] (fun _ => kp [(79, .bool false)]) (fun _ => kP []) fun _ a u hE hS => ?_
  refine iff hE ?_
  refine rg hE hS [pu, pu] (fun _ => kp [(111, .bool true)]) (fun _ => kP []) fun _ a u hE hS => ?_
  refine ift hE ?_
  refine rg hE hS [pu, ld 100, pu, ld 100, pu, nw 101, pu, pu] (fun p10 => kp [(2, .iface 174 (pt (p10 5).g 0))]) (fun p10 => kP [(101, some (.blk (p10 5).g 176 #[.int .u32 0, .int .u32 0]))]) fun p10 a u hE hS => ?_
  refine wp_ret (bkR (thR ?_))
  exact ret1 hE Tryz.results29 (.iface 174 (pt (p10 5).g 0)) ⟨_, rfl, pcB hS 101, pcH (g := (p10 5).g) (T := 176) (cs := #[.int .u32 0, .int .u32 0]) hS 101, hS.below⟩

set_option maxHeartbeats 4000000 in
set_option maxRecDepth 100000 in
theorem built0_9 (w : World) : Calls Tryz.prog 29 #[.agg (pFb 9 0 0).cells] w fun e w' => ∃ g, e = .returned (.iface 182 (.pointer (some ⟨g, 0, none⟩))) ∧ Blk w' g 183 #[.int .u32 0, .int .u32 0] ∧ w.heap.size ≤ g ∧ Below w.heap.size w w' := by
  refine go_in Tryz.func29 rfl Tryz.ntmps29 [.agg (pFb 9 0 0).cells] fun a hE => ?_
  have hS := stp_in w
  refine rg hE hS [nw 100, pu] (fun p1 => kp [(1, pt (p1 0).g 0), (2, .nilIface)]) (fun p1 => kP [(100, some (.blk (p1 0).g 53 (pFb 9 0 0).cells))]) fun p1 a u hE hS => ?_
  refine wp_seq ?_
  refine rg hE hS [pu, ld 100] (fun _ => kp [(14, .int .i64 9)]) (fun _ => kP []) fun _ a u hE hS => ?_
  refine wp_block ?_
  refine rg hE hS [pu, pu] (fun _ => kp [(15, .bool false)]) (fun _ => kP []) fun _ a u hE hS => ?_
  refine iff hE ?_
  refine rg hE hS [pu, pu] (fun _ => kp [(36, .bool false)]) (fun _ => kP []) fun _ a u hE hS => ?_
  refine iff hE ?_
  refine rg hE hS [pu, pu] (fun _ => kp [(49, .bool false)]) (fun _ => kP []) fun _ a u hE hS => ?_
  refine iff hE ?_
  refine rg hE hS [pu, pu] (fun _ => kp [(55, .bool false)]) (fun _ => kP []) fun _ a u hE hS => ?_
  refine iff hE ?_
  refine rg hE hS [pu, pu] (fun _ => kp [(65, .bool false)]) (fun _ => kP []) fun _ a u hE hS => ?_
  refine iff hE ?_
  refine rg hE hS [pu, pu] (fun _ => kp [(79, .bool false)]) (fun _ => kP []) fun _ a u hE hS => ?_
  refine iff hE ?_
  refine rg hE hS [pu, pu] (fun _ => kp [(111, .bool false)]) (fun _ => kP []) fun _ a u hE hS => ?_
  refine iff hE ?_
  refine rg hE hS [pu, pu] (fun _ => kp [(120, .bool false)]) (fun _ => kP []) fun _ a u hE hS => ?_
  refine iff hE ?_
  refine rg hE hS [pu, pu] (fun _ => kp [(132, .bool true)]) (fun _ => kP []) fun _ a u hE hS => ?_
  refine ift hE ?_
  refine rg hE hS [pu, ld 100, pu, ld 100, pu, nw 101, pu, pu] (fun p12 => kp [(2, .iface 182 (pt (p12 5).g 0))]) (fun p12 => kP [(101, some (.blk (p12 5).g 183 #[.int .u32 0, .int .u32 0]))]) fun p12 a u hE hS => ?_
  refine wp_ret (bkR (thR ?_))
  exact ret1 hE Tryz.results29 (.iface 182 (pt (p12 5).g 0)) ⟨_, rfl, pcB hS 101, pcH (g := (p12 5).g) (T := 183) (cs := #[.int .u32 0, .int .u32 0]) hS 101, hS.below⟩

set_option maxHeartbeats 4000000 in
set_option maxRecDepth 100000 in
theorem built0_10 (w : World) : Calls Tryz.prog 29 #[.agg (pFb 10 0 0).cells] w fun e w' => ∃ g, e = .returned (.iface 184 (.pointer (some ⟨g, 0, none⟩))) ∧ Blk w' g 187 #[.int .u32 0, .int .u32 0, .slice none 0 0] ∧ w.heap.size ≤ g ∧ Below w.heap.size w w' := by
  refine go_in Tryz.func29 rfl Tryz.ntmps29 [.agg (pFb 10 0 0).cells] fun a hE => ?_
  have hS := stp_in w
  refine rg hE hS [nw 100, pu] (fun p1 => kp [(1, pt (p1 0).g 0), (2, .nilIface)]) (fun p1 => kP [(100, some (.blk (p1 0).g 53 (pFb 10 0 0).cells))]) fun p1 a u hE hS => ?_
  refine wp_seq ?_
  refine rg hE hS [pu, ld 100] (fun _ => kp [(14, .int .i64 10)]) (fun _ => kP []) fun _ a u hE hS => ?_
  refine wp_block ?_
  refine rg hE hS [pu, pu] (fun _ => kp [(15, .bool false)]) (fun _ => kP []) fun _ a u hE hS => ?_
  refine iff hE ?_
  refine rg hE hS [pu, pu] (fun _ => kp [(36, .bool false)]) (fun _ => kP []) fun _ a u hE hS => ?_
  refine iff hE ?_
  refine rg hE hS [pu, pu] (fun _ => kp [(49, .bool false)]) (fun _ => kP []) fun _ a u hE hS => ?_
  refine iff hE ?_
  refine rg hE hS [pu, pu] (fun _ => kp [(55, .bool false)]) (fun _ => kP []) fun _ a u hE hS => ?_
  refine iff hE ?_
  refine rg hE hS [pu, pu] (fun _ => kp [(65, .bool false)]) (fun _ => kP []) fun _ a u hE hS => ?_
  refine iff hE ?_
  refine rg hE hS [pu, pu] (fun _ => kp [(79, .bool false)]) (fun _ => kP []) fun _ a u hE hS => ?_
  refine iff hE ?_
  refine rg hE hS [pu, pu] (fun _ => kp [(111, .bool false)]) (fun _ => kP []) fun _ a u hE hS => ?_
  refine iff hE ?_
  refine rg hE hS [pu, pu] (fun _ => kp [(120, .bool false)]) (fun _ => kP []) fun _ a u hE hS => ?_
  refine iff hE ?_
  refine rg hE hS [pu, pu] (fun _ => kp [(132, .bool false)]) (fun _ => kP []) fun _ a u hE hS => ?_
  refine iff hE ?_
  refine rg hE hS [pu, pu] (fun _ => kp [(141, .bool true)]) (fun _ => kP []) fun _ a u hE hS => ?_
  refine ift hE ?_
  refine rg hE hS [pu, ld 100, pu, ld 100, pu, nw 101, pu] (fun p13 => kp [(6, pt (p13 5).g 0)]) (fun p13 => kP [(101, some (.blk (p13 5).g 187 #[.int .u32 0, .int .u32 0, .slice none 0 0]))]) fun p13 a u hE hS => ?_
  refine wp_seq ?_
  refine rg hE hS [pu, ld 100, pu, pu] (fun _ => kp [(150, .slice none 0 0), (151, .int .i64 0), (152, .int .i64 0)]) (fun _ => kP []) fun _ a u hE hS => ?_
  refine range_up hE hS 152 0 (fun _ _ => kd [152, 153, 172] []) (fun _ _ => kP []) (fun _ (_ : Unit) => True) () (by omega) (trivial) (fun k x a u hk => absurd hk (Nat.not_lt_zero k)) fun _ a u hI hE hS => ?_
  refine rg hE hS [pu, pu, pu] (fun _ => kn [(2, .iface 184 (pt (p13 5).g 0))] []) (fun _ => kN [] [101]) fun _ a u hE hS => ?_
  refine wp_ret (bkR (thR ?_))
  exact ret1 hE Tryz.results29 (.iface 184 (pt (p13 5).g 0)) ⟨_, rfl, pcB hS 101, pcH (g := (p13 5).g) (T := 187) (cs := #[.int .u32 0, .int .u32 0, .slice none 0 0]) hS 101, hS.below⟩

set_option maxHeartbeats 4000000 in
set_option maxRecDepth 100000 in
theorem built0_11 (w : World) : Calls Tryz.prog 29 #[.agg (pFb 11 0 0).cells] w fun e w' => ∃ g, e = .returned (.iface 189 (.pointer (some ⟨g, 0, none⟩))) ∧ Blk w' g 192 #[.int .u32 0, .int .u32 0, .slice none 0 0] ∧ w.heap.size ≤ g ∧ Below w.heap.size w w' := by
  refine go_in Tryz.func29 rfl Tryz.ntmps29 [.agg (pFb 11 0 0).cells] fun a hE => ?_
  have hS := stp_in w
  refine rg hE hS [nw 100, pu] (fun p1 => kp [(1, pt (p1 0).g 0), (2, .nilIface)]) (fun p1 => kP [(100, some (.blk (p1 0).g 53 (pFb 11 0 0).cells))]) fun p1 a u hE hS => ?_
  refine wp_seq ?_
  refine rg hE hS [pu, ld 100] (fun _ => kp [(14, .int .i64 11)]) (fun _ => kP []) fun _ a u hE hS => ?_
  refine wp_block ?_
  refine rg hE hS [pu, pu] (fun _ => kp [(15, .bool false)]) (fun _ => kP []) fun _ a u hE hS => ?_
  refine iff hE ?_
  refine rg hE hS [pu, pu] (fun _ => kp [(36, .bool false)]) (fun _ => kP []) fun _ a u hE hS => ?_
  refine iff hE ?_
  refine rg hE hS [pu, pu] (fun _ => kp [(49, .bool false)]) (fun _ => kP []) fun _ a u hE hS => ?_
  refine iff hE ?_
  refine rg hE hS [pu, pu] (fun _ => kp [(55, .bool false)]) (fun _ => kP []) fun _ a u hE hS => ?_
  refine iff hE ?_
  refine rg hE hS [pu, pu] (fun _ => kp [(65, .bool false)]) (fun _ => kP []) fun _ a u hE hS => ?_
  refine iff hE ?_
  refine rg hE hS [pu, pu] (fun _ => kp [(79, .bool false)]) (fun _ => kP []) fun _ a u hE hS => ?_
  refine iff hE ?_
  refine rg hE hS [pu, pu] (fun _ => kp [(111, .bool false)]) (fun _ => kP []) fun _ a u hE hS => ?_
  refine iff hE ?_
  refine rg hE hS [pu, pu] (fun _ => kp [(120, .bool false)]) (fun _ => kP []) fun _ a u hE hS => ?_
  refine iff hE ?_
  refine rg hE hS [pu, pu] (fun _ => kp [(132, .bool false)]) (fun _ => kP []) fun _ a u hE hS => ?_
  refine iff hE ?_
  refine rg hE hS [pu, pu] (fun _ => kp [(141, .bool false)]) (fun _ => kP []) fun _ a u hE hS => ?_
  refine iff hE ?_
  refine rg hE hS [pu, pu] (fun _ => kp [(175, .bool true)]) (fun _ => kP []) fun _ a u hE hS => ?_
  refine ift hE ?_
  refine rg hE hS [pu, ld 100, pu, ld 100, pu, nw 101, pu] (fun p14 => kp [(9, pt (p14 5).g 0)]) (fun p14 => kP [(101, some (.blk (p14 5).g 192 #[.int .u32 0, .int .u32 0, .slice none 0 0]))]) fun p14 a u hE hS => ?_
  refine wp_seq ?_
  refine rg hE hS [pu, ld 100, pu, pu] (fun _ => kp [(184, .slice none 0 0), (185, .int .i64 0), (186, .int .i64 0)]) (fun _ => kP []) fun _ a u hE hS => ?_
  refine range_up hE hS 186 0 (fun _ _ => kd [186, 187, 204] []) (fun _ _ => kP []) (fun _ (_ : Unit) => True) () (by omega) (trivial) (fun k x a u hk => absurd hk (Nat.not_lt_zero k)) fun _ a u hI hE hS => ?_
  refine rg hE hS [pu, pu, pu] (fun _ => kn [(2, .iface 189 (pt (p14 5).g 0))] []) (fun _ => kN [] [101]) fun _ a u hE hS => ?_
  refine wp_ret (bkR (thR ?_))
  exact ret1 hE Tryz.results29 (.iface 189 (pt (p14 5).g 0)) ⟨_, rfl, pcB hS 101, pcH (g := (p14 5).g) (T := 192) (cs := #[.int .u32 0, .int .u32 0, .slice none 0 0]) hS 101, hS.below⟩

end Go.Proofs.YtmmfpgoodfgkbaaGreat
