/-
  THE WALKS of the thin package's making of an empty packet: descriptions, congestion feedback, bitrates, transport-wide feedback. No condition.
-/
import Derived.Test.YtmmfpgoodfgkbaaGreatBuilt0
namespace Go.Proofs.YtmmfpgoodfgkbaaGreat
open Go Go.RowKit
set_option linter.unusedVariables false
set_option linter.unusedSimpArgs false

theorem cu_mk {olds : Nat → Prop} {w0 : World} {ps : List (Option Pc)} (f : FuncId) (args : Array Value) (T : TypeId) (zc : Array Value) (k : Nat) (hb : ∀ w, Calls Tryz.prog f args w fun e w' => ∃ g, e = .returned (.pointer (some ⟨g, 0, none⟩)) ∧ Blk w' g T zc ∧ w.heap.size ≤ g ∧ Below w.heap.size w w')
    (L : PL) (w : World) (_ : ps = ([] ++ [k]).map (lookP L)) (hS : Stp olds w0 w (restr ([] ++ [k]) (lookM (den olds w0 L)))) :
    Calls Tryz.prog f args w fun e w' => ∃ x : Pay, e = .returned (.pointer (some ⟨x.g, 0, none⟩)) ∧ Stp (blksOf (lookM (den olds w0 L)) [k]) w w' (lookM (den olds w0 (zipW [k] [some (.blk x.g T zc)]))) := by
  refine (hb w).mono ?_
  rintro e w' ⟨g, rfl, hbl, hg, hB⟩
  exact ⟨⟨g, 0, undef, none⟩, rfl, stp_make (c' := .blk g T zc) hB hbl fun y hy => by have e : y = g := hy; subst e; exact ⟨hbl.lt, hg⟩⟩
set_option maxHeartbeats 4000000 in
set_option maxRecDepth 100000 in
theorem blocks_nil (w : World) : Calls Tryz.prog 57 #[.slice none 0 0] w fun e w' => e = .returned (.slice none 0 0) ∧ Below w.heap.size w w' := by
  refine go_in Tryz.func57 rfl Tryz.ntmps57 [.slice none 0 0] fun a hE => ?_
  have hS := stp_in w
  refine rg hE hS [pu] (fun _ => kp [(2, .slice none 0 0)]) (fun _ => kP []) fun _ a u hE hS => ?_
  refine rg hE hS [pu] (fun _ => kp [(3, .slice none 0 0)]) (fun _ => kP []) fun _ a u hE hS => ?_
  refine wp_seq ?_
  refine rg hE hS [pu, pu, pu] (fun _ => kp [(9, .slice none 0 0), (10, .int .i64 0), (11, .int .i64 0)]) (fun _ => kP []) fun _ a u hE hS => ?_
  refine range_up hE hS 11 0 (fun _ _ => kd [11, 12, 44] []) (fun _ _ => kP []) (fun _ (_ : Unit) => True) () (by omega) (trivial) (fun k x a u hk => absurd hk (Nat.not_lt_zero k)) fun _ a u hI hE hS => ?_
  refine rg hE hS [pu, pu] (fun _ => kp []) (fun _ => kP []) fun _ a u hE hS => ?_
  refine wp_ret ?_
  exact ret1 hE Tryz.results57 (.slice none 0 0) ⟨rfl, hS.below⟩
set_option maxHeartbeats 4000000 in
set_option maxRecDepth 100000 in
theorem desc_nil (w : World) : Calls Tryz.prog 56 #[.slice none 0 0] w fun e w' => ∃ g, e = .returned (.pointer (some ⟨g, 0, none⟩)) ∧ Blk w' g 224 #[.slice none 0 0] ∧ w.heap.size ≤ g ∧ Below w.heap.size w w' := by
  refine go_in Tryz.func56 rfl Tryz.ntmps56 [.slice none 0 0] fun a hE => ?_
  have hS := stp_in w
  refine rg hE hS [pu] (fun _ => kp [(2, .pointer none)]) (fun _ => kP []) fun _ a u hE hS => ?_
  refine rg hE hS [pu, nw 101, pu] (fun p2 => kp [(3, pt (p2 1).g 0)]) (fun p2 => kP [(101, some (.blk (p2 1).g 224 #[.slice none 0 0]))]) fun p2 a u hE hS => ?_
  refine wp_seq ?_
  refine rg hE hS [pu, pu, pu] (fun _ => kp [(11, .slice none 0 0), (12, .int .i64 0), (13, .int .i64 0)]) (fun _ => kP []) fun _ a u hE hS => ?_
  refine range_up hE hS 13 0 (fun _ _ => kd [13, 14, 48] []) (fun _ _ => kP []) (fun _ (_ : Unit) => True) () (by omega) (trivial) (fun k x a u hk => absurd hk (Nat.not_lt_zero k)) fun _ a u hI hE hS => ?_
  refine rg hE hS [pu, pu] (fun _ => kp [(2, pt (p2 1).g 0)]) (fun _ => kP []) fun _ a u hE hS => ?_
  refine wp_ret ?_
  exact ret1 hE Tryz.results56 (pt (p2 1).g 0) ⟨_, rfl, pcB hS 101, pcH (g := (p2 1).g) (T := 224) (cs := #[.slice none 0 0]) hS 101, hS.below⟩
set_option maxHeartbeats 4000000 in
set_option maxRecDepth 100000 in
theorem hdr_nil (w : World) : Calls Tryz.prog 78 #[.agg #[.bool false, .int .u8 0, .int .u8 0, .int .u16 0]] w fun e w' => e = .returned (.agg #[.bool false, .int .u8 0, .int .u8 0, .int .u16 0]) ∧ Below w.heap.size w w' := by
  refine go_in Tryz.func78 rfl Tryz.ntmps78 [.agg #[.bool false, .int .u8 0, .int .u8 0, .int .u16 0]] fun a hE => ?_
  have hS := stp_in w
  refine rg hE hS [nw 100, nw 102] (fun p1 => kp [(1, pt (p1 0).g 0), (2, pt (p1 1).g 0)]) (fun p1 => kP [(100, some (.blk (p1 0).g 51 #[.bool false, .int .u8 0, .int .u8 0, .int .u16 0])), (102, some (.blk (p1 1).g 239 #[.bool false, .int .u8 0, .int .u8 0, .int .u16 0]))]) fun p1 a u hE hS => ?_
  refine rg hE hS [pu, ld 100, pu, ld 100, pu, ld 100, pu, ld 100, pu, st 102] (fun _ => kp []) (fun _ => kP []) fun _ a u hE hS => ?_
  refine wp_ret ?_
  exact retc hE hS Tryz.results78 102 (p1 1).g 239 #[.bool false, .int .u8 0, .int .u8 0, .int .u16 0] ⟨rfl, hS.below⟩ Tryz.underlying239
set_option maxHeartbeats 4000000 in
set_option maxRecDepth 100000 in
theorem transp_nil (w : World) : Calls Tryz.prog 59 #[.agg (pFb 13 0 0).cells] w fun e w' => ∃ g, e = .returned (.pointer (some ⟨g, 0, none⟩)) ∧ Blk w' g 244 #[.bool false, .int .u8 0, .int .u8 0, .int .u16 0, .int .u32 0, .int .u32 0, .int .u16 0, .int .u16 0, .int .u32 0, .int .u8 0, .slice none 0 0, .slice none 0 0] ∧ w.heap.size ≤ g ∧ Below w.heap.size w w' := by
  refine go_in Tryz.func59 rfl Tryz.ntmps59 [.agg (pFb 13 0 0).cells] fun a hE => ?_
  have hS := stp_in w
  refine rg hE hS [nw 100, pu] (fun p1 => kp [(1, pt (p1 0).g 0), (2, .pointer none)]) (fun p1 => kP [(100, some (.blk (p1 0).g 53 (pFb 13 0 0).cells))]) fun p1 a u hE hS => ?_
  refine dgp hE hS [pu, ld 100, cu 78 [] [] (fun _ => .agg #[.bool false, .int .u8 0, .int .u8 0, .int .u16 0]) (fun _ => []), pu, ld 100, pu, ld 100, pu, ld 100, pu, ld 100, pu, ld 100, pu, ld 100, pu, nw 101, pu] (fun p2 => kp [(3, pt (p2 16).g 0)]) (fun p2 => kP [(101, some (.blk (p2 16).g 244 #[.bool false, .int .u8 0, .int .u8 0, .int .u16 0, .int .u32 0, .int .u32 0, .int .u16 0, .int .u16 0, .int .u32 0, .int .u8 0, .slice none 0 0, .slice none 0 0]))]) (fun _ => ⟨kr (cu_nil (w0 := w) (olds := fun _ => False) 78 #[.agg #[.bool false, .int .u8 0, .int .u8 0, .int .u16 0]] (.agg #[.bool false, .int .u8 0, .int .u8 0, .int .u16 0]) hdr_nil), trivial⟩) fun p2 a u hE hS => ?_
  refine wp_seq ?_
  refine rg hE hS [pu, ld 100, pu, pu] (fun _ => kp [(26, .slice none 0 0), (27, .int .i64 0), (28, .int .i64 0)]) (fun _ => kP []) fun _ a u hE hS => ?_
  refine range_up hE hS 28 0 (fun _ _ => kd [28, 29, 67] []) (fun _ _ => kP []) (fun _ (_ : Unit) => True) () (by omega) (trivial) (fun k x a u hk => absurd hk (Nat.not_lt_zero k)) fun _ a u hI hE hS => ?_
  refine wp_seq ?_
  refine rg hE hS [pu, ld 100, pu, pu] (fun _ => kp [(69, .slice none 0 0), (70, .int .i64 0), (71, .int .i64 0)]) (fun _ => kP []) fun _ a u hE hS => ?_
  have hE := end_env (s := ⟨_, []⟩) (s' := ⟨[(0, .agg (pFb 13 0 0).cells), (1, pt (p1 0).g 0), (2, .pointer none), (3, pt (p2 16).g 0), (69, .slice none 0 0), (70, .int .i64 0), (71, .int .i64 0)], []⟩) (fst_snd (by kernel_rfl)) hE
  have hS := end_mem (s := ⟨[], _⟩) (s' := ⟨[], [(100, some (.blk (p1 0).g 53 (pFb 13 0 0).cells)), (101, some (.blk (p2 16).g 244 #[.bool false, .int .u8 0, .int .u8 0, .int .u16 0, .int .u32 0, .int .u32 0, .int .u16 0, .int .u16 0, .int .u32 0, .int .u8 0, .slice none 0 0, .slice none 0 0]))]⟩) (fst_snd (by kernel_rfl)) hS
  refine range_up hE hS 71 0 (fun _ _ => kd [71, 72, 90] []) (fun _ _ => kP []) (fun _ (_ : Unit) => True) () (by omega) (trivial) (fun k x a u hk => absurd hk (Nat.not_lt_zero k)) fun _ a u hI hE hS => ?_
  refine rg hE hS [pu, pu] (fun _ => kp [(2, pt (p2 16).g 0)]) (fun _ => kP []) fun _ a u hE hS => ?_
  refine wp_ret ?_
  exact ret1 hE Tryz.results59 (pt (p2 16).g 0) ⟨_, rfl, pcB hS 101, pcH (g := (p2 16).g) (T := 244) (cs := #[.bool false, .int .u8 0, .int .u8 0, .int .u16 0, .int .u32 0, .int .u32 0, .int .u16 0, .int .u16 0, .int .u32 0, .int .u8 0, .slice none 0 0, .slice none 0 0]) hS 101, hS.below⟩
set_option maxHeartbeats 4000000 in
set_option maxRecDepth 100000 in
theorem built0_0 (w : World) : Calls Tryz.prog 29 #[.agg (pFb 0 0 0).cells] w fun e w' => ∃ g, e = .returned (.iface 203 (.pointer (some ⟨g, 0, none⟩))) ∧ Blk w' g 202 #[.slice none 0 0] ∧ w.heap.size ≤ g ∧ Below w.heap.size w w' := by
  refine go_in Tryz.func29 rfl Tryz.ntmps29 [.agg (pFb 0 0 0).cells] fun a hE => ?_
  have hS := stp_in w
  refine rg hE hS [nw 100, pu] (fun p1 => kp [(1, pt (p1 0).g 0), (2, .nilIface)]) (fun p1 => kP [(100, some (.blk (p1 0).g 53 (pFb 0 0 0).cells))]) fun p1 a u hE hS => ?_
  refine wp_seq ?_
  refine rg hE hS [pu, ld 100] (fun _ => kp [(14, .int .i64 0)]) (fun _ => kP []) fun _ a u hE hS => ?_
  refine wp_block ?_
  refine rg hE hS [pu, pu] (fun _ => kp [(15, .bool false)]) (fun _ => kP []) fun _ a u hE hS => ?_
  refine iff hE ?_
  refine rg hE hS [pu, pu] (fun _ => kp [(36, .bool false)]) (fun _ => kP []) fun _ a u hE hS => ?_
  refine iff hE ?_
  refine rg hE hS [pu, pu] (fun _ => kp [(49, .bool false)]) (fun _ => kP []) fun _ a u hE hS => ?_
  refine iff hE ?_
  refine rg hE hS [pu, pu] (fun _ => kp [(55, .bool false)]) (fun _ => kP []) fun _ a u hE hS => ?_
  refine iff hE ?_
  refine rg hE hS [pu, pu] (fun _ => kp [(65, .bool false)]) (fun _ => kP []) fun _ a u hE hS => ?_
  refine iff hE ?_
  refine rg hE hS [pu, pu] (fun _ => kp [(79, .bool false)]) (fun _ => kP []) fun _ a u hE hS => ?_
  refine iff hE ?_
  refine rg hE hS [pu, pu] (fun _ => kp [(111, .bool false)]) (fun _ => kP []) fun _ a u hE hS => ?_
  refine iff hE ?_
  refine rg hE hS [pu, pu] (fun _ => kp [(120, .bool false)]) (fun _ => kP []) fun _ a u hE hS => ?_
  refine iff hE ?_
  refine rg hE hS [pu, pu] (fun _ => kp [(132, .bool false)]) (fun _ => kP []) fun _ a u hE hS => ?_
  refine iff hE ?_
  refine rg hE hS [pu, pu] (fun _ => kp [(141, .bool false)]) (fun _ => kP []) fun _ a u hE hS => ?_
  refine iff hE ?_
  refine rg hE hS [pu, pu] (fun _ => kp [(175, .bool false)]) (fun _ => kP []) fun _ a u hE hS => ?_
  refine iff hE ?_
  refine rg hE hS [pu, pu] (fun _ => kp [(207, .bool false)]) (fun _ => kP []) fun _ a u hE hS => ?_
  refine iff hE ?_
  refine rg hE hS [pu, pu] (fun _ => kp [(220, .bool false)]) (fun _ => kP []) fun _ a u hE hS => ?_
  refine iff hE ?_
  refine wp_skip ?_
  refine rgp hE hS [pu, ld 100, cu 44 [] [] (fun _ => .slice none 0 0) (fun _ => []), nw 101, st 101] (fun p16 => kp [(12, pt (p16 3).g 0)]) (fun p16 => kP [(101, some (.blk (p16 3).g 202 #[.slice none 0 0]))]) (fun _ => ⟨kr (cu_nil (w0 := w) (olds := fun _ => False) 44 #[.slice none 0 0] (.slice none 0 0) clone8_nil), trivial⟩) fun p16 a u hE hS => ?_
  refine rg hE hS [pu, pu] (fun _ => kn [(2, .iface 203 (pt (p16 3).g 0))] []) (fun _ => kN [] [101]) fun _ a u hE hS => ?_
  refine wp_ret ?_
  exact ret1 hE Tryz.results29 (.iface 203 (pt (p16 3).g 0)) ⟨_, rfl, pcB hS 101, pcH (g := (p16 3).g) (T := 202) (cs := #[.slice none 0 0]) hS 101, hS.below⟩

set_option maxHeartbeats 4000000 in
set_option maxRecDepth 100000 in
theorem built0_3 (w : World) : Calls Tryz.prog 29 #[.agg (pFb 3 0 0).cells] w fun e w' => ∃ g, e = .returned (.iface 159 (.pointer (some ⟨g, 0, none⟩))) ∧ Blk w' g 224 #[.slice none 0 0] ∧ w.heap.size ≤ g ∧ Below w.heap.size w w' := by
  refine go_in Tryz.func29 rfl Tryz.ntmps29 [.agg (pFb 3 0 0).cells] fun a hE => ?_
  have hS := stp_in w
  refine rg hE hS [nw 100, pu] (fun p1 => kp [(1, pt (p1 0).g 0), (2, .nilIface)]) (fun p1 => kP [(100, some (.blk (p1 0).g 53 (pFb 3 0 0).cells))]) fun p1 a u hE hS => ?_
  refine wp_seq ?_
  refine rg hE hS [pu, ld 100] (fun _ => kp [(14, .int .i64 3)]) (fun _ => kP []) fun _ a u hE hS => ?_
  refine wp_block ?_
  refine rg hE hS [pu, pu] (fun _ => kp [(15, .bool false)]) (fun _ => kP []) fun _ a u hE hS => ?_
  refine iff hE ?_
  refine rg hE hS [pu, pu] (fun _ => kp [(36, .bool false)]) (fun _ => kP []) fun _ a u hE hS => ?_
  refine iff hE ?_
  refine rg hE hS [pu, pu] (fun _ => kp [(49, .bool true)]) (fun _ => kP []) fun _ a u hE hS => ?_
  refine ift hE ?_
  refine rgp hE hS [pu, ld 100, cu 56 [] [101] (fun x => .pointer (some ⟨x.g, 0, none⟩)) (fun x => [some (.blk x.g 224 #[.slice none 0 0])]), pu, pu] (fun p6 => kp [(2, .iface 159 (pt (p6 2).g 0))]) (fun p6 => kP [(101, some (.blk (p6 2).g 224 #[.slice none 0 0]))]) (fun _ => ⟨kr (cu_mk (w0 := w) (olds := fun _ => False) (ps := [none]) 56 #[.slice none 0 0] 224 #[.slice none 0 0] 101 desc_nil), trivial⟩) fun p6 a u hE hS => ?_
  refine wp_ret (bkR (thR ?_))
  exact ret1 hE Tryz.results29 (.iface 159 (pt (p6 2).g 0)) ⟨_, rfl, pcB hS 101, pcH (g := (p6 2).g) (T := 224) (cs := #[.slice none 0 0]) hS 101, hS.below⟩

set_option maxHeartbeats 4000000 in
set_option maxRecDepth 100000 in
theorem built0_8 (w : World) : Calls Tryz.prog 29 #[.agg (pFb 8 0 0).cells] w fun e w' => ∃ g, e = .returned (.iface 177 (.pointer (some ⟨g, 0, none⟩))) ∧ Blk w' g 181 #[.int .u32 0, .slice none 0 0, .int .u32 0] ∧ w.heap.size ≤ g ∧ Below w.heap.size w w' := by
  refine go_in Tryz.func29 rfl Tryz.ntmps29 [.agg (pFb 8 0 0).cells] fun a hE => ?_
  have hS := stp_in w
  refine rg hE hS [nw 100, pu] (fun p1 => kp [(1, pt (p1 0).g 0), (2, .nilIface)]) (fun p1 => kP [(100, some (.blk (p1 0).g 53 (pFb 8 0 0).cells))]) fun p1 a u hE hS => ?_
  refine wp_seq ?_
  refine rg hE hS [pu, ld 100] (fun _ => kp [(14, .int .i64 8)]) (fun _ => kP []) fun _ a u hE hS => ?_
  refine wp_block ?_
  refine rg hE hS [pu, pu] (fun _ => kp [(15, .bool false)]) (fun _ => kP []) fun _ a u hE hS => ?_
  refine iff hE ?_
  refine rg hE hS [pu, pu] (fun _ => kp [(36, .bool false)]) (fun _ => kP []) fun _ a u hE hS => ?_
  refine iff hE ?_
  refine rg hE hS [pu, pu] (fun _ => kp [(49, .bool false)]) (fun _ => kP []) fun _ a u hE hS => ?_
  refine iff hE ?_
  refine rg hE hS [pu, pu] (fun _ => kp [(55, .bool false)]) (fun _ => kP []) fun _ a u hE hS => ?_
  refine iff hE ?_
  refine rg hE hS [pu, pu] (fun _ => kp [(65, .bool false)]) (fun _ => kP []) fun _ a u hE hS => ?_
  refine iff hE ?_
  refine rg hE hS [pu, pu] (fun _ => kp [(79, .bool false)]) (fun _ => kP []) fun _ a u hE hS => ?_
  refine iff hE ?_
  refine rg hE hS [pu, pu] (fun _ => kp [(111, .bool false)]) (fun _ => kP []) fun _ a u hE hS => ?_
  refine iff hE ?_
  refine rg hE hS [pu, pu] (fun _ => kp [(120, .bool true)]) (fun _ => kP []) fun _ a u hE hS => ?_
  refine ift hE ?_
  refine dgp hE hS [pu, ld 100, pu, ld 100, cu 57 [] [] (fun _ => .slice none 0 0) (fun _ => []), pu, ld 100, pu, nw 101, pu, pu] (fun p11 => kp [(2, .iface 177 (pt (p11 8).g 0))]) (fun p11 => kP [(101, some (.blk (p11 8).g 181 #[.int .u32 0, .slice none 0 0, .int .u32 0]))]) (fun _ => ⟨kr (cu_nil (w0 := w) (olds := fun _ => False) 57 #[.slice none 0 0] (.slice none 0 0) blocks_nil), trivial⟩) fun p11 a u hE hS => ?_
  refine wp_ret (bkR (thR ?_))
  exact ret1 hE Tryz.results29 (.iface 177 (pt (p11 8).g 0)) ⟨_, rfl, pcB hS 101, pcH (g := (p11 8).g) (T := 181) (cs := #[.int .u32 0, .slice none 0 0, .int .u32 0]) hS 101, hS.below⟩

set_option maxHeartbeats 4000000 in
set_option maxRecDepth 100000 in
theorem built0_12 (w : World) : Calls Tryz.prog 29 #[.agg (pFb 12 0 0).cells] w fun e w' => ∃ g, e = .returned (.iface 195 (.pointer (some ⟨g, 0, none⟩))) ∧ Blk w' g 199 #[.int .u32 0, .float .f32 0, .slice none 0 0] ∧ w.heap.size ≤ g ∧ Below w.heap.size w w' := by
  refine go_in Tryz.func29 rfl Tryz.ntmps29 [.agg (pFb 12 0 0).cells] fun a hE => ?_
  have hS := stp_in w
  refine rg hE hS [nw 100, pu] (fun p1 => kp [(1, pt (p1 0).g 0), (2, .nilIface)]) (fun p1 => kP [(100, some (.blk (p1 0).g 53 (pFb 12 0 0).cells))]) fun p1 a u hE hS => ?_
  refine wp_seq ?_
  refine rg hE hS [pu, ld 100] (fun _ => kp [(14, .int .i64 12)]) (fun _ => kP []) fun _ a u hE hS => ?_
  refine wp_block ?_
  refine rg hE hS [pu, pu] (fun _ => kp [(15, .bool false)]) (fun _ => kP []) fun _ a u hE hS => ?_
  refine iff hE ?_
  refine rg hE hS [pu, pu] (fun _ => kp [(36, .bool false)]) (fun _ => kP []) fun _ a u hE hS => ?_
  refine iff hE ?_
  refine rg hE hS [pu, pu] (fun _ => kp [(49, .bool false)]) (fun _ => kP []) fun _ a u hE hS => ?_
  refine iff hE ?_
  refine rg hE hS [pu, pu] (fun _ => kp [(55, .bool false)]) (fun _ => kP []) fun _ a u hE hS => ?_
  refine iff hE ?_
  refine rg hE hS [pu, pu] (fun _ => kp [(65, .bool false)]) (fun _ => kP []) fun _ a u hE hS => ?_
  refine iff hE ?_
  refine rg hE hS [pu, pu] (fun _ => kp [(79, .bool false)]) (fun _ => kP []) fun _ a u hE hS => ?_
  refine iff hE ?_
  refine rg hE hS [pu, pu] (fun _ => kp [(111, .bool false)]) (fun _ => kP []) fun _ a u hE hS => ?_
  refine iff hE ?_
  refine rg hE hS [pu, pu] (fun _ => kp [(120, .bool false)]) (fun _ => kP []) fun _ a u hE hS => ?_
  refine iff hE ?_
  refine rg hE hS [pu, pu] (fun _ => kp [(132, .bool false)]) (fun _ => kP []) fun _ a u hE hS => ?_
  refine iff hE ?_
  refine rg hE hS [pu, pu] (fun _ => kp [(141, .bool false)]) (fun _ => kP []) fun _ a u hE hS => ?_
  refine iff hE ?_
  refine rg hE hS [pu, pu] (fun _ => kp [(175, .bool false)]) (fun _ => kP []) fun _ a u hE hS => ?_
  refine iff hE ?_
  refine rg hE hS [pu, pu] (fun _ => kp [(207, .bool true)]) (fun _ => kP []) fun _ a u hE hS => ?_
  refine ift hE ?_
  refine dgp hE hS [pu, ld 100, pu, ld 100, pu, pu, ld 100, cu 28 [] [] (fun _ => .slice none 0 0) (fun _ => []), pu, nw 101, pu, pu] (fun p15 => kp [(2, .iface 195 (pt (p15 9).g 0))]) (fun p15 => kP [(101, some (.blk (p15 9).g 199 #[.int .u32 0, .float .f32 0, .slice none 0 0]))]) (fun _ => ⟨kr (cu_nil (w0 := w) (olds := fun _ => False) 28 #[.slice none 0 0] (.slice none 0 0) clone32_nil), trivial⟩) fun p15 a u hE hS => ?_
  refine wp_ret (bkR (thR ?_))
  exact ret1 hE Tryz.results29 (.iface 195 (pt (p15 9).g 0)) ⟨_, rfl, pcB hS 101, pcH (g := (p15 9).g) (T := 199) (cs := #[.int .u32 0, .float .f32 0, .slice none 0 0]) hS 101, hS.below⟩

set_option maxHeartbeats 4000000 in
set_option maxRecDepth 100000 in
theorem built0_13 (w : World) : Calls Tryz.prog 29 #[.agg (pFb 13 0 0).cells] w fun e w' => ∃ g, e = .returned (.iface 200 (.pointer (some ⟨g, 0, none⟩))) ∧ Blk w' g 244 #[.bool false, .int .u8 0, .int .u8 0, .int .u16 0, .int .u32 0, .int .u32 0, .int .u16 0, .int .u16 0, .int .u32 0, .int .u8 0, .slice none 0 0, .slice none 0 0] ∧ w.heap.size ≤ g ∧ Below w.heap.size w w' := by
  refine go_in Tryz.func29 rfl Tryz.ntmps29 [.agg (pFb 13 0 0).cells] fun a hE => ?_
  have hS := stp_in w
  refine rg hE hS [nw 100, pu] (fun p1 => kp [(1, pt (p1 0).g 0), (2, .nilIface)]) (fun p1 => kP [(100, some (.blk (p1 0).g 53 (pFb 13 0 0).cells))]) fun p1 a u hE hS => ?_
  refine wp_seq ?_
  refine rg hE hS [pu, ld 100] (fun _ => kp [(14, .int .i64 13)]) (fun _ => kP []) fun _ a u hE hS => ?_
  refine wp_block ?_
  refine rg hE hS [pu, pu] (fun _ => kp [(15, .bool false)]) (fun _ => kP []) fun _ a u hE hS => ?_
  refine iff hE ?_
  refine rg hE hS [pu, pu] (fun _ => kp [(36, .bool false)]) (fun _ => kP []) fun _ a u hE hS => ?_
  refine iff hE ?_
  refine rg hE hS [pu, pu] (fun _ => kp [(49, .bool false)]) (fun _ => kP []) fun _ a u hE hS => ?_
  refine iff hE ?_
  refine rg hE hS [pu, pu] (fun _ => kp [(55, .bool false)]) (fun _ => kP []) fun _ a u hE hS => ?_
  refine iff hE ?_
  refine rg hE hS [pu, pu] (fun _ => kp [(65, .bool false)]) (fun _ => kP []) fun _ a u hE hS => ?_
  refine iff hE ?_
  refine rg hE hS [pu, pu] (fun _ => kp [(79, .bool false)]) (fun _ => kP []) fun _ a u hE hS => ?_
  refine iff hE ?_
  refine rg hE hS [pu, pu] (fun _ => kp [(111, .bool false)]) (fun _ => kP []) fun _ a u hE hS => ?_
  refine iff hE ?_
  refine rg hE hS [pu, pu] (fun _ => kp [(120, .bool false)]) (fun _ => kP []) fun _ a u hE hS => ?_
  refine iff hE ?_
  refine rg hE hS [pu, pu] (fun _ => kp [(132, .bool false)]) (fun _ => kP []) fun _ a u hE hS => ?_
  refine iff hE ?_
  refine rg hE hS [pu, pu] (fun _ => kp [(141, .bool false)]) (fun _ => kP []) fun _ a u hE hS => ?_
  refine iff hE ?_
  refine rg hE hS [pu, pu] (fun _ => kp [(175, .bool false)]) (fun _ => kP []) fun _ a u hE hS => ?_
  refine iff hE ?_
  refine rg hE hS [pu, pu] (fun _ => kp [(207, .bool false)]) (fun _ => kP []) fun _ a u hE hS => ?_
  refine iff hE ?_
  refine rg hE hS [pu, pu] (fun _ => kp [(220, .bool true)]) (fun _ => kP []) fun _ a u hE hS => ?_
  refine ift hE ?_
  refine rgp hE hS [ld 100, cu 59 [] [101] (fun x => .pointer (some ⟨x.g, 0, none⟩)) (fun x => [some (.blk x.g 244 #[.bool false, .int .u8 0, .int .u8 0, .int .u16 0, .int .u32 0, .int .u32 0, .int .u16 0, .int .u16 0, .int .u32 0, .int .u8 0, .slice none 0 0, .slice none 0 0])]), pu, pu] (fun p16 => kp [(2, .iface 200 (pt (p16 1).g 0))]) (fun p16 => kP [(101, some (.blk (p16 1).g 244 #[.bool false, .int .u8 0, .int .u8 0, .int .u16 0, .int .u32 0, .int .u32 0, .int .u16 0, .int .u16 0, .int .u32 0, .int .u8 0, .slice none 0 0, .slice none 0 0]))]) (fun _ => ⟨kr (cu_mk (w0 := w) (olds := fun _ => False) (ps := [none]) 59 #[.agg (pFb 13 0 0).cells] 244 #[.bool false, .int .u8 0, .int .u8 0, .int .u16 0, .int .u32 0, .int .u32 0, .int .u16 0, .int .u16 0, .int .u32 0, .int .u8 0, .slice none 0 0, .slice none 0 0] 101 transp_nil), trivial⟩) fun p16 a u hE hS => ?_
  refine wp_ret (bkR (thR ?_))
  exact ret1 hE Tryz.results29 (.iface 200 (pt (p16 1).g 0)) ⟨_, rfl, pcB hS 101, pcH (g := (p16 1).g) (T := 244) (cs := #[.bool false, .int .u8 0, .int .u8 0, .int .u16 0, .int .u32 0, .int .u32 0, .int .u16 0, .int .u16 0, .int .u32 0, .int .u8 0, .slice none 0 0, .slice none 0 0]) hS 101, hS.below⟩

end Go.Proofs.YtmmfpgoodfgkbaaGreat
