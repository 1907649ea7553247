/-
  THE WALKS of the thin package's making of a packet of the package. Condition: the kind; what the packet's slices read as; fewer than 2^31 elements.
-/
import Derived.Test.YtmmfpgoodfgkbaaGreatDoorMStep
import Derived.Test.YtmmfpgoodfgkbaaGreatDoorMPkt
import Derived.Test.YtmmfpgoodfgkbaaGreatDoorMClone
namespace Go.Proofs.YtmmfpgoodfgkbaaGreatDoor
open Go Go.RowKit
set_option maxHeartbeats 4000000
set_option maxRecDepth 100000
set_option linter.unusedVariables false

theorem u32c_one (l : List Int) : ∀ u ∈ l.flatMap u32c, u.oneCell' = true := by
 intro u hu
 obtain ⟨x, _, hx⟩ := List.mem_flatMap.1 hu
 simp [u32c] at hx
 subst hx
 rfl
theorem cu_row {P : Program} {w0 : World} {ps : List (Option Pc)} (f : FuncId) (args : Array Value) (k : Nat) (T : TypeId) (size n : Nat) (xs : List Value)
  (h : ∀ w, Below w0.heap.size w0 w → w0.heap.size ≤ w.heap.size → Calls P f args w fun e w' => ∃ v, e = .returned v ∧ w'.ownsRow w.heap.size T size v n xs ∧ Below w.heap.size w w')
  (L : PL) (w : World) (_ : ps = ([] ++ [k]).map (lookP L)) (hS : Stp (fun _ => False) w0 w (restr ([] ++ [k]) (lookM (den (fun _ => False) w0 L)))) :
  Calls P f args w fun e w' => ∃ x : Pay, e = .returned (.slice x.a n x.c) ∧ Stp (blksOf (lookM (den (fun _ => False) w0 L)) [k]) w w' (lookM (den (fun _ => False) w0 (zipW [k] [some (.row w0.heap.size T size (.slice x.a n x.c) n xs)]))) := by
 refine (h w hS.below hS.size).mono ?_
 rintro e w' ⟨v, rfl, hown, hB⟩
 obtain ⟨A, c, rfl⟩ := own_form hown
 refine ⟨⟨0, c, undef, A⟩, rfl, ?_⟩
 have ho := own_base hown hS.size
 exact stp_make hB ho fun g hg => ⟨(hown.lt g hg).2, (hown.lt g hg).1⟩
theorem stp_ge {w0 w : World} {L : PL} (hS : Stp (fun _ => False) w0 w (lookM (den (fun _ => False) w0 L))) (k : Nat) {g : Nat} {T : TypeId} {cs : Array Value} (_ : Blk w g T cs) (h : lookP L k = some (.blk g T cs) := by kernel_rfl) : w0.heap.size ≤ g := (hS.lt k _ (by rw [lookM_den, h]; rfl) g rfl).2.resolve_right id
theorem built_1 (p : Pkt) (w : World) (hk : p.kind = 1) (hr : p.reports.Lies w w.heap.size 7 Rep.cells) (hn : p.reports.l.length ≤ 2147483647) (hx : p.ext.Lies w w.heap.size 1 u8c) (hxn : p.ext.l.length ≤ 2147483647) :
  Calls Tryz.prog 22 #[.agg p.cells] w fun e w' => ∃ g v1 c1 v2 c2, e = .returned (.iface 79 (.pointer (some ⟨g, 0, none⟩))) ∧ Blk w' g 162 #[.int .u32 p.sender, .int .u64 p.ntp, .int .u32 p.rtp, .int .u32 p.packets, .int .u32 p.octets, .slice v1 p.reports.l.length c1, .slice v2 p.ext.l.length c2] ∧ w.heap.size ≤ g ∧ w'.ownsRow w.heap.size 221 7 (.slice v1 p.reports.l.length c1) p.reports.l.length (repsC p.reports.l) ∧ w'.ownsRow w.heap.size 5 1 (.slice v2 p.ext.l.length c2) p.ext.l.length (u8s p.ext.l) ∧ Below w.heap.size w w' := by
 refine go_in Tryz.func22 rfl Tryz.ntmps22 [.agg p.cells] fun a hE => ?_
 have hS := stp_in w
 refine rg hE hS [nw 0, pu] (fun p1 => kp [(1, pt (p1 0).g 0), (2, .nilIface)]) (fun p1 => kP [(0, some (.blk (p1 0).g 56 p.cells))]) fun p1 a u hE hS => ?_
 refine wp_seq ?_
 refine rgp hE hS [pu, ov (ld 0) (.int .i64 1)] (fun _ => kp [(14, .int .i64 1)]) kP0 (fun _ => ⟨fun _ => kr (congrArg (Value.int .i64) hk), trivial⟩) fun _ a u hE hS => wp_block ?_
 refine rg hE hS [pu, pu] (fun _ => kp [(15, .bool true)]) kP0 fun _ a u hE hS => ift hE ?_
 refine dgp hE hS [pu, ld 0, pu, ld 0, pu, ld 0, pu, ld 0, pu, ld 0, pu, ld 0, cu 57 [] [1] (fun y => .slice y.a p.reports.l.length y.c) (fun y => [some (.row w.heap.size 221 7 (.slice y.a p.reports.l.length y.c) p.reports.l.length (repsC p.reports.l))]), pu, ld 0, cu 45 [] [2] (fun y => .slice y.a p.ext.l.length y.c) (fun y => [some (.row w.heap.size 5 1 (.slice y.a p.ext.l.length y.c) p.ext.l.length (u8s p.ext.l))]), pu, nw 3, pu, pu] (fun p4 => kp [(2, .iface 79 (pt (p4 17).g 0))]) (fun p4 => kP [(2, some (.row w.heap.size 5 1 (.slice (p4 15).a p.ext.l.length (p4 15).c) p.ext.l.length (u8s p.ext.l))), (1, some (.row w.heap.size 221 7 (.slice (p4 12).a p.reports.l.length (p4 12).c) p.reports.l.length (repsC p.reports.l))), (3, some (.blk (p4 17).g 162 #[.int .u32 p.sender, .int .u64 p.ntp, .int .u32 p.rtp, .int .u32 p.packets, .int .u32 p.octets, .slice (p4 12).a p.reports.l.length (p4 12).c, .slice (p4 15).a p.ext.l.length (p4 15).c]))]) (fun _ => ⟨kr (cu_row (P := Tryz.prog) (w0 := w) (ps := [none]) 57 #[.slice p.reports.A (p.reports.l.length : Nat) p.reports.c] 1 221 7 p.reports.l.length (repsC p.reports.l) (fun w4 hB hz => reports_any w.heap.size p.reports.A p.reports.c p.reports.l w4 (Reads.below hr hB) hz (by omega))), kr (cu_row (P := Tryz.prog) (w0 := w) (ps := [none]) 45 #[.slice p.ext.A (p.ext.l.length : Nat) p.ext.c] 2 5 1 p.ext.l.length (u8s p.ext.l) (fun w4 hB hz => clone8 w.heap.size p.ext.A p.ext.l.length p.ext.c (u8s p.ext.l) w4 (by have := Reads.below hx hB; rwa [u8c_flat] at this) (u8s_one _) hz (by omega))), trivial⟩) fun p4 a u hE hS => ?_
 refine wp_ret (bkR (thR ?_))
 exact ret1 hE Tryz.results22 (.iface 79 (pt (p4 17).g 0)) ⟨(p4 17).g, (p4 12).a, (p4 12).c, (p4 15).a, (p4 15).c, rfl, pcB hS 3, stp_ge hS 3 (show Blk u (p4 17).g 162 #[.int .u32 p.sender, .int .u64 p.ntp, .int .u32 p.rtp, .int .u32 p.packets, .int .u32 p.octets, .slice (p4 12).a p.reports.l.length (p4 12).c, .slice (p4 15).a p.ext.l.length (p4 15).c] from pcB hS 3), pcR (base := w.heap.size) hS 1, pcR (base := w.heap.size) hS 2, hS.below⟩
theorem built_2 (p : Pkt) (w : World) (hk : p.kind = 2) (hr : p.reports.Lies w w.heap.size 7 Rep.cells) (hn : p.reports.l.length ≤ 2147483647) (hx : p.ext.Lies w w.heap.size 1 u8c) (hxn : p.ext.l.length ≤ 2147483647) :
  Calls Tryz.prog 22 #[.agg p.cells] w fun e w' => ∃ g v1 c1 v2 c2, e = .returned (.iface 85 (.pointer (some ⟨g, 0, none⟩))) ∧ Blk w' g 164 #[.int .u32 p.sender, .slice v1 p.reports.l.length c1, .slice v2 p.ext.l.length c2] ∧ w.heap.size ≤ g ∧ w'.ownsRow w.heap.size 221 7 (.slice v1 p.reports.l.length c1) p.reports.l.length (repsC p.reports.l) ∧ w'.ownsRow w.heap.size 5 1 (.slice v2 p.ext.l.length c2) p.ext.l.length (u8s p.ext.l) ∧ Below w.heap.size w w' := by
 refine go_in Tryz.func22 rfl Tryz.ntmps22 [.agg p.cells] fun a hE => ?_
 have hS := stp_in w
 refine rg hE hS [nw 0, pu] (fun p1 => kp [(1, pt (p1 0).g 0), (2, .nilIface)]) (fun p1 => kP [(0, some (.blk (p1 0).g 56 p.cells))]) fun p1 a u hE hS => ?_
 refine wp_seq ?_
 refine rgp hE hS [pu, ov (ld 0) (.int .i64 2)] (fun _ => kp [(14, .int .i64 2)]) kP0 (fun _ => ⟨fun _ => kr (congrArg (Value.int .i64) hk), trivial⟩) fun _ a u hE hS => wp_block ?_
 refine rg hE hS [pu, pu] (fun _ => kp [(15, .bool false)]) kP0 fun _ a u hE hS => iff hE ?_
 refine rg hE hS [pu, pu] (fun _ => kp [(36, .bool true)]) kP0 fun _ a u hE hS => ift hE ?_
 refine dgp hE hS [pu, ld 0, pu, ld 0, cu 57 [] [1] (fun y => .slice y.a p.reports.l.length y.c) (fun y => [some (.row w.heap.size 221 7 (.slice y.a p.reports.l.length y.c) p.reports.l.length (repsC p.reports.l))]), pu, ld 0, cu 45 [] [2] (fun y => .slice y.a p.ext.l.length y.c) (fun y => [some (.row w.heap.size 5 1 (.slice y.a p.ext.l.length y.c) p.ext.l.length (u8s p.ext.l))]), pu, nw 3, pu, pu] (fun p5 => kp [(2, .iface 85 (pt (p5 9).g 0))]) (fun p5 => kP [(2, some (.row w.heap.size 5 1 (.slice (p5 7).a p.ext.l.length (p5 7).c) p.ext.l.length (u8s p.ext.l))), (1, some (.row w.heap.size 221 7 (.slice (p5 4).a p.reports.l.length (p5 4).c) p.reports.l.length (repsC p.reports.l))), (3, some (.blk (p5 9).g 164 #[.int .u32 p.sender, .slice (p5 4).a p.reports.l.length (p5 4).c, .slice (p5 7).a p.ext.l.length (p5 7).c]))]) (fun _ => ⟨kr (cu_row (P := Tryz.prog) (w0 := w) (ps := [none]) 57 #[.slice p.reports.A (p.reports.l.length : Nat) p.reports.c] 1 221 7 p.reports.l.length (repsC p.reports.l) (fun w4 hB hz => reports_any w.heap.size p.reports.A p.reports.c p.reports.l w4 (Reads.below hr hB) hz (by omega))), kr (cu_row (P := Tryz.prog) (w0 := w) (ps := [none]) 45 #[.slice p.ext.A (p.ext.l.length : Nat) p.ext.c] 2 5 1 p.ext.l.length (u8s p.ext.l) (fun w4 hB hz => clone8 w.heap.size p.ext.A p.ext.l.length p.ext.c (u8s p.ext.l) w4 (by have := Reads.below hx hB; rwa [u8c_flat] at this) (u8s_one _) hz (by omega))), trivial⟩) fun p5 a u hE hS => ?_
 refine wp_ret (bkR (thR ?_))
 exact ret1 hE Tryz.results22 (.iface 85 (pt (p5 9).g 0)) ⟨(p5 9).g, (p5 4).a, (p5 4).c, (p5 7).a, (p5 7).c, rfl, pcB hS 3, stp_ge hS 3 (show Blk u (p5 9).g 164 #[.int .u32 p.sender, .slice (p5 4).a p.reports.l.length (p5 4).c, .slice (p5 7).a p.ext.l.length (p5 7).c] from pcB hS 3), pcR (base := w.heap.size) hS 1, pcR (base := w.heap.size) hS 2, hS.below⟩
theorem built_4 (p : Pkt) (w : World) (hk : p.kind = 4) (hs : p.sources.Lies w w.heap.size 1 u32c) (hsn : p.sources.l.length ≤ 2147483647) :
  Calls Tryz.prog 22 #[.agg p.cells] w fun e w' => ∃ g v1 c1, e = .returned (.iface 87 (.pointer (some ⟨g, 0, none⟩))) ∧ Blk w' g 167 #[.slice v1 p.sources.l.length c1, .string p.text] ∧ w.heap.size ≤ g ∧ w'.ownsRow w.heap.size 22 1 (.slice v1 p.sources.l.length c1) p.sources.l.length (p.sources.l.flatMap u32c) ∧ Below w.heap.size w w' := by
 refine go_in Tryz.func22 rfl Tryz.ntmps22 [.agg p.cells] fun a hE => ?_
 have hS := stp_in w
 refine rg hE hS [nw 0, pu] (fun p1 => kp [(1, pt (p1 0).g 0), (2, .nilIface)]) (fun p1 => kP [(0, some (.blk (p1 0).g 56 p.cells))]) fun p1 a u hE hS => ?_
 refine wp_seq ?_
 refine rgp hE hS [pu, ov (ld 0) (.int .i64 4)] (fun _ => kp [(14, .int .i64 4)]) kP0 (fun _ => ⟨fun _ => kr (congrArg (Value.int .i64) hk), trivial⟩) fun _ a u hE hS => wp_block ?_
 refine rg hE hS [pu, pu] (fun _ => kp [(15, .bool false)]) kP0 fun _ a u hE hS => iff hE ?_
 refine rg hE hS [pu, pu] (fun _ => kp [(36, .bool false)]) kP0 fun _ a u hE hS => iff hE ?_
 refine rg hE hS [pu, pu] (fun _ => kp [(49, .bool false)]) kP0 fun _ a u hE hS => iff hE ?_
 refine rg hE hS [pu, pu] (fun _ => kp [(55, .bool true)]) kP0 fun _ a u hE hS => ift hE ?_
 refine dgp hE hS [pu, ld 0, cu 50 [] [1] (fun y => .slice y.a p.sources.l.length y.c) (fun y => [some (.row w.heap.size 22 1 (.slice y.a p.sources.l.length y.c) p.sources.l.length (p.sources.l.flatMap u32c))]), pu, ld 0, pu, nw 3, pu, pu] (fun p7 => kp [(2, .iface 87 (pt (p7 6).g 0))]) (fun p7 => kP [(1, some (.row w.heap.size 22 1 (.slice (p7 2).a p.sources.l.length (p7 2).c) p.sources.l.length (p.sources.l.flatMap u32c))), (3, some (.blk (p7 6).g 167 #[.slice (p7 2).a p.sources.l.length (p7 2).c, .string p.text]))]) (fun _ => ⟨kr (cu_row (P := Tryz.prog) (w0 := w) (ps := [none]) 50 #[.slice p.sources.A (p.sources.l.length : Nat) p.sources.c] 1 22 1 p.sources.l.length (p.sources.l.flatMap u32c) (fun w4 hB hz => clone32 w.heap.size p.sources.A p.sources.l.length p.sources.c (p.sources.l.flatMap u32c) w4 (Reads.below hs hB) (u32c_one _) hz (by omega))), trivial⟩) fun p7 a u hE hS => ?_
 refine wp_ret (bkR (thR ?_))
 exact ret1 hE Tryz.results22 (.iface 87 (pt (p7 6).g 0)) ⟨(p7 6).g, (p7 2).a, (p7 2).c, rfl, pcB hS 3, stp_ge hS 3 (show Blk u (p7 6).g 167 #[.slice (p7 2).a p.sources.l.length (p7 2).c, .string p.text] from pcB hS 3), pcR (base := w.heap.size) hS 1, hS.below⟩
theorem built_5 (p : Pkt) (w : World) (hk : p.kind = 5) (hd : p.data.Lies w w.heap.size 1 u8c) (hdn : p.data.l.length ≤ 2147483647) :
  Calls Tryz.prog 22 #[.agg p.cells] w fun e w' => ∃ g v1 c1, e = .returned (.iface 168 (.pointer (some ⟨g, 0, none⟩))) ∧ Blk w' g 170 #[.int .u8 p.sub, .int .u32 p.sender, .string p.text, .slice v1 p.data.l.length c1] ∧ w.heap.size ≤ g ∧ w'.ownsRow w.heap.size 5 1 (.slice v1 p.data.l.length c1) p.data.l.length (u8s p.data.l) ∧ Below w.heap.size w w' := by
 refine go_in Tryz.func22 rfl Tryz.ntmps22 [.agg p.cells] fun a hE => ?_
 have hS := stp_in w
 refine rg hE hS [nw 0, pu] (fun p1 => kp [(1, pt (p1 0).g 0), (2, .nilIface)]) (fun p1 => kP [(0, some (.blk (p1 0).g 56 p.cells))]) fun p1 a u hE hS => ?_
 refine wp_seq ?_
 refine rgp hE hS [pu, ov (ld 0) (.int .i64 5)] (fun _ => kp [(14, .int .i64 5)]) kP0 (fun _ => ⟨fun _ => kr (congrArg (Value.int .i64) hk), trivial⟩) fun _ a u hE hS => wp_block ?_
 refine rg hE hS [pu, pu] (fun _ => kp [(15, .bool false)]) kP0 fun _ a u hE hS => iff hE ?_
 refine rg hE hS [pu, pu] (fun _ => kp [(36, .bool false)]) kP0 fun _ a u hE hS => iff hE ?_
 refine rg hE hS [pu, pu] (fun _ => kp [(49, .bool false)]) kP0 fun _ a u hE hS => iff hE ?_
 refine rg hE hS [pu, pu] (fun _ => kp [(55, .bool false)]) kP0 fun _ a u hE hS => iff hE ?_
 refine rg hE hS [pu, pu] (fun _ => kp [(65, .bool true)]) kP0 fun _ a u hE hS => ift hE ?_
 refine dgp hE hS [pu, ld 0, pu, ld 0, pu, ld 0, pu, ld 0, cu 45 [] [1] (fun y => .slice y.a p.data.l.length y.c) (fun y => [some (.row w.heap.size 5 1 (.slice y.a p.data.l.length y.c) p.data.l.length (u8s p.data.l))]), pu, nw 3, pu, pu] (fun p8 => kp [(2, .iface 168 (pt (p8 10).g 0))]) (fun p8 => kP [(1, some (.row w.heap.size 5 1 (.slice (p8 8).a p.data.l.length (p8 8).c) p.data.l.length (u8s p.data.l))), (3, some (.blk (p8 10).g 170 #[.int .u8 p.sub, .int .u32 p.sender, .string p.text, .slice (p8 8).a p.data.l.length (p8 8).c]))]) (fun _ => ⟨kr (cu_row (P := Tryz.prog) (w0 := w) (ps := [none]) 45 #[.slice p.data.A (p.data.l.length : Nat) p.data.c] 1 5 1 p.data.l.length (u8s p.data.l) (fun w4 hB hz => clone8 w.heap.size p.data.A p.data.l.length p.data.c (u8s p.data.l) w4 (by have := Reads.below hd hB; rwa [u8c_flat] at this) (u8s_one _) hz (by omega))), trivial⟩) fun p8 a u hE hS => ?_
 refine wp_ret (bkR (thR ?_))
 exact ret1 hE Tryz.results22 (.iface 168 (pt (p8 10).g 0)) ⟨(p8 10).g, (p8 8).a, (p8 8).c, rfl, pcB hS 3, stp_ge hS 3 (show Blk u (p8 10).g 170 #[.int .u8 p.sub, .int .u32 p.sender, .string p.text, .slice (p8 8).a p.data.l.length (p8 8).c] from pcB hS 3), pcR (base := w.heap.size) hS 1, hS.below⟩
theorem built_12 (p : Pkt) (w : World) (hk : p.kind = 12) (hs : p.sources.Lies w w.heap.size 1 u32c) (hsn : p.sources.l.length ≤ 2147483647) :
  Calls Tryz.prog 22 #[.agg p.cells] w fun e w' => ∃ g v1 c1, e = .returned (.iface 94 (.pointer (some ⟨g, 0, none⟩))) ∧ Blk w' g 196 #[.int .u32 p.sender, .float .f32 p.bits.toNat, .slice v1 p.sources.l.length c1] ∧ w.heap.size ≤ g ∧ w'.ownsRow w.heap.size 22 1 (.slice v1 p.sources.l.length c1) p.sources.l.length (p.sources.l.flatMap u32c) ∧ Below w.heap.size w w' := by
 refine go_in Tryz.func22 rfl Tryz.ntmps22 [.agg p.cells] fun a hE => ?_
 have hS := stp_in w
 refine rg hE hS [nw 0, pu] (fun p1 => kp [(1, pt (p1 0).g 0), (2, .nilIface)]) (fun p1 => kP [(0, some (.blk (p1 0).g 56 p.cells))]) fun p1 a u hE hS => ?_
 refine wp_seq ?_
 refine rgp hE hS [pu, ov (ld 0) (.int .i64 12)] (fun _ => kp [(14, .int .i64 12)]) kP0 (fun _ => ⟨fun _ => kr (congrArg (Value.int .i64) hk), trivial⟩) fun _ a u hE hS => wp_block ?_
 refine rg hE hS [pu, pu] (fun _ => kp [(15, .bool false)]) kP0 fun _ a u hE hS => iff hE ?_
 refine rg hE hS [pu, pu] (fun _ => kp [(36, .bool false)]) kP0 fun _ a u hE hS => iff hE ?_
 refine rg hE hS [pu, pu] (fun _ => kp [(49, .bool false)]) kP0 fun _ a u hE hS => iff hE ?_
 refine rg hE hS [pu, pu] (fun _ => kp [(55, .bool false)]) kP0 fun _ a u hE hS => iff hE ?_
 refine rg hE hS [pu, pu] (fun _ => kp [(65, .bool false)]) kP0 fun _ a u hE hS => iff hE ?_
 refine rg hE hS [pu, pu] (fun _ => kp [(79, .bool false)]) kP0 fun _ a u hE hS => iff hE ?_
 refine rg hE hS [pu, pu] (fun _ => kp [(111, .bool false)]) kP0 fun _ a u hE hS => iff hE ?_
 refine rg hE hS [pu, pu] (fun _ => kp [(120, .bool false)]) kP0 fun _ a u hE hS => iff hE ?_
 refine rg hE hS [pu, pu] (fun _ => kp [(132, .bool false)]) kP0 fun _ a u hE hS => iff hE ?_
 refine rg hE hS [pu, pu] (fun _ => kp [(141, .bool false)]) kP0 fun _ a u hE hS => iff hE ?_
 refine rg hE hS [pu, pu] (fun _ => kp [(175, .bool false)]) kP0 fun _ a u hE hS => iff hE ?_
 refine rg hE hS [pu, pu] (fun _ => kp [(207, .bool true)]) kP0 fun _ a u hE hS => ift hE ?_
 refine dgp hE hS [pu, ld 0, pu, ld 0, pu, pu, ld 0, cu 50 [] [1] (fun y => .slice y.a p.sources.l.length y.c) (fun y => [some (.row w.heap.size 22 1 (.slice y.a p.sources.l.length y.c) p.sources.l.length (p.sources.l.flatMap u32c))]), pu, nw 3, pu, pu] (fun p15 => kp [(2, .iface 94 (pt (p15 9).g 0))]) (fun p15 => kP [(1, some (.row w.heap.size 22 1 (.slice (p15 7).a p.sources.l.length (p15 7).c) p.sources.l.length (p.sources.l.flatMap u32c))), (3, some (.blk (p15 9).g 196 #[.int .u32 p.sender, .float .f32 p.bits.toNat, .slice (p15 7).a p.sources.l.length (p15 7).c]))]) (fun _ => ⟨kr (cu_row (P := Tryz.prog) (w0 := w) (ps := [none]) 50 #[.slice p.sources.A (p.sources.l.length : Nat) p.sources.c] 1 22 1 p.sources.l.length (p.sources.l.flatMap u32c) (fun w4 hB hz => clone32 w.heap.size p.sources.A p.sources.l.length p.sources.c (p.sources.l.flatMap u32c) w4 (Reads.below hs hB) (u32c_one _) hz (by omega))), trivial⟩) fun p15 a u hE hS => ?_
 refine wp_ret (bkR (thR ?_))
 exact ret1 hE Tryz.results22 (.iface 94 (pt (p15 9).g 0)) ⟨(p15 9).g, (p15 7).a, (p15 7).c, rfl, pcB hS 3, stp_ge hS 3 (show Blk u (p15 9).g 196 #[.int .u32 p.sender, .float .f32 p.bits.toNat, .slice (p15 7).a p.sources.l.length (p15 7).c] from pcB hS 3), pcR (base := w.heap.size) hS 1, hS.below⟩
theorem built_7 (p : Pkt) (w : World) (hk : p.kind = 7) :
  Calls Tryz.prog 22 #[.agg p.cells] w fun e w' => ∃ g, e = .returned (.iface 89 (.pointer (some ⟨g, 0, none⟩))) ∧ Blk w' g 178 #[.int .u32 p.sender, .int .u32 p.media] ∧ w.heap.size ≤ g ∧ Below w.heap.size w w' := by
 refine go_in Tryz.func22 rfl Tryz.ntmps22 [.agg p.cells] fun a hE => ?_
 have hS := stp_in w
 refine rg hE hS [nw 0, pu] (fun p1 => kp [(1, pt (p1 0).g 0), (2, .nilIface)]) (fun p1 => kP [(0, some (.blk (p1 0).g 56 p.cells))]) fun p1 a u hE hS => ?_
 refine wp_seq ?_
 refine rgp hE hS [pu, ov (ld 0) (.int .i64 7)] (fun _ => kp [(14, .int .i64 7)]) kP0 (fun _ => ⟨fun _ => kr (congrArg (Value.int .i64) hk), trivial⟩) fun _ a u hE hS => wp_block ?_
 refine rg hE hS [pu, pu] (fun _ => kp [(15, .bool false)]) kP0 fun _ a u hE hS => iff hE ?_
 refine rg hE hS [pu, pu] (fun _ => kp [(36, .bool false)]) kP0 fun _ a u hE hS => iff hE ?_
 refine rg hE hS [pu, pu] (fun _ => kp [(49, .bool false)]) kP0 fun _ a u hE hS => iff hE ?_
 refine rg hE hS [pu, pu] (fun _ => kp [(55, .bool false)]) kP0 fun _ a u hE hS => iff hE ?_
 refine rg hE hS [pu, pu] (fun _ => kp [(65, .bool false)]) kP0 fun _ a u hE hS => iff hE ?_
 refine rg hE hS [pu, pu] (fun _ => kp [(79, .bool false)]) kP0 fun _ a u hE hS => iff hE ?_
 refine rg hE hS [pu, pu] (fun _ => kp [(111, .bool true)]) kP0 fun _ a u hE hS => ift hE ?_
 refine rg hE hS [pu, ld 0, pu, ld 0, pu, nw 3, pu, pu] (fun p10 => kp [(2, .iface 89 (pt (p10 5).g 0))]) (fun p10 => kP [(3, some (.blk (p10 5).g 178 #[.int .u32 p.sender, .int .u32 p.media]))]) fun p10 a u hE hS => ?_
 refine wp_ret (bkR (thR ?_))
 exact ret1 hE Tryz.results22 (.iface 89 (pt (p10 5).g 0)) ⟨(p10 5).g, rfl, pcB hS 3, stp_ge hS 3 (show Blk u (p10 5).g 178 #[.int .u32 p.sender, .int .u32 p.media] from pcB hS 3), hS.below⟩
theorem built_9 (p : Pkt) (w : World) (hk : p.kind = 9) :
  Calls Tryz.prog 22 #[.agg p.cells] w fun e w' => ∃ g, e = .returned (.iface 91 (.pointer (some ⟨g, 0, none⟩))) ∧ Blk w' g 183 #[.int .u32 p.sender, .int .u32 p.media] ∧ w.heap.size ≤ g ∧ Below w.heap.size w w' := by
 refine go_in Tryz.func22 rfl Tryz.ntmps22 [.agg p.cells] fun a hE => ?_
 have hS := stp_in w
 refine rg hE hS [nw 0, pu] (fun p1 => kp [(1, pt (p1 0).g 0), (2, .nilIface)]) (fun p1 => kP [(0, some (.blk (p1 0).g 56 p.cells))]) fun p1 a u hE hS => ?_
 refine wp_seq ?_
 refine rgp hE hS [pu, ov (ld 0) (.int .i64 9)] (fun _ => kp [(14, .int .i64 9)]) kP0 (fun _ => ⟨fun _ => kr (congrArg (Value.int .i64) hk), trivial⟩) fun _ a u hE hS => wp_block ?_
 refine rg hE hS [pu, pu] (fun _ => kp [(15, .bool false)]) kP0 fun _ a u hE hS => iff hE ?_
 refine rg hE hS [pu, pu] (fun _ => kp [(36, .bool false)]) kP0 fun _ a u hE hS => iff hE ?_
 refine rg hE hS [pu, pu] (fun _ => kp [(49, .bool false)]) kP0 fun _ a u hE hS => iff hE ?_
 refine rg hE hS [pu, pu] (fun _ => kp [(55, .bool false)]) kP0 fun _ a u hE hS => iff hE ?_
 refine rg hE hS [pu, pu] (fun _ => kp [(65, .bool false)]) kP0 fun _ a u hE hS => iff hE ?_
 refine rg hE hS [pu, pu] (fun _ => kp [(79, .bool false)]) kP0 fun _ a u hE hS => iff hE ?_
 refine rg hE hS [pu, pu] (fun _ => kp [(111, .bool false)]) kP0 fun _ a u hE hS => iff hE ?_
 refine rg hE hS [pu, pu] (fun _ => kp [(120, .bool false)]) kP0 fun _ a u hE hS => iff hE ?_
 refine rg hE hS [pu, pu] (fun _ => kp [(132, .bool true)]) kP0 fun _ a u hE hS => ift hE ?_
 refine rg hE hS [pu, ld 0, pu, ld 0, pu, nw 3, pu, pu] (fun p12 => kp [(2, .iface 91 (pt (p12 5).g 0))]) (fun p12 => kP [(3, some (.blk (p12 5).g 183 #[.int .u32 p.sender, .int .u32 p.media]))]) fun p12 a u hE hS => ?_
 refine wp_ret (bkR (thR ?_))
 exact ret1 hE Tryz.results22 (.iface 91 (pt (p12 5).g 0)) ⟨(p12 5).g, rfl, pcB hS 3, stp_ge hS 3 (show Blk u (p12 5).g 183 #[.int .u32 p.sender, .int .u32 p.media] from pcB hS 3), hS.below⟩
theorem builtL_6 (p : Pkt) (w : World) (hk : p.kind = 6) (hr : p.pairs.Lies w w.heap.size 2 Pair.cells) (hn : p.pairs.l.length ≤ 2147483646) :
  Calls Tryz.prog 22 #[.agg p.cells] w fun e w' =>
   ∃ g v, e = .returned (.iface 88 (.pointer (some ⟨g, 0, none⟩))) ∧ Blk w' g 173 #[.int .u32 p.sender, .int .u32 p.media, v] ∧ w.heap.size ≤ g ∧ w'.ownsRow w.heap.size 176 2 v p.pairs.l.length (p.pairs.l.flatMap Pair.cells) ∧ Below w.heap.size w w' := by
 refine go_in Tryz.func22 rfl Tryz.ntmps22 [.agg p.cells] fun a hE => ?_
 have hS := stp_in w
 refine rg hE hS [nw 0, pu] (fun p1 => kp [(1, pt (p1 0).g 0), (2, .nilIface)]) (fun p1 => kP [(0, some (.blk (p1 0).g 56 p.cells))]) fun p1 a u hE hS => ?_
 refine wp_seq ?_
 refine rgp hE hS [pu, ov (ld 0) (.int .i64 6)] (fun _ => kp [(14, .int .i64 6)]) kP0 (fun _ => ⟨fun _ => kr (congrArg (Value.int .i64) hk), trivial⟩) fun _ a u hE hS => wp_block ?_
 refine rg hE hS [pu, pu] (fun _ => kp [(15, .bool false)]) kP0 fun _ a u hE hS => iff hE ?_
 refine rg hE hS [pu, pu] (fun _ => kp [(36, .bool false)]) kP0 fun _ a u hE hS => iff hE ?_
 refine rg hE hS [pu, pu] (fun _ => kp [(49, .bool false)]) kP0 fun _ a u hE hS => iff hE ?_
 refine rg hE hS [pu, pu] (fun _ => kp [(55, .bool false)]) kP0 fun _ a u hE hS => iff hE ?_
 refine rg hE hS [pu, pu] (fun _ => kp [(65, .bool false)]) kP0 fun _ a u hE hS => iff hE ?_
 refine rg hE hS [pu, pu] (fun _ => kp [(79, .bool true)]) kP0 fun _ a u hE hS => ift hE ?_
 refine rg hE hS [pu, ld 0, pu, ld 0, pu, nw 3, pu] (fun p9 => kp [(3, pt (p9 5).g 0)]) (fun p9 => kP [(3, some (.blk (p9 5).g 173 #[.int .u32 p.sender, .int .u32 p.media, .slice none 0 0]))]) fun p9 a u hE hS => ?_
 refine wp_seq ?_
 refine rg hE hS [pu, ld 0, pu, pu] (fun _ => kn [(88, .slice p.pairs.A (p.pairs.l.length : Nat) p.pairs.c), (89, .int .i64 (p.pairs.l.length : Nat)), (90, .int .i64 0)] [2, 3]) (fun _ => kN [] [3]) fun _ a u hE hS => ?_
 have hS := stp_row0 hS 1 w.heap.size 176 2
 refine range_up hE hS 90 p.pairs.l.length (fun _ _ => kd [90, 91, 108] []) (fun _ x => kP [(3, some (.blk (p9 5).g 173 #[.int .u32 p.sender, .int .u32 p.media, .slice x.p.a x.n x.p.c])), (1, some (.row w.heap.size 176 2 (.slice x.p.a x.n x.p.c) x.n x.xs))]) (fun k (x : Lx Unit) => x.n = k ∧ x.xs = (p.pairs.l.take k).flatMap Pair.cells) ⟨pay0, 0, [], ()⟩ (by omega) (⟨rfl, rfl⟩) (fun k x a u hk hI hE hS K hK RK hRK => ?_) fun ⟨qq, _, _, _⟩ a u hI hE hS => ?_
 ·obtain ⟨hk1, hk2⟩ := hI
  have hS := stp_el hS 90 (el_at hr (fun _ _ => rfl) rfl (fun g hg => ⟨hg, id⟩) k hk (by omega))
  generalize hrk : p.pairs.l[k] = r at hS
  refine rgp hE hS [ie 90, le 90 0, nw 91, st 91] (fun p11 => kp [(5, pt (p11 2).g 0)]) (fun p11 => kP [(91, some (.blk (p11 2).g 111 (Pair.cells r).toArray))]) (fun _ => ⟨kr (show k < p.pairs.l.length from hk), trivial⟩) fun p11 a u hE hS => ?_
  refine dgE hE hS [pu, pu, pu, pu, ld 3, pu, ld 91, pu, ld 91, pu, nw 92, ap 1 [92], pu, pu, st 3] kp0 (fun p12 => kP [(1, some (.row w.heap.size 176 2 (.slice (p12 11).a (x.n + 1) (p12 11).c) (x.n + 1) (x.xs ++ Pair.cells r))), (3, some (.blk (p9 5).g 173 #[.int .u32 p.sender, .int .u32 p.media, .slice (p12 11).a (x.n + 1) (p12 11).c]))]) (fun _ => ⟨kr (show w.heap.size ≤ w.heap.size ∧ (x.n + 1) * 4 ≤ 140737488355328 ∧ ∀ u ∈ Pair.cells r, u.oneCell' = true from ⟨Nat.le_refl _, by omega, by simp [Pair.cells, Value.oneCell']⟩), trivial⟩) fun p12 a u hE hS => ?_
  exact hK ⟨(p12 11), x.n + 1, x.xs ++ Pair.cells r, ()⟩ a u _ _ ⟨congrArg (· + 1) hk1, by rw [hk2, flat_take_succ _ _ _ hk, hrk]⟩ hE hS (by kernel_rfl)
 simp only [List.take_length] at hI
 obtain ⟨h1, h2⟩ := hI
 subst h1 h2
 refine rg hE hS [pu, pu, pu] (fun _ => kp [(2, .iface 88 (pt (p9 5).g 0))]) kP0 fun _ a u hE hS => ?_
 refine wp_ret (bkR (thR ?_))
 exact ret1 hE Tryz.results22 (.iface 88 (pt (p9 5).g 0)) ⟨(p9 5).g, .slice qq.a p.pairs.l.length qq.c, rfl, pcB hS 3, stp_ge hS 3 (show Blk u (p9 5).g 173 #[.int .u32 p.sender, .int .u32 p.media, .slice qq.a p.pairs.l.length qq.c] from pcB hS 3), pcR (base := w.heap.size) hS 1, hS.below⟩
theorem builtL_10 (p : Pkt) (w : World) (hk : p.kind = 10) (hr : p.slices.Lies w w.heap.size 3 Slc.cells) (hn : p.slices.l.length ≤ 2147483646) :
  Calls Tryz.prog 22 #[.agg p.cells] w fun e w' =>
   ∃ g v, e = .returned (.iface 92 (.pointer (some ⟨g, 0, none⟩))) ∧ Blk w' g 186 #[.int .u32 p.sender, .int .u32 p.media, v] ∧ w.heap.size ≤ g ∧ w'.ownsRow w.heap.size 187 3 v p.slices.l.length (p.slices.l.flatMap Slc.cells) ∧ Below w.heap.size w w' := by
 refine go_in Tryz.func22 rfl Tryz.ntmps22 [.agg p.cells] fun a hE => ?_
 have hS := stp_in w
 refine rg hE hS [nw 0, pu] (fun p1 => kp [(1, pt (p1 0).g 0), (2, .nilIface)]) (fun p1 => kP [(0, some (.blk (p1 0).g 56 p.cells))]) fun p1 a u hE hS => ?_
 refine wp_seq ?_
 refine rgp hE hS [pu, ov (ld 0) (.int .i64 10)] (fun _ => kp [(14, .int .i64 10)]) kP0 (fun _ => ⟨fun _ => kr (congrArg (Value.int .i64) hk), trivial⟩) fun _ a u hE hS => wp_block ?_
 refine rg hE hS [pu, pu] (fun _ => kp [(15, .bool false)]) kP0 fun _ a u hE hS => iff hE ?_
 refine rg hE hS [pu, pu] (fun _ => kp [(36, .bool false)]) kP0 fun _ a u hE hS => iff hE ?_
 refine rg hE hS [pu, pu] (fun _ => kp [(49, .bool false)]) kP0 fun _ a u hE hS => iff hE ?_
 refine rg hE hS [pu, pu] (fun _ => kp [(55, .bool false)]) kP0 fun _ a u hE hS => iff hE ?_
 refine rg hE hS [pu, pu] (fun _ => kp [(65, .bool false)]) kP0 fun _ a u hE hS => iff hE ?_
 refine rg hE hS [pu, pu] (fun _ => kp [(79, .bool false)]) kP0 fun _ a u hE hS => iff hE ?_
 refine rg hE hS [pu, pu] (fun _ => kp [(111, .bool false)]) kP0 fun _ a u hE hS => iff hE ?_
 refine rg hE hS [pu, pu] (fun _ => kp [(120, .bool false)]) kP0 fun _ a u hE hS => iff hE ?_
 refine rg hE hS [pu, pu] (fun _ => kp [(132, .bool false)]) kP0 fun _ a u hE hS => iff hE ?_
 refine rg hE hS [pu, pu] (fun _ => kp [(141, .bool true)]) kP0 fun _ a u hE hS => ift hE ?_
 refine rg hE hS [pu, ld 0, pu, ld 0, pu, nw 3, pu] (fun p13 => kp [(6, pt (p13 5).g 0)]) (fun p13 => kP [(3, some (.blk (p13 5).g 186 #[.int .u32 p.sender, .int .u32 p.media, .slice none 0 0]))]) fun p13 a u hE hS => ?_
 refine wp_seq ?_
 refine rg hE hS [pu, ld 0, pu, pu] (fun _ => kn [(150, .slice p.slices.A (p.slices.l.length : Nat) p.slices.c), (151, .int .i64 (p.slices.l.length : Nat)), (152, .int .i64 0)] [2, 6]) (fun _ => kN [] [3]) fun _ a u hE hS => ?_
 have hS := stp_row0 hS 1 w.heap.size 187 3
 refine range_up hE hS 152 p.slices.l.length (fun _ _ => kd [152, 153, 172] []) (fun _ x => kP [(3, some (.blk (p13 5).g 186 #[.int .u32 p.sender, .int .u32 p.media, .slice x.p.a x.n x.p.c])), (1, some (.row w.heap.size 187 3 (.slice x.p.a x.n x.p.c) x.n x.xs))]) (fun k (x : Lx Unit) => x.n = k ∧ x.xs = (p.slices.l.take k).flatMap Slc.cells) ⟨pay0, 0, [], ()⟩ (by omega) (⟨rfl, rfl⟩) (fun k x a u hk hI hE hS K hK RK hRK => ?_) fun ⟨qq, _, _, _⟩ a u hI hE hS => ?_
 ·obtain ⟨hk1, hk2⟩ := hI
  have hS := stp_el hS 90 (el_at hr (fun _ _ => rfl) rfl (fun g hg => ⟨hg, id⟩) k hk (by omega))
  generalize hrk : p.slices.l[k] = r at hS
  refine rgp hE hS [ie 90, le 90 0, nw 91, st 91] (fun p15 => kp [(8, pt (p15 2).g 0)]) (fun p15 => kP [(91, some (.blk (p15 2).g 114 (Slc.cells r).toArray))]) (fun _ => ⟨kr (show k < p.slices.l.length from hk), trivial⟩) fun p15 a u hE hS => ?_
  refine dgE hE hS [pu, pu, pu, pu, ld 3, pu, ld 91, pu, ld 91, pu, ld 91, pu, nw 92, ap 1 [92], pu, pu, st 3] kp0 (fun p16 => kP [(1, some (.row w.heap.size 187 3 (.slice (p16 13).a (x.n + 1) (p16 13).c) (x.n + 1) (x.xs ++ Slc.cells r))), (3, some (.blk (p13 5).g 186 #[.int .u32 p.sender, .int .u32 p.media, .slice (p16 13).a (x.n + 1) (p16 13).c]))]) (fun _ => ⟨kr (show w.heap.size ≤ w.heap.size ∧ (x.n + 1) * 6 ≤ 140737488355328 ∧ ∀ u ∈ Slc.cells r, u.oneCell' = true from ⟨Nat.le_refl _, by omega, by simp [Slc.cells, Value.oneCell']⟩), trivial⟩) fun p16 a u hE hS => ?_
  exact hK ⟨(p16 13), x.n + 1, x.xs ++ Slc.cells r, ()⟩ a u _ _ ⟨congrArg (· + 1) hk1, by rw [hk2, flat_take_succ _ _ _ hk, hrk]⟩ hE hS (by kernel_rfl)
 simp only [List.take_length] at hI
 obtain ⟨h1, h2⟩ := hI
 subst h1 h2
 refine rg hE hS [pu, pu, pu] (fun _ => kp [(2, .iface 92 (pt (p13 5).g 0))]) kP0 fun _ a u hE hS => ?_
 refine wp_ret (bkR (thR ?_))
 exact ret1 hE Tryz.results22 (.iface 92 (pt (p13 5).g 0)) ⟨(p13 5).g, .slice qq.a p.slices.l.length qq.c, rfl, pcB hS 3, stp_ge hS 3 (show Blk u (p13 5).g 186 #[.int .u32 p.sender, .int .u32 p.media, .slice qq.a p.slices.l.length qq.c] from pcB hS 3), pcR (base := w.heap.size) hS 1, hS.below⟩
theorem builtL_11 (p : Pkt) (w : World) (hk : p.kind = 11) (hr : p.entries.Lies w w.heap.size 2 Ent.cells) (hn : p.entries.l.length ≤ 2147483646) :
  Calls Tryz.prog 22 #[.agg p.cells] w fun e w' =>
   ∃ g v, e = .returned (.iface 93 (.pointer (some ⟨g, 0, none⟩))) ∧ Blk w' g 190 #[.int .u32 p.sender, .int .u32 p.media, v] ∧ w.heap.size ≤ g ∧ w'.ownsRow w.heap.size 192 2 v p.entries.l.length (p.entries.l.flatMap Ent.cells) ∧ Below w.heap.size w w' := by
 refine go_in Tryz.func22 rfl Tryz.ntmps22 [.agg p.cells] fun a hE => ?_
 have hS := stp_in w
 refine rg hE hS [nw 0, pu] (fun p1 => kp [(1, pt (p1 0).g 0), (2, .nilIface)]) (fun p1 => kP [(0, some (.blk (p1 0).g 56 p.cells))]) fun p1 a u hE hS => ?_
 refine wp_seq ?_
 refine rgp hE hS [pu, ov (ld 0) (.int .i64 11)] (fun _ => kp [(14, .int .i64 11)]) kP0 (fun _ => ⟨fun _ => kr (congrArg (Value.int .i64) hk), trivial⟩) fun _ a u hE hS => wp_block ?_
 refine rg hE hS [pu, pu] (fun _ => kp [(15, .bool false)]) kP0 fun _ a u hE hS => iff hE ?_
 refine rg hE hS [pu, pu] (fun _ => kp [(36, .bool false)]) kP0 fun _ a u hE hS => iff hE ?_
 refine rg hE hS [pu, pu] (fun _ => kp [(49, .bool false)]) kP0 fun _ a u hE hS => iff hE ?_
 refine rg hE hS [pu, pu] (fun _ => kp [(55, .bool false)]) kP0 fun _ a u hE hS => iff hE ?_
 refine rg hE hS [pu, pu] (fun _ => kp [(65, .bool false)]) kP0 fun _ a u hE hS => iff hE ?_
 refine rg hE hS [pu, pu] (fun _ => kp [(79, .bool false)]) kP0 fun _ a u hE hS => iff hE ?_
 refine rg hE hS [pu, pu] (fun _ => kp [(111, .bool false)]) kP0 fun _ a u hE hS => iff hE ?_
 refine rg hE hS [pu, pu] (fun _ => kp [(120, .bool false)]) kP0 fun _ a u hE hS => iff hE ?_
 refine rg hE hS [pu, pu] (fun _ => kp [(132, .bool false)]) kP0 fun _ a u hE hS => iff hE ?_
 refine rg hE hS [pu, pu] (fun _ => kp [(141, .bool false)]) kP0 fun _ a u hE hS => iff hE ?_
 refine rg hE hS [pu, pu] (fun _ => kp [(175, .bool true)]) kP0 fun _ a u hE hS => ift hE ?_
 refine rg hE hS [pu, ld 0, pu, ld 0, pu, nw 3, pu] (fun p14 => kp [(9, pt (p14 5).g 0)]) (fun p14 => kP [(3, some (.blk (p14 5).g 190 #[.int .u32 p.sender, .int .u32 p.media, .slice none 0 0]))]) fun p14 a u hE hS => ?_
 refine wp_seq ?_
 refine rg hE hS [pu, ld 0, pu, pu] (fun _ => kn [(184, .slice p.entries.A (p.entries.l.length : Nat) p.entries.c), (185, .int .i64 (p.entries.l.length : Nat)), (186, .int .i64 0)] [2, 9]) (fun _ => kN [] [3]) fun _ a u hE hS => ?_
 have hS := stp_row0 hS 1 w.heap.size 192 2
 refine range_up hE hS 186 p.entries.l.length (fun _ _ => kd [186, 187, 204] []) (fun _ x => kP [(3, some (.blk (p14 5).g 190 #[.int .u32 p.sender, .int .u32 p.media, .slice x.p.a x.n x.p.c])), (1, some (.row w.heap.size 192 2 (.slice x.p.a x.n x.p.c) x.n x.xs))]) (fun k (x : Lx Unit) => x.n = k ∧ x.xs = (p.entries.l.take k).flatMap Ent.cells) ⟨pay0, 0, [], ()⟩ (by omega) (⟨rfl, rfl⟩) (fun k x a u hk hI hE hS K hK RK hRK => ?_) fun ⟨qq, _, _, _⟩ a u hI hE hS => ?_
 ·obtain ⟨hk1, hk2⟩ := hI
  have hS := stp_el hS 90 (el_at hr (fun _ _ => rfl) rfl (fun g hg => ⟨hg, id⟩) k hk (by omega))
  generalize hrk : p.entries.l[k] = r at hS
  refine rgp hE hS [ie 90, le 90 0, nw 91, st 91] (fun p16 => kp [(11, pt (p16 2).g 0)]) (fun p16 => kP [(91, some (.blk (p16 2).g 117 (Ent.cells r).toArray))]) (fun _ => ⟨kr (show k < p.entries.l.length from hk), trivial⟩) fun p16 a u hE hS => ?_
  refine dgE hE hS [pu, pu, pu, pu, ld 3, pu, ld 91, pu, ld 91, pu, nw 92, ap 1 [92], pu, pu, st 3] kp0 (fun p17 => kP [(1, some (.row w.heap.size 192 2 (.slice (p17 11).a (x.n + 1) (p17 11).c) (x.n + 1) (x.xs ++ Ent.cells r))), (3, some (.blk (p14 5).g 190 #[.int .u32 p.sender, .int .u32 p.media, .slice (p17 11).a (x.n + 1) (p17 11).c]))]) (fun _ => ⟨kr (show w.heap.size ≤ w.heap.size ∧ (x.n + 1) * 8 ≤ 140737488355328 ∧ ∀ u ∈ Ent.cells r, u.oneCell' = true from ⟨Nat.le_refl _, by omega, by simp [Ent.cells, Value.oneCell']⟩), trivial⟩) fun p17 a u hE hS => ?_
  exact hK ⟨(p17 11), x.n + 1, x.xs ++ Ent.cells r, ()⟩ a u _ _ ⟨congrArg (· + 1) hk1, by rw [hk2, flat_take_succ _ _ _ hk, hrk]⟩ hE hS (by kernel_rfl)
 simp only [List.take_length] at hI
 obtain ⟨h1, h2⟩ := hI
 subst h1 h2
 refine rg hE hS [pu, pu, pu] (fun _ => kp [(2, .iface 93 (pt (p14 5).g 0))]) kP0 fun _ a u hE hS => ?_
 refine wp_ret (bkR (thR ?_))
 exact ret1 hE Tryz.results22 (.iface 93 (pt (p14 5).g 0)) ⟨(p14 5).g, .slice qq.a p.entries.l.length qq.c, rfl, pcB hS 3, stp_ge hS 3 (show Blk u (p14 5).g 190 #[.int .u32 p.sender, .int .u32 p.media, .slice qq.a p.entries.l.length qq.c] from pcB hS 3), pcR (base := w.heap.size) hS 1, hS.below⟩
end Go.Proofs.YtmmfpgoodfgkbaaGreatDoor
