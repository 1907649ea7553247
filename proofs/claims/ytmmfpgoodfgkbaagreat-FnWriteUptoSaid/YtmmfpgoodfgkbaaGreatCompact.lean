/-
  THE WALK of the reference's leaving out of what a kind does not have. Condition: the kind.
-/
import Derived.Test.YtmmfpgoodfgkbaaGreatMStep
import Derived.Test.YtmmfpgoodfgkbaaGreatMPkt
namespace Go.Proofs.YtmmfpgoodfgkbaaGreat
open Go Go.RowKit
set_option linter.unusedVariables false

def Sl.nil {α : Type} : Sl α := ⟨none, 0, []⟩
/-- The zero packet. -/
def Pkt.zero : Pkt := ⟨0, 0, 0, 0, 0, 0, 0, Sl.nil, Sl.nil, Sl.nil, Sl.nil, ByteArray.empty, 0, Sl.nil, Sl.nil, Sl.nil, Sl.nil, 0, Sl.nil, 0, 0, 0, 0, 0, Sl.nil, Sl.nil, false, 0, 0, 0⟩
theorem pkt_one (p : Pkt) : p.cells.all (·.oneCell') = true := by kernel_rfl

set_option maxRecDepth 100000 in
theorem compact_0 (p : Pkt) (w : World) (hk : p.kind = 0) :
    Calls Tryz.prog 25 #[.agg p.cells] w fun e w' => e = .returned (.agg (Pkt.cells (⟨0, 0, 0, 0, 0, 0, 0, Sl.nil, Sl.nil, Sl.nil, Sl.nil, ByteArray.empty, 0, p.data, Sl.nil, Sl.nil, Sl.nil, 0, Sl.nil, 0, 0, 0, 0, 0, Sl.nil, Sl.nil, false, 0, 0, 0⟩ : Pkt))) ∧ Below w.heap.size w w' := by
  refine go_in Tryz.func25 rfl Tryz.ntmps25 [.agg p.cells] fun a hE => ?_
  have hS := stp_in w
  refine rg hE hS [nw 101, nw 102] (fun p1 => kp [(1, pt (p1 0).g 0), (2, pt (p1 1).g 0)]) (fun p1 => kP [(101, some (.blk (p1 0).g 38 p.cells)), (102, some (.blk (p1 1).g 38 (Pkt.cells ⟨0, 0, 0, 0, 0, 0, 0, Sl.nil, Sl.nil, Sl.nil, Sl.nil, ByteArray.empty, 0, Sl.nil, Sl.nil, Sl.nil, Sl.nil, 0, Sl.nil, 0, 0, 0, 0, 0, Sl.nil, Sl.nil, false, 0, 0, 0⟩)))]) fun p1 a u hE hS => ?_
  refine rg hE hS [pu, ld 101, pu, ld 101, pu, nw 103, st 103] (fun p2 => kp [(3, pt (p2 5).g 0)]) (fun p2 => kP [(103, some (.blk (p2 5).g 38 (Pkt.cells ⟨p.kind, p.sender, 0, 0, 0, 0, 0, Sl.nil, Sl.nil, Sl.nil, Sl.nil, ByteArray.empty, 0, Sl.nil, Sl.nil, Sl.nil, Sl.nil, 0, Sl.nil, 0, 0, 0, 0, 0, Sl.nil, Sl.nil, false, 0, 0, 0⟩)))]) fun p2 a u hE hS => ?_
  refine wp_seq ?_
  refine rgp hE hS [pu, ov (ld 101) (.int .i64 0)] (fun _ => kp [(10, .int .i64 0)]) (fun _ => kP []) (fun _ => ⟨fun _ => kr (congrArg (Value.int .i64) hk), trivial⟩) fun _ a u hE hS => ?_
  refine wp_block ?_
  refine rg hE hS [pu, pu] (fun _ => kp [(35, .bool true)]) (fun _ => kP []) fun _ a u hE hS => ?_
  refine ift hE ?_
  refine rg hE hS [pu, ld 101, pu, st 102] (fun _ => kp []) (fun _ => kP [(102, some (.blk (p1 1).g 38 (Pkt.cells ⟨0, 0, 0, 0, 0, 0, 0, Sl.nil, Sl.nil, Sl.nil, Sl.nil, ByteArray.empty, 0, p.data, Sl.nil, Sl.nil, Sl.nil, 0, Sl.nil, 0, 0, 0, 0, 0, Sl.nil, Sl.nil, false, 0, 0, 0⟩)))]) fun _ a u hE hS => ?_
  refine wp_ret (bkR (thR ?_))
  exact retc hE hS Tryz.results25 102 (p1 1).g 38 (Pkt.cells (⟨0, 0, 0, 0, 0, 0, 0, Sl.nil, Sl.nil, Sl.nil, Sl.nil, ByteArray.empty, 0, p.data, Sl.nil, Sl.nil, Sl.nil, 0, Sl.nil, 0, 0, 0, 0, 0, Sl.nil, Sl.nil, false, 0, 0, 0⟩ : Pkt)) ⟨rfl, hS.below⟩ Tryz.underlying38
set_option maxRecDepth 100000 in
theorem compact_1 (p : Pkt) (w : World) (hk : p.kind = 1) :
    Calls Tryz.prog 25 #[.agg p.cells] w fun e w' => e = .returned (.agg (Pkt.cells (⟨p.kind, p.sender, 0, p.ntp, p.rtp, p.packets, p.octets, p.reports, p.ext, Sl.nil, Sl.nil, ByteArray.empty, 0, Sl.nil, Sl.nil, Sl.nil, Sl.nil, 0, Sl.nil, 0, 0, 0, 0, 0, Sl.nil, Sl.nil, false, 0, 0, 0⟩ : Pkt))) ∧ Below w.heap.size w w' := by
  refine go_in Tryz.func25 rfl Tryz.ntmps25 [.agg p.cells] fun a hE => ?_
  have hS := stp_in w
  refine rg hE hS [nw 101, nw 102] (fun p1 => kp [(1, pt (p1 0).g 0), (2, pt (p1 1).g 0)]) (fun p1 => kP [(101, some (.blk (p1 0).g 38 p.cells)), (102, some (.blk (p1 1).g 38 (Pkt.cells ⟨0, 0, 0, 0, 0, 0, 0, Sl.nil, Sl.nil, Sl.nil, Sl.nil, ByteArray.empty, 0, Sl.nil, Sl.nil, Sl.nil, Sl.nil, 0, Sl.nil, 0, 0, 0, 0, 0, Sl.nil, Sl.nil, false, 0, 0, 0⟩)))]) fun p1 a u hE hS => ?_
  refine rg hE hS [pu, ld 101, pu, ld 101, pu, nw 103, st 103] (fun p2 => kp [(3, pt (p2 5).g 0)]) (fun p2 => kP [(103, some (.blk (p2 5).g 38 (Pkt.cells ⟨p.kind, p.sender, 0, 0, 0, 0, 0, Sl.nil, Sl.nil, Sl.nil, Sl.nil, ByteArray.empty, 0, Sl.nil, Sl.nil, Sl.nil, Sl.nil, 0, Sl.nil, 0, 0, 0, 0, 0, Sl.nil, Sl.nil, false, 0, 0, 0⟩)))]) fun p2 a u hE hS => ?_
  refine wp_seq ?_
  refine rgp hE hS [pu, ov (ld 101) (.int .i64 1)] (fun _ => kp [(10, .int .i64 1)]) (fun _ => kP []) (fun _ => ⟨fun _ => kr (congrArg (Value.int .i64) hk), trivial⟩) fun _ a u hE hS => ?_
  refine wp_block ?_
  refine rg hE hS [pu, pu] (fun _ => kp [(35, .bool false)]) (fun _ => kP []) fun _ a u hE hS => ?_
  refine iff hE ?_
  refine rg hE hS [pu, pu] (fun _ => kp [(40, .bool true)]) (fun _ => kP []) fun _ a u hE hS => ?_
  refine ift hE ?_
  refine dgE hE hS [pu, ld 101, pu, ld 101, pu, ld 101, pu, ld 101, pu, ld 101, pu, ld 101, pu, st 103, pu, st 103, pu, st 103, pu, st 103, pu, st 103, pu, st 103] (fun _ => kp []) (fun _ => kP [(103, some (.blk (p2 5).g 38 (Pkt.cells ⟨p.kind, p.sender, 0, p.ntp, p.rtp, p.packets, p.octets, p.reports, p.ext, Sl.nil, Sl.nil, ByteArray.empty, 0, Sl.nil, Sl.nil, Sl.nil, Sl.nil, 0, Sl.nil, 0, 0, 0, 0, 0, Sl.nil, Sl.nil, false, 0, 0, 0⟩)))]) (fun _ => trivial) fun _ a u hE hS => ?_
  refine rg hE hS [ld 103, st 102] (fun _ => kn [] [2]) (fun _ => kN [(102, some (.blk (p1 1).g 38 (Pkt.cells ⟨p.kind, p.sender, 0, p.ntp, p.rtp, p.packets, p.octets, p.reports, p.ext, Sl.nil, Sl.nil, ByteArray.empty, 0, Sl.nil, Sl.nil, Sl.nil, Sl.nil, 0, Sl.nil, 0, 0, 0, 0, 0, Sl.nil, Sl.nil, false, 0, 0, 0⟩)))] []) fun _ a u hE hS => ?_
  refine wp_ret ?_
  exact retc hE hS Tryz.results25 102 (p1 1).g 38 (Pkt.cells (⟨p.kind, p.sender, 0, p.ntp, p.rtp, p.packets, p.octets, p.reports, p.ext, Sl.nil, Sl.nil, ByteArray.empty, 0, Sl.nil, Sl.nil, Sl.nil, Sl.nil, 0, Sl.nil, 0, 0, 0, 0, 0, Sl.nil, Sl.nil, false, 0, 0, 0⟩ : Pkt)) ⟨rfl, hS.below⟩ Tryz.underlying38
set_option maxRecDepth 100000 in
theorem compact_2 (p : Pkt) (w : World) (hk : p.kind = 2) :
    Calls Tryz.prog 25 #[.agg p.cells] w fun e w' => e = .returned (.agg (Pkt.cells (⟨p.kind, p.sender, 0, 0, 0, 0, 0, p.reports, p.ext, Sl.nil, Sl.nil, ByteArray.empty, 0, Sl.nil, Sl.nil, Sl.nil, Sl.nil, 0, Sl.nil, 0, 0, 0, 0, 0, Sl.nil, Sl.nil, false, 0, 0, 0⟩ : Pkt))) ∧ Below w.heap.size w w' := by
  refine go_in Tryz.func25 rfl Tryz.ntmps25 [.agg p.cells] fun a hE => ?_
  have hS := stp_in w
  refine rg hE hS [nw 101, nw 102] (fun p1 => kp [(1, pt (p1 0).g 0), (2, pt (p1 1).g 0)]) (fun p1 => kP [(101, some (.blk (p1 0).g 38 p.cells)), (102, some (.blk (p1 1).g 38 (Pkt.cells ⟨0, 0, 0, 0, 0, 0, 0, Sl.nil, Sl.nil, Sl.nil, Sl.nil, ByteArray.empty, 0, Sl.nil, Sl.nil, Sl.nil, Sl.nil, 0, Sl.nil, 0, 0, 0, 0, 0, Sl.nil, Sl.nil, false, 0, 0, 0⟩)))]) fun p1 a u hE hS => ?_
  refine rg hE hS [pu, ld 101, pu, ld 101, pu, nw 103, st 103] (fun p2 => kp [(3, pt (p2 5).g 0)]) (fun p2 => kP [(103, some (.blk (p2 5).g 38 (Pkt.cells ⟨p.kind, p.sender, 0, 0, 0, 0, 0, Sl.nil, Sl.nil, Sl.nil, Sl.nil, ByteArray.empty, 0, Sl.nil, Sl.nil, Sl.nil, Sl.nil, 0, Sl.nil, 0, 0, 0, 0, 0, Sl.nil, Sl.nil, false, 0, 0, 0⟩)))]) fun p2 a u hE hS => ?_
  refine wp_seq ?_
  refine rgp hE hS [pu, ov (ld 101) (.int .i64 2)] (fun _ => kp [(10, .int .i64 2)]) (fun _ => kP []) (fun _ => ⟨fun _ => kr (congrArg (Value.int .i64) hk), trivial⟩) fun _ a u hE hS => ?_
  refine wp_block ?_
  refine rg hE hS [pu, pu] (fun _ => kp [(35, .bool false)]) (fun _ => kP []) fun _ a u hE hS => ?_
  refine iff hE ?_
  refine rg hE hS [pu, pu] (fun _ => kp [(40, .bool false)]) (fun _ => kP []) fun _ a u hE hS => ?_
  refine iff hE ?_
  refine rg hE hS [pu, pu] (fun _ => kp [(60, .bool true)]) (fun _ => kP []) fun _ a u hE hS => ?_
  refine ift hE ?_
  refine dgE hE hS [pu, ld 101, pu, ld 101, pu, st 103, pu, st 103] (fun _ => kp []) (fun _ => kP [(103, some (.blk (p2 5).g 38 (Pkt.cells ⟨p.kind, p.sender, 0, 0, 0, 0, 0, p.reports, p.ext, Sl.nil, Sl.nil, ByteArray.empty, 0, Sl.nil, Sl.nil, Sl.nil, Sl.nil, 0, Sl.nil, 0, 0, 0, 0, 0, Sl.nil, Sl.nil, false, 0, 0, 0⟩)))]) (fun _ => trivial) fun _ a u hE hS => ?_
  refine rg hE hS [ld 103, st 102] (fun _ => kn [] [2]) (fun _ => kN [(102, some (.blk (p1 1).g 38 (Pkt.cells ⟨p.kind, p.sender, 0, 0, 0, 0, 0, p.reports, p.ext, Sl.nil, Sl.nil, ByteArray.empty, 0, Sl.nil, Sl.nil, Sl.nil, Sl.nil, 0, Sl.nil, 0, 0, 0, 0, 0, Sl.nil, Sl.nil, false, 0, 0, 0⟩)))] []) fun _ a u hE hS => ?_
  refine wp_ret ?_
  exact retc hE hS Tryz.results25 102 (p1 1).g 38 (Pkt.cells (⟨p.kind, p.sender, 0, 0, 0, 0, 0, p.reports, p.ext, Sl.nil, Sl.nil, ByteArray.empty, 0, Sl.nil, Sl.nil, Sl.nil, Sl.nil, 0, Sl.nil, 0, 0, 0, 0, 0, Sl.nil, Sl.nil, false, 0, 0, 0⟩ : Pkt)) ⟨rfl, hS.below⟩ Tryz.underlying38
set_option maxRecDepth 100000 in
theorem compact_3 (p : Pkt) (w : World) (hk : p.kind = 3) :
    Calls Tryz.prog 25 #[.agg p.cells] w fun e w' => e = .returned (.agg (Pkt.cells (⟨p.kind, 0, 0, 0, 0, 0, 0, Sl.nil, Sl.nil, p.chunks, Sl.nil, ByteArray.empty, 0, Sl.nil, Sl.nil, Sl.nil, Sl.nil, 0, Sl.nil, 0, 0, 0, 0, 0, Sl.nil, Sl.nil, false, 0, 0, 0⟩ : Pkt))) ∧ Below w.heap.size w w' := by
  refine go_in Tryz.func25 rfl Tryz.ntmps25 [.agg p.cells] fun a hE => ?_
  have hS := stp_in w
  refine rg hE hS [nw 101, nw 102] (fun p1 => kp [(1, pt (p1 0).g 0), (2, pt (p1 1).g 0)]) (fun p1 => kP [(101, some (.blk (p1 0).g 38 p.cells)), (102, some (.blk (p1 1).g 38 (Pkt.cells ⟨0, 0, 0, 0, 0, 0, 0, Sl.nil, Sl.nil, Sl.nil, Sl.nil, ByteArray.empty, 0, Sl.nil, Sl.nil, Sl.nil, Sl.nil, 0, Sl.nil, 0, 0, 0, 0, 0, Sl.nil, Sl.nil, false, 0, 0, 0⟩)))]) fun p1 a u hE hS => ?_
  refine rg hE hS [pu, ld 101, pu, ld 101, pu, nw 103, st 103] (fun p2 => kp [(3, pt (p2 5).g 0)]) (fun p2 => kP [(103, some (.blk (p2 5).g 38 (Pkt.cells ⟨p.kind, p.sender, 0, 0, 0, 0, 0, Sl.nil, Sl.nil, Sl.nil, Sl.nil, ByteArray.empty, 0, Sl.nil, Sl.nil, Sl.nil, Sl.nil, 0, Sl.nil, 0, 0, 0, 0, 0, Sl.nil, Sl.nil, false, 0, 0, 0⟩)))]) fun p2 a u hE hS => ?_
  refine wp_seq ?_
  refine rgp hE hS [pu, ov (ld 101) (.int .i64 3)] (fun _ => kp [(10, .int .i64 3)]) (fun _ => kP []) (fun _ => ⟨fun _ => kr (congrArg (Value.int .i64) hk), trivial⟩) fun _ a u hE hS => ?_
  refine wp_block ?_
  refine rg hE hS [pu, pu] (fun _ => kp [(35, .bool false)]) (fun _ => kP []) fun _ a u hE hS => ?_
  refine iff hE ?_
  refine rg hE hS [pu, pu] (fun _ => kp [(40, .bool false)]) (fun _ => kP []) fun _ a u hE hS => ?_
  refine iff hE ?_
  refine rg hE hS [pu, pu] (fun _ => kp [(60, .bool false)]) (fun _ => kP []) fun _ a u hE hS => ?_
  refine iff hE ?_
  refine rg hE hS [pu, pu] (fun _ => kp [(68, .bool true)]) (fun _ => kP []) fun _ a u hE hS => ?_
  refine ift hE ?_
  refine dgE hE hS [pu, ld 101, pu, st 103, pu, st 103] (fun _ => kp []) (fun _ => kP [(103, some (.blk (p2 5).g 38 (Pkt.cells ⟨p.kind, 0, 0, 0, 0, 0, 0, Sl.nil, Sl.nil, p.chunks, Sl.nil, ByteArray.empty, 0, Sl.nil, Sl.nil, Sl.nil, Sl.nil, 0, Sl.nil, 0, 0, 0, 0, 0, Sl.nil, Sl.nil, false, 0, 0, 0⟩)))]) (fun _ => trivial) fun _ a u hE hS => ?_
  refine rg hE hS [ld 103, st 102] (fun _ => kn [] [2]) (fun _ => kN [(102, some (.blk (p1 1).g 38 (Pkt.cells ⟨p.kind, 0, 0, 0, 0, 0, 0, Sl.nil, Sl.nil, p.chunks, Sl.nil, ByteArray.empty, 0, Sl.nil, Sl.nil, Sl.nil, Sl.nil, 0, Sl.nil, 0, 0, 0, 0, 0, Sl.nil, Sl.nil, false, 0, 0, 0⟩)))] []) fun _ a u hE hS => ?_
  refine wp_ret ?_
  exact retc hE hS Tryz.results25 102 (p1 1).g 38 (Pkt.cells (⟨p.kind, 0, 0, 0, 0, 0, 0, Sl.nil, Sl.nil, p.chunks, Sl.nil, ByteArray.empty, 0, Sl.nil, Sl.nil, Sl.nil, Sl.nil, 0, Sl.nil, 0, 0, 0, 0, 0, Sl.nil, Sl.nil, false, 0, 0, 0⟩ : Pkt)) ⟨rfl, hS.below⟩ Tryz.underlying38
set_option maxRecDepth 100000 in
theorem compact_4 (p : Pkt) (w : World) (hk : p.kind = 4) :
    Calls Tryz.prog 25 #[.agg p.cells] w fun e w' => e = .returned (.agg (Pkt.cells (⟨p.kind, 0, 0, 0, 0, 0, 0, Sl.nil, Sl.nil, Sl.nil, p.sources, p.text, 0, Sl.nil, Sl.nil, Sl.nil, Sl.nil, 0, Sl.nil, 0, 0, 0, 0, 0, Sl.nil, Sl.nil, false, 0, 0, 0⟩ : Pkt))) ∧ Below w.heap.size w w' := by
  refine go_in Tryz.func25 rfl Tryz.ntmps25 [.agg p.cells] fun a hE => ?_
  have hS := stp_in w
  refine rg hE hS [nw 101, nw 102] (fun p1 => kp [(1, pt (p1 0).g 0), (2, pt (p1 1).g 0)]) (fun p1 => kP [(101, some (.blk (p1 0).g 38 p.cells)), (102, some (.blk (p1 1).g 38 (Pkt.cells ⟨0, 0, 0, 0, 0, 0, 0, Sl.nil, Sl.nil, Sl.nil, Sl.nil, ByteArray.empty, 0, Sl.nil, Sl.nil, Sl.nil, Sl.nil, 0, Sl.nil, 0, 0, 0, 0, 0, Sl.nil, Sl.nil, false, 0, 0, 0⟩)))]) fun p1 a u hE hS => ?_
  refine rg hE hS [pu, ld 101, pu, ld 101, pu, nw 103, st 103] (fun p2 => kp [(3, pt (p2 5).g 0)]) (fun p2 => kP [(103, some (.blk (p2 5).g 38 (Pkt.cells ⟨p.kind, p.sender, 0, 0, 0, 0, 0, Sl.nil, Sl.nil, Sl.nil, Sl.nil, ByteArray.empty, 0, Sl.nil, Sl.nil, Sl.nil, Sl.nil, 0, Sl.nil, 0, 0, 0, 0, 0, Sl.nil, Sl.nil, false, 0, 0, 0⟩)))]) fun p2 a u hE hS => ?_
  refine wp_seq ?_
  refine rgp hE hS [pu, ov (ld 101) (.int .i64 4)] (fun _ => kp [(10, .int .i64 4)]) (fun _ => kP []) (fun _ => ⟨fun _ => kr (congrArg (Value.int .i64) hk), trivial⟩) fun _ a u hE hS => ?_
  refine wp_block ?_
  refine rg hE hS [pu, pu] (fun _ => kp [(35, .bool false)]) (fun _ => kP []) fun _ a u hE hS => ?_
  refine iff hE ?_
  refine rg hE hS [pu, pu] (fun _ => kp [(40, .bool false)]) (fun _ => kP []) fun _ a u hE hS => ?_
  refine iff hE ?_
  refine rg hE hS [pu, pu] (fun _ => kp [(60, .bool false)]) (fun _ => kP []) fun _ a u hE hS => ?_
  refine iff hE ?_
  refine rg hE hS [pu, pu] (fun _ => kp [(68, .bool false)]) (fun _ => kP []) fun _ a u hE hS => ?_
  refine iff hE ?_
  refine rg hE hS [pu, pu] (fun _ => kp [(74, .bool true)]) (fun _ => kP []) fun _ a u hE hS => ?_
  refine ift hE ?_
  refine dgE hE hS [pu, ld 101, pu, ld 101, pu, st 103, pu, st 103, pu, st 103] (fun _ => kp []) (fun _ => kP [(103, some (.blk (p2 5).g 38 (Pkt.cells ⟨p.kind, 0, 0, 0, 0, 0, 0, Sl.nil, Sl.nil, Sl.nil, p.sources, p.text, 0, Sl.nil, Sl.nil, Sl.nil, Sl.nil, 0, Sl.nil, 0, 0, 0, 0, 0, Sl.nil, Sl.nil, false, 0, 0, 0⟩)))]) (fun _ => trivial) fun _ a u hE hS => ?_
  refine rg hE hS [ld 103, st 102] (fun _ => kn [] [2]) (fun _ => kN [(102, some (.blk (p1 1).g 38 (Pkt.cells ⟨p.kind, 0, 0, 0, 0, 0, 0, Sl.nil, Sl.nil, Sl.nil, p.sources, p.text, 0, Sl.nil, Sl.nil, Sl.nil, Sl.nil, 0, Sl.nil, 0, 0, 0, 0, 0, Sl.nil, Sl.nil, false, 0, 0, 0⟩)))] []) fun _ a u hE hS => ?_
  refine wp_ret ?_
  exact retc hE hS Tryz.results25 102 (p1 1).g 38 (Pkt.cells (⟨p.kind, 0, 0, 0, 0, 0, 0, Sl.nil, Sl.nil, Sl.nil, p.sources, p.text, 0, Sl.nil, Sl.nil, Sl.nil, Sl.nil, 0, Sl.nil, 0, 0, 0, 0, 0, Sl.nil, Sl.nil, false, 0, 0, 0⟩ : Pkt)) ⟨rfl, hS.below⟩ Tryz.underlying38
set_option maxRecDepth 100000 in
theorem compact_5 (p : Pkt) (w : World) (hk : p.kind = 5) :
    Calls Tryz.prog 25 #[.agg p.cells] w fun e w' => e = .returned (.agg (Pkt.cells (⟨p.kind, p.sender, 0, 0, 0, 0, 0, Sl.nil, Sl.nil, Sl.nil, Sl.nil, p.text, p.sub, p.data, Sl.nil, Sl.nil, Sl.nil, 0, Sl.nil, 0, 0, 0, 0, 0, Sl.nil, Sl.nil, false, 0, 0, 0⟩ : Pkt))) ∧ Below w.heap.size w w' := by
  refine go_in Tryz.func25 rfl Tryz.ntmps25 [.agg p.cells] fun a hE => ?_
  have hS := stp_in w
  refine rg hE hS [nw 101, nw 102] (fun p1 => kp [(1, pt (p1 0).g 0), (2, pt (p1 1).g 0)]) (fun p1 => kP [(101, some (.blk (p1 0).g 38 p.cells)), (102, some (.blk (p1 1).g 38 (Pkt.cells ⟨0, 0, 0, 0, 0, 0, 0, Sl.nil, Sl.nil, Sl.nil, Sl.nil, ByteArray.empty, 0, Sl.nil, Sl.nil, Sl.nil, Sl.nil, 0, Sl.nil, 0, 0, 0, 0, 0, Sl.nil, Sl.nil, false, 0, 0, 0⟩)))]) fun p1 a u hE hS => ?_
  refine rg hE hS [pu, ld 101, pu, ld 101, pu, nw 103, st 103] (fun p2 => kp [(3, pt (p2 5).g 0)]) (fun p2 => kP [(103, some (.blk (p2 5).g 38 (Pkt.cells ⟨p.kind, p.sender, 0, 0, 0, 0, 0, Sl.nil, Sl.nil, Sl.nil, Sl.nil, ByteArray.empty, 0, Sl.nil, Sl.nil, Sl.nil, Sl.nil, 0, Sl.nil, 0, 0, 0, 0, 0, Sl.nil, Sl.nil, false, 0, 0, 0⟩)))]) fun p2 a u hE hS => ?_
  refine wp_seq ?_
  refine rgp hE hS [pu, ov (ld 101) (.int .i64 5)] (fun _ => kp [(10, .int .i64 5)]) (fun _ => kP []) (fun _ => ⟨fun _ => kr (congrArg (Value.int .i64) hk), trivial⟩) fun _ a u hE hS => ?_
  refine wp_block ?_
  refine rg hE hS [pu, pu] (fun _ => kp [(35, .bool false)]) (fun _ => kP []) fun _ a u hE hS => ?_
  refine iff hE ?_
  refine rg hE hS [pu, pu] (fun _ => kp [(40, .bool false)]) (fun _ => kP []) fun _ a u hE hS => ?_
  refine iff hE ?_
  refine rg hE hS [pu, pu] (fun _ => kp [(60, .bool false)]) (fun _ => kP []) fun _ a u hE hS => ?_
  refine iff hE ?_
  refine rg hE hS [pu, pu] (fun _ => kp [(68, .bool false)]) (fun _ => kP []) fun _ a u hE hS => ?_
  refine iff hE ?_
  refine rg hE hS [pu, pu] (fun _ => kp [(74, .bool false)]) (fun _ => kP []) fun _ a u hE hS => ?_
  refine iff hE ?_
  refine rg hE hS [pu, pu] (fun _ => kp [(83, .bool true)]) (fun _ => kP []) fun _ a u hE hS => ?_
  refine ift hE ?_
  refine dgE hE hS [pu, ld 101, pu, ld 101, pu, ld 101, pu, st 103, pu, st 103, pu, st 103] (fun _ => kp []) (fun _ => kP [(103, some (.blk (p2 5).g 38 (Pkt.cells ⟨p.kind, p.sender, 0, 0, 0, 0, 0, Sl.nil, Sl.nil, Sl.nil, Sl.nil, p.text, p.sub, p.data, Sl.nil, Sl.nil, Sl.nil, 0, Sl.nil, 0, 0, 0, 0, 0, Sl.nil, Sl.nil, false, 0, 0, 0⟩)))]) (fun _ => trivial) fun _ a u hE hS => ?_
  refine rg hE hS [ld 103, st 102] (fun _ => kn [] [2]) (fun _ => kN [(102, some (.blk (p1 1).g 38 (Pkt.cells ⟨p.kind, p.sender, 0, 0, 0, 0, 0, Sl.nil, Sl.nil, Sl.nil, Sl.nil, p.text, p.sub, p.data, Sl.nil, Sl.nil, Sl.nil, 0, Sl.nil, 0, 0, 0, 0, 0, Sl.nil, Sl.nil, false, 0, 0, 0⟩)))] []) fun _ a u hE hS => ?_
  refine wp_ret ?_
  exact retc hE hS Tryz.results25 102 (p1 1).g 38 (Pkt.cells (⟨p.kind, p.sender, 0, 0, 0, 0, 0, Sl.nil, Sl.nil, Sl.nil, Sl.nil, p.text, p.sub, p.data, Sl.nil, Sl.nil, Sl.nil, 0, Sl.nil, 0, 0, 0, 0, 0, Sl.nil, Sl.nil, false, 0, 0, 0⟩ : Pkt)) ⟨rfl, hS.below⟩ Tryz.underlying38
set_option maxRecDepth 100000 in
theorem compact_6 (p : Pkt) (w : World) (hk : p.kind = 6) :
    Calls Tryz.prog 25 #[.agg p.cells] w fun e w' => e = .returned (.agg (Pkt.cells (⟨p.kind, p.sender, p.media, 0, 0, 0, 0, Sl.nil, Sl.nil, Sl.nil, Sl.nil, ByteArray.empty, 0, Sl.nil, p.pairs, Sl.nil, Sl.nil, 0, Sl.nil, 0, 0, 0, 0, 0, Sl.nil, Sl.nil, false, 0, 0, 0⟩ : Pkt))) ∧ Below w.heap.size w w' := by
  refine go_in Tryz.func25 rfl Tryz.ntmps25 [.agg p.cells] fun a hE => ?_
  have hS := stp_in w
  refine rg hE hS [nw 101, nw 102] (fun p1 => kp [(1, pt (p1 0).g 0), (2, pt (p1 1).g 0)]) (fun p1 => kP [(101, some (.blk (p1 0).g 38 p.cells)), (102, some (.blk (p1 1).g 38 (Pkt.cells ⟨0, 0, 0, 0, 0, 0, 0, Sl.nil, Sl.nil, Sl.nil, Sl.nil, ByteArray.empty, 0, Sl.nil, Sl.nil, Sl.nil, Sl.nil, 0, Sl.nil, 0, 0, 0, 0, 0, Sl.nil, Sl.nil, false, 0, 0, 0⟩)))]) fun p1 a u hE hS => ?_
  refine rg hE hS [pu, ld 101, pu, ld 101, pu, nw 103, st 103] (fun p2 => kp [(3, pt (p2 5).g 0)]) (fun p2 => kP [(103, some (.blk (p2 5).g 38 (Pkt.cells ⟨p.kind, p.sender, 0, 0, 0, 0, 0, Sl.nil, Sl.nil, Sl.nil, Sl.nil, ByteArray.empty, 0, Sl.nil, Sl.nil, Sl.nil, Sl.nil, 0, Sl.nil, 0, 0, 0, 0, 0, Sl.nil, Sl.nil, false, 0, 0, 0⟩)))]) fun p2 a u hE hS => ?_
  refine wp_seq ?_
  refine rgp hE hS [pu, ov (ld 101) (.int .i64 6)] (fun _ => kp [(10, .int .i64 6)]) (fun _ => kP []) (fun _ => ⟨fun _ => kr (congrArg (Value.int .i64) hk), trivial⟩) fun _ a u hE hS => ?_
  refine wp_block ?_
  refine rg hE hS [pu, pu] (fun _ => kp [(35, .bool false)]) (fun _ => kP []) fun _ a u hE hS => ?_
  refine iff hE ?_
  refine rg hE hS [pu, pu] (fun _ => kp [(40, .bool false)]) (fun _ => kP []) fun _ a u hE hS => ?_
  refine iff hE ?_
  refine rg hE hS [pu, pu] (fun _ => kp [(60, .bool false)]) (fun _ => kP []) fun _ a u hE hS => ?_
  refine iff hE ?_
  refine rg hE hS [pu, pu] (fun _ => kp [(68, .bool false)]) (fun _ => kP []) fun _ a u hE hS => ?_
  refine iff hE ?_
  refine rg hE hS [pu, pu] (fun _ => kp [(74, .bool false)]) (fun _ => kP []) fun _ a u hE hS => ?_
  refine iff hE ?_
  refine rg hE hS [pu, pu] (fun _ => kp [(83, .bool false)]) (fun _ => kP []) fun _ a u hE hS => ?_
  refine iff hE ?_
  refine rg hE hS [pu, pu] (fun _ => kp [(94, .bool true)]) (fun _ => kP []) fun _ a u hE hS => ?_
  refine ift hE ?_
  refine dgE hE hS [pu, ld 101, pu, ld 101, pu, st 103, pu, st 103] (fun _ => kp []) (fun _ => kP [(103, some (.blk (p2 5).g 38 (Pkt.cells ⟨p.kind, p.sender, p.media, 0, 0, 0, 0, Sl.nil, Sl.nil, Sl.nil, Sl.nil, ByteArray.empty, 0, Sl.nil, p.pairs, Sl.nil, Sl.nil, 0, Sl.nil, 0, 0, 0, 0, 0, Sl.nil, Sl.nil, false, 0, 0, 0⟩)))]) (fun _ => trivial) fun _ a u hE hS => ?_
  refine rg hE hS [ld 103, st 102] (fun _ => kn [] [2]) (fun _ => kN [(102, some (.blk (p1 1).g 38 (Pkt.cells ⟨p.kind, p.sender, p.media, 0, 0, 0, 0, Sl.nil, Sl.nil, Sl.nil, Sl.nil, ByteArray.empty, 0, Sl.nil, p.pairs, Sl.nil, Sl.nil, 0, Sl.nil, 0, 0, 0, 0, 0, Sl.nil, Sl.nil, false, 0, 0, 0⟩)))] []) fun _ a u hE hS => ?_
  refine wp_ret ?_
  exact retc hE hS Tryz.results25 102 (p1 1).g 38 (Pkt.cells (⟨p.kind, p.sender, p.media, 0, 0, 0, 0, Sl.nil, Sl.nil, Sl.nil, Sl.nil, ByteArray.empty, 0, Sl.nil, p.pairs, Sl.nil, Sl.nil, 0, Sl.nil, 0, 0, 0, 0, 0, Sl.nil, Sl.nil, false, 0, 0, 0⟩ : Pkt)) ⟨rfl, hS.below⟩ Tryz.underlying38
set_option maxRecDepth 100000 in
theorem compact_7 (p : Pkt) (w : World) (hk : p.kind = 7) :
    Calls Tryz.prog 25 #[.agg p.cells] w fun e w' => e = .returned (.agg (Pkt.cells (⟨p.kind, p.sender, p.media, 0, 0, 0, 0, Sl.nil, Sl.nil, Sl.nil, Sl.nil, ByteArray.empty, 0, Sl.nil, Sl.nil, Sl.nil, Sl.nil, 0, Sl.nil, 0, 0, 0, 0, 0, Sl.nil, Sl.nil, false, 0, 0, 0⟩ : Pkt))) ∧ Below w.heap.size w w' := by
  refine go_in Tryz.func25 rfl Tryz.ntmps25 [.agg p.cells] fun a hE => ?_
  have hS := stp_in w
  refine rg hE hS [nw 101, nw 102] (fun p1 => kp [(1, pt (p1 0).g 0), (2, pt (p1 1).g 0)]) (fun p1 => kP [(101, some (.blk (p1 0).g 38 p.cells)), (102, some (.blk (p1 1).g 38 (Pkt.cells ⟨0, 0, 0, 0, 0, 0, 0, Sl.nil, Sl.nil, Sl.nil, Sl.nil, ByteArray.empty, 0, Sl.nil, Sl.nil, Sl.nil, Sl.nil, 0, Sl.nil, 0, 0, 0, 0, 0, Sl.nil, Sl.nil, false, 0, 0, 0⟩)))]) fun p1 a u hE hS => ?_
  refine rg hE hS [pu, ld 101, pu, ld 101, pu, nw 103, st 103] (fun p2 => kp [(3, pt (p2 5).g 0)]) (fun p2 => kP [(103, some (.blk (p2 5).g 38 (Pkt.cells ⟨p.kind, p.sender, 0, 0, 0, 0, 0, Sl.nil, Sl.nil, Sl.nil, Sl.nil, ByteArray.empty, 0, Sl.nil, Sl.nil, Sl.nil, Sl.nil, 0, Sl.nil, 0, 0, 0, 0, 0, Sl.nil, Sl.nil, false, 0, 0, 0⟩)))]) fun p2 a u hE hS => ?_
  refine wp_seq ?_
  refine rgp hE hS [pu, ov (ld 101) (.int .i64 7)] (fun _ => kp [(10, .int .i64 7)]) (fun _ => kP []) (fun _ => ⟨fun _ => kr (congrArg (Value.int .i64) hk), trivial⟩) fun _ a u hE hS => ?_
  refine wp_block ?_
  refine rg hE hS [pu, pu] (fun _ => kp [(35, .bool false)]) (fun _ => kP []) fun _ a u hE hS => ?_
  refine iff hE ?_
  refine rg hE hS [pu, pu] (fun _ => kp [(40, .bool false)]) (fun _ => kP []) fun _ a u hE hS => ?_
  refine iff hE ?_
  refine rg hE hS [pu, pu] (fun _ => kp [(60, .bool false)]) (fun _ => kP []) fun _ a u hE hS => ?_
  refine iff hE ?_
  refine rg hE hS [pu, pu] (fun _ => kp [(68, .bool false)]) (fun _ => kP []) fun _ a u hE hS => ?_
  refine iff hE ?_
  refine rg hE hS [pu, pu] (fun _ => kp [(74, .bool false)]) (fun _ => kP []) fun _ a u hE hS => ?_
  refine iff hE ?_
  refine rg hE hS [pu, pu] (fun _ => kp [(83, .bool false)]) (fun _ => kP []) fun _ a u hE hS => ?_
  refine iff hE ?_
  refine rg hE hS [pu, pu] (fun _ => kp [(94, .bool false)]) (fun _ => kP []) fun _ a u hE hS => ?_
  refine iff hE ?_
  refine wp_seq ?_
  refine rg hE hS [pu, pu] (fun _ => kp [(102, .bool true)]) (fun _ => kP []) fun _ a u hE hS => ?_
  refine ift hE ?_
  refine wp_skip ?_
  refine ift hE ?_
  refine rgE hE hS [pu, ld 101, pu, st 103] (fun _ => kp []) (fun _ => kP [(103, some (.blk (p2 5).g 38 (Pkt.cells ⟨p.kind, p.sender, p.media, 0, 0, 0, 0, Sl.nil, Sl.nil, Sl.nil, Sl.nil, ByteArray.empty, 0, Sl.nil, Sl.nil, Sl.nil, Sl.nil, 0, Sl.nil, 0, 0, 0, 0, 0, Sl.nil, Sl.nil, false, 0, 0, 0⟩)))]) (fun _ => trivial) fun _ a u hE hS => ?_
  refine rg hE hS [ld 103, st 102] (fun _ => kn [] [2]) (fun _ => kN [(102, some (.blk (p1 1).g 38 (Pkt.cells ⟨p.kind, p.sender, p.media, 0, 0, 0, 0, Sl.nil, Sl.nil, Sl.nil, Sl.nil, ByteArray.empty, 0, Sl.nil, Sl.nil, Sl.nil, Sl.nil, 0, Sl.nil, 0, 0, 0, 0, 0, Sl.nil, Sl.nil, false, 0, 0, 0⟩)))] []) fun _ a u hE hS => ?_
  refine wp_ret ?_
  exact retc hE hS Tryz.results25 102 (p1 1).g 38 (Pkt.cells (⟨p.kind, p.sender, p.media, 0, 0, 0, 0, Sl.nil, Sl.nil, Sl.nil, Sl.nil, ByteArray.empty, 0, Sl.nil, Sl.nil, Sl.nil, Sl.nil, 0, Sl.nil, 0, 0, 0, 0, 0, Sl.nil, Sl.nil, false, 0, 0, 0⟩ : Pkt)) ⟨rfl, hS.below⟩ Tryz.underlying38
set_option maxRecDepth 100000 in
theorem compact_8 (p : Pkt) (w : World) (hk : p.kind = 8) :
    Calls Tryz.prog 25 #[.agg p.cells] w fun e w' => e = .returned (.agg (Pkt.cells (⟨p.kind, p.sender, 0, 0, 0, 0, 0, Sl.nil, Sl.nil, Sl.nil, Sl.nil, ByteArray.empty, 0, Sl.nil, Sl.nil, Sl.nil, Sl.nil, 0, p.blocks, p.time, 0, 0, 0, 0, Sl.nil, Sl.nil, false, 0, 0, 0⟩ : Pkt))) ∧ Below w.heap.size w w' := by
  refine go_in Tryz.func25 rfl Tryz.ntmps25 [.agg p.cells] fun a hE => ?_
  have hS := stp_in w
  refine rg hE hS [nw 101, nw 102] (fun p1 => kp [(1, pt (p1 0).g 0), (2, pt (p1 1).g 0)]) (fun p1 => kP [(101, some (.blk (p1 0).g 38 p.cells)), (102, some (.blk (p1 1).g 38 (Pkt.cells ⟨0, 0, 0, 0, 0, 0, 0, Sl.nil, Sl.nil, Sl.nil, Sl.nil, ByteArray.empty, 0, Sl.nil, Sl.nil, Sl.nil, Sl.nil, 0, Sl.nil, 0, 0, 0, 0, 0, Sl.nil, Sl.nil, false, 0, 0, 0⟩)))]) fun p1 a u hE hS => ?_
  refine rg hE hS [pu, ld 101, pu, ld 101, pu, nw 103, st 103] (fun p2 => kp [(3, pt (p2 5).g 0)]) (fun p2 => kP [(103, some (.blk (p2 5).g 38 (Pkt.cells ⟨p.kind, p.sender, 0, 0, 0, 0, 0, Sl.nil, Sl.nil, Sl.nil, Sl.nil, ByteArray.empty, 0, Sl.nil, Sl.nil, Sl.nil, Sl.nil, 0, Sl.nil, 0, 0, 0, 0, 0, Sl.nil, Sl.nil, false, 0, 0, 0⟩)))]) fun p2 a u hE hS => ?_
  refine wp_seq ?_
  refine rgp hE hS [pu, ov (ld 101) (.int .i64 8)] (fun _ => kp [(10, .int .i64 8)]) (fun _ => kP []) (fun _ => ⟨fun _ => kr (congrArg (Value.int .i64) hk), trivial⟩) fun _ a u hE hS => ?_
  refine wp_block ?_
  refine rg hE hS [pu, pu] (fun _ => kp [(35, .bool false)]) (fun _ => kP []) fun _ a u hE hS => ?_
  refine iff hE ?_
  refine rg hE hS [pu, pu] (fun _ => kp [(40, .bool false)]) (fun _ => kP []) fun _ a u hE hS => ?_
  refine iff hE ?_
  refine rg hE hS [pu, pu] (fun _ => kp [(60, .bool false)]) (fun _ => kP []) fun _ a u hE hS => ?_
  refine iff hE ?_
  refine rg hE hS [pu, pu] (fun _ => kp [(68, .bool false)]) (fun _ => kP []) fun _ a u hE hS => ?_
  refine iff hE ?_
  refine rg hE hS [pu, pu] (fun _ => kp [(74, .bool false)]) (fun _ => kP []) fun _ a u hE hS => ?_
  refine iff hE ?_
  refine rg hE hS [pu, pu] (fun _ => kp [(83, .bool false)]) (fun _ => kP []) fun _ a u hE hS => ?_
  refine iff hE ?_
  refine rg hE hS [pu, pu] (fun _ => kp [(94, .bool false)]) (fun _ => kP []) fun _ a u hE hS => ?_
  refine iff hE ?_
  refine wp_seq ?_
  refine rg hE hS [pu, pu] (fun _ => kp [(102, .bool false)]) (fun _ => kP []) fun _ a u hE hS => ?_
  refine iff hE ?_
  refine rgE hE hS [pu, pu] (fun _ => kp []) (fun _ => kP []) (fun _ => trivial) fun _ a u hE hS => ?_
  refine iff hE ?_
  refine rg hE hS [pu, pu] (fun _ => kp [(108, .bool false)]) (fun _ => kP []) fun _ a u hE hS => ?_
  refine iff hE ?_
  refine rg hE hS [pu, pu] (fun _ => kp [(116, .bool false)]) (fun _ => kP []) fun _ a u hE hS => ?_
  refine iff hE ?_
  refine rg hE hS [pu, pu] (fun _ => kp [(124, .bool false)]) (fun _ => kP []) fun _ a u hE hS => ?_
  refine iff hE ?_
  refine rg hE hS [pu, pu] (fun _ => kp [(132, .bool true)]) (fun _ => kP []) fun _ a u hE hS => ?_
  refine ift hE ?_
  refine dgE hE hS [pu, ld 101, pu, ld 101, pu, st 103, pu, st 103] (fun _ => kp []) (fun _ => kP [(103, some (.blk (p2 5).g 38 (Pkt.cells ⟨p.kind, p.sender, 0, 0, 0, 0, 0, Sl.nil, Sl.nil, Sl.nil, Sl.nil, ByteArray.empty, 0, Sl.nil, Sl.nil, Sl.nil, Sl.nil, 0, p.blocks, p.time, 0, 0, 0, 0, Sl.nil, Sl.nil, false, 0, 0, 0⟩)))]) (fun _ => trivial) fun _ a u hE hS => ?_
  refine rg hE hS [ld 103, st 102] (fun _ => kn [] [2]) (fun _ => kN [(102, some (.blk (p1 1).g 38 (Pkt.cells ⟨p.kind, p.sender, 0, 0, 0, 0, 0, Sl.nil, Sl.nil, Sl.nil, Sl.nil, ByteArray.empty, 0, Sl.nil, Sl.nil, Sl.nil, Sl.nil, 0, p.blocks, p.time, 0, 0, 0, 0, Sl.nil, Sl.nil, false, 0, 0, 0⟩)))] []) fun _ a u hE hS => ?_
  refine wp_ret ?_
  exact retc hE hS Tryz.results25 102 (p1 1).g 38 (Pkt.cells (⟨p.kind, p.sender, 0, 0, 0, 0, 0, Sl.nil, Sl.nil, Sl.nil, Sl.nil, ByteArray.empty, 0, Sl.nil, Sl.nil, Sl.nil, Sl.nil, 0, p.blocks, p.time, 0, 0, 0, 0, Sl.nil, Sl.nil, false, 0, 0, 0⟩ : Pkt)) ⟨rfl, hS.below⟩ Tryz.underlying38
set_option maxRecDepth 100000 in
theorem compact_9 (p : Pkt) (w : World) (hk : p.kind = 9) :
    Calls Tryz.prog 25 #[.agg p.cells] w fun e w' => e = .returned (.agg (Pkt.cells (⟨p.kind, p.sender, p.media, 0, 0, 0, 0, Sl.nil, Sl.nil, Sl.nil, Sl.nil, ByteArray.empty, 0, Sl.nil, Sl.nil, Sl.nil, Sl.nil, 0, Sl.nil, 0, 0, 0, 0, 0, Sl.nil, Sl.nil, false, 0, 0, 0⟩ : Pkt))) ∧ Below w.heap.size w w' := by
  refine go_in Tryz.func25 rfl Tryz.ntmps25 [.agg p.cells] fun a hE => ?_
  have hS := stp_in w
  refine rg hE hS [nw 101, nw 102] (fun p1 => kp [(1, pt (p1 0).g 0), (2, pt (p1 1).g 0)]) (fun p1 => kP [(101, some (.blk (p1 0).g 38 p.cells)), (102, some (.blk (p1 1).g 38 (Pkt.cells ⟨0, 0, 0, 0, 0, 0, 0, Sl.nil, Sl.nil, Sl.nil, Sl.nil, ByteArray.empty, 0, Sl.nil, Sl.nil, Sl.nil, Sl.nil, 0, Sl.nil, 0, 0, 0, 0, 0, Sl.nil, Sl.nil, false, 0, 0, 0⟩)))]) fun p1 a u hE hS => ?_
  refine rg hE hS [pu, ld 101, pu, ld 101, pu, nw 103, st 103] (fun p2 => kp [(3, pt (p2 5).g 0)]) (fun p2 => kP [(103, some (.blk (p2 5).g 38 (Pkt.cells ⟨p.kind, p.sender, 0, 0, 0, 0, 0, Sl.nil, Sl.nil, Sl.nil, Sl.nil, ByteArray.empty, 0, Sl.nil, Sl.nil, Sl.nil, Sl.nil, 0, Sl.nil, 0, 0, 0, 0, 0, Sl.nil, Sl.nil, false, 0, 0, 0⟩)))]) fun p2 a u hE hS => ?_
  refine wp_seq ?_
  refine rgp hE hS [pu, ov (ld 101) (.int .i64 9)] (fun _ => kp [(10, .int .i64 9)]) (fun _ => kP []) (fun _ => ⟨fun _ => kr (congrArg (Value.int .i64) hk), trivial⟩) fun _ a u hE hS => ?_
  refine wp_block ?_
  refine rg hE hS [pu, pu] (fun _ => kp [(35, .bool false)]) (fun _ => kP []) fun _ a u hE hS => ?_
  refine iff hE ?_
  refine rg hE hS [pu, pu] (fun _ => kp [(40, .bool false)]) (fun _ => kP []) fun _ a u hE hS => ?_
  refine iff hE ?_
  refine rg hE hS [pu, pu] (fun _ => kp [(60, .bool false)]) (fun _ => kP []) fun _ a u hE hS => ?_
  refine iff hE ?_
  refine rg hE hS [pu, pu] (fun _ => kp [(68, .bool false)]) (fun _ => kP []) fun _ a u hE hS => ?_
  refine iff hE ?_
  refine rg hE hS [pu, pu] (fun _ => kp [(74, .bool false)]) (fun _ => kP []) fun _ a u hE hS => ?_
  refine iff hE ?_
  refine rg hE hS [pu, pu] (fun _ => kp [(83, .bool false)]) (fun _ => kP []) fun _ a u hE hS => ?_
  refine iff hE ?_
  refine rg hE hS [pu, pu] (fun _ => kp [(94, .bool false)]) (fun _ => kP []) fun _ a u hE hS => ?_
  refine iff hE ?_
  refine wp_seq ?_
  refine rg hE hS [pu, pu] (fun _ => kp [(102, .bool false)]) (fun _ => kP []) fun _ a u hE hS => ?_
  refine iff hE ?_
  refine rgE hE hS [pu, pu] (fun _ => kp [(102, .bool true)]) (fun _ => kP []) (fun _ => trivial) fun _ a u hE hS => ?_
  refine ift hE ?_
  refine rgE hE hS [pu, ld 101, pu, st 103] (fun _ => kp []) (fun _ => kP [(103, some (.blk (p2 5).g 38 (Pkt.cells ⟨p.kind, p.sender, p.media, 0, 0, 0, 0, Sl.nil, Sl.nil, Sl.nil, Sl.nil, ByteArray.empty, 0, Sl.nil, Sl.nil, Sl.nil, Sl.nil, 0, Sl.nil, 0, 0, 0, 0, 0, Sl.nil, Sl.nil, false, 0, 0, 0⟩)))]) (fun _ => trivial) fun _ a u hE hS => ?_
  refine rg hE hS [ld 103, st 102] (fun _ => kn [] [2]) (fun _ => kN [(102, some (.blk (p1 1).g 38 (Pkt.cells ⟨p.kind, p.sender, p.media, 0, 0, 0, 0, Sl.nil, Sl.nil, Sl.nil, Sl.nil, ByteArray.empty, 0, Sl.nil, Sl.nil, Sl.nil, Sl.nil, 0, Sl.nil, 0, 0, 0, 0, 0, Sl.nil, Sl.nil, false, 0, 0, 0⟩)))] []) fun _ a u hE hS => ?_
  refine wp_ret ?_
  exact retc hE hS Tryz.results25 102 (p1 1).g 38 (Pkt.cells (⟨p.kind, p.sender, p.media, 0, 0, 0, 0, Sl.nil, Sl.nil, Sl.nil, Sl.nil, ByteArray.empty, 0, Sl.nil, Sl.nil, Sl.nil, Sl.nil, 0, Sl.nil, 0, 0, 0, 0, 0, Sl.nil, Sl.nil, false, 0, 0, 0⟩ : Pkt)) ⟨rfl, hS.below⟩ Tryz.underlying38
set_option maxRecDepth 100000 in
theorem compact_10 (p : Pkt) (w : World) (hk : p.kind = 10) :
    Calls Tryz.prog 25 #[.agg p.cells] w fun e w' => e = .returned (.agg (Pkt.cells (⟨p.kind, p.sender, p.media, 0, 0, 0, 0, Sl.nil, Sl.nil, Sl.nil, Sl.nil, ByteArray.empty, 0, Sl.nil, Sl.nil, p.slices, Sl.nil, 0, Sl.nil, 0, 0, 0, 0, 0, Sl.nil, Sl.nil, false, 0, 0, 0⟩ : Pkt))) ∧ Below w.heap.size w w' := by
  refine go_in Tryz.func25 rfl Tryz.ntmps25 [.agg p.cells] fun a hE => ?_
  have hS := stp_in w
  refine rg hE hS [nw 101, nw 102] (fun p1 => kp [(1, pt (p1 0).g 0), (2, pt (p1 1).g 0)]) (fun p1 => kP [(101, some (.blk (p1 0).g 38 p.cells)), (102, some (.blk (p1 1).g 38 (Pkt.cells ⟨0, 0, 0, 0, 0, 0, 0, Sl.nil, Sl.nil, Sl.nil, Sl.nil, ByteArray.empty, 0, Sl.nil, Sl.nil, Sl.nil, Sl.nil, 0, Sl.nil, 0, 0, 0, 0, 0, Sl.nil, Sl.nil, false, 0, 0, 0⟩)))]) fun p1 a u hE hS => ?_
  refine rg hE hS [pu, ld 101, pu, ld 101, pu, nw 103, st 103] (fun p2 => kp [(3, pt (p2 5).g 0)]) (fun p2 => kP [(103, some (.blk (p2 5).g 38 (Pkt.cells ⟨p.kind, p.sender, 0, 0, 0, 0, 0, Sl.nil, Sl.nil, Sl.nil, Sl.nil, ByteArray.empty, 0, Sl.nil, Sl.nil, Sl.nil, Sl.nil, 0, Sl.nil, 0, 0, 0, 0, 0, Sl.nil, Sl.nil, false, 0, 0, 0⟩)))]) fun p2 a u hE hS => ?_
  refine wp_seq ?_
  refine rgp hE hS [pu, ov (ld 101) (.int .i64 10)] (fun _ => kp [(10, .int .i64 10)]) (fun _ => kP []) (fun _ => ⟨fun _ => kr (congrArg (Value.int .i64) hk), trivial⟩) fun _ a u hE hS => ?_
  refine wp_block ?_
  refine rg hE hS [pu, pu] (fun _ => kp [(35, .bool false)]) (fun _ => kP []) fun _ a u hE hS => ?_
  refine iff hE ?_
  refine rg hE hS [pu, pu] (fun _ => kp [(40, .bool false)]) (fun _ => kP []) fun _ a u hE hS => ?_
  refine iff hE ?_
  refine rg hE hS [pu, pu] (fun _ => kp [(60, .bool false)]) (fun _ => kP []) fun _ a u hE hS => ?_
  refine iff hE ?_
  refine rg hE hS [pu, pu] (fun _ => kp [(68, .bool false)]) (fun _ => kP []) fun _ a u hE hS => ?_
  refine iff hE ?_
  refine rg hE hS [pu, pu] (fun _ => kp [(74, .bool false)]) (fun _ => kP []) fun _ a u hE hS => ?_
  refine iff hE ?_
  refine rg hE hS [pu, pu] (fun _ => kp [(83, .bool false)]) (fun _ => kP []) fun _ a u hE hS => ?_
  refine iff hE ?_
  refine rg hE hS [pu, pu] (fun _ => kp [(94, .bool false)]) (fun _ => kP []) fun _ a u hE hS => ?_
  refine iff hE ?_
  refine wp_seq ?_
  refine rg hE hS [pu, pu] (fun _ => kp [(102, .bool false)]) (fun _ => kP []) fun _ a u hE hS => ?_
  refine iff hE ?_
  refine rgE hE hS [pu, pu] (fun _ => kp []) (fun _ => kP []) (fun _ => trivial) fun _ a u hE hS => ?_
  refine iff hE ?_
  refine rg hE hS [pu, pu] (fun _ => kp [(108, .bool true)]) (fun _ => kP []) fun _ a u hE hS => ?_
  refine ift hE ?_
  refine dgE hE hS [pu, ld 101, pu, ld 101, pu, st 103, pu, st 103] (fun _ => kp []) (fun _ => kP [(103, some (.blk (p2 5).g 38 (Pkt.cells ⟨p.kind, p.sender, p.media, 0, 0, 0, 0, Sl.nil, Sl.nil, Sl.nil, Sl.nil, ByteArray.empty, 0, Sl.nil, Sl.nil, p.slices, Sl.nil, 0, Sl.nil, 0, 0, 0, 0, 0, Sl.nil, Sl.nil, false, 0, 0, 0⟩)))]) (fun _ => trivial) fun _ a u hE hS => ?_
  refine rg hE hS [ld 103, st 102] (fun _ => kn [] [2]) (fun _ => kN [(102, some (.blk (p1 1).g 38 (Pkt.cells ⟨p.kind, p.sender, p.media, 0, 0, 0, 0, Sl.nil, Sl.nil, Sl.nil, Sl.nil, ByteArray.empty, 0, Sl.nil, Sl.nil, p.slices, Sl.nil, 0, Sl.nil, 0, 0, 0, 0, 0, Sl.nil, Sl.nil, false, 0, 0, 0⟩)))] []) fun _ a u hE hS => ?_
  refine wp_ret ?_
  exact retc hE hS Tryz.results25 102 (p1 1).g 38 (Pkt.cells (⟨p.kind, p.sender, p.media, 0, 0, 0, 0, Sl.nil, Sl.nil, Sl.nil, Sl.nil, ByteArray.empty, 0, Sl.nil, Sl.nil, p.slices, Sl.nil, 0, Sl.nil, 0, 0, 0, 0, 0, Sl.nil, Sl.nil, false, 0, 0, 0⟩ : Pkt)) ⟨rfl, hS.below⟩ Tryz.underlying38
set_option maxRecDepth 100000 in
theorem compact_11 (p : Pkt) (w : World) (hk : p.kind = 11) :
    Calls Tryz.prog 25 #[.agg p.cells] w fun e w' => e = .returned (.agg (Pkt.cells (⟨p.kind, p.sender, p.media, 0, 0, 0, 0, Sl.nil, Sl.nil, Sl.nil, Sl.nil, ByteArray.empty, 0, Sl.nil, Sl.nil, Sl.nil, p.entries, 0, Sl.nil, 0, 0, 0, 0, 0, Sl.nil, Sl.nil, false, 0, 0, 0⟩ : Pkt))) ∧ Below w.heap.size w w' := by
  refine go_in Tryz.func25 rfl Tryz.ntmps25 [.agg p.cells] fun a hE => ?_
  have hS := stp_in w
  refine rg hE hS [nw 101, nw 102] (fun p1 => kp [(1, pt (p1 0).g 0), (2, pt (p1 1).g 0)]) (fun p1 => kP [(101, some (.blk (p1 0).g 38 p.cells)), (102, some (.blk (p1 1).g 38 (Pkt.cells ⟨0, 0, 0, 0, 0, 0, 0, Sl.nil, Sl.nil, Sl.nil, Sl.nil, ByteArray.empty, 0, Sl.nil, Sl.nil, Sl.nil, Sl.nil, 0, Sl.nil, 0, 0, 0, 0, 0, Sl.nil, Sl.nil, false, 0, 0, 0⟩)))]) fun p1 a u hE hS => ?_
  refine rg hE hS [pu, ld 101, pu, ld 101, pu, nw 103, st 103] (fun p2 => kp [(3, pt (p2 5).g 0)]) (fun p2 => kP [(103, some (.blk (p2 5).g 38 (Pkt.cells ⟨p.kind, p.sender, 0, 0, 0, 0, 0, Sl.nil, Sl.nil, Sl.nil, Sl.nil, ByteArray.empty, 0, Sl.nil, Sl.nil, Sl.nil, Sl.nil, 0, Sl.nil, 0, 0, 0, 0, 0, Sl.nil, Sl.nil, false, 0, 0, 0⟩)))]) fun p2 a u hE hS => ?_
  refine wp_seq ?_
  refine rgp hE hS [pu, ov (ld 101) (.int .i64 11)] (fun _ => kp [(10, .int .i64 11)]) (fun _ => kP []) (fun _ => ⟨fun _ => kr (congrArg (Value.int .i64) hk), trivial⟩) fun _ a u hE hS => ?_
  refine wp_block ?_
  refine rg hE hS [pu, pu] (fun _ => kp [(35, .bool false)]) (fun _ => kP []) fun _ a u hE hS => ?_
  refine iff hE ?_
  refine rg hE hS [pu, pu] (fun _ => kp [(40, .bool false)]) (fun _ => kP []) fun _ a u hE hS => ?_
  refine iff hE ?_
  refine rg hE hS [pu, pu] (fun _ => kp [(60, .bool false)]) (fun _ => kP []) fun _ a u hE hS => ?_
  refine iff hE ?_
  refine rg hE hS [pu, pu] (fun _ => kp [(68, .bool false)]) (fun _ => kP []) fun _ a u hE hS => ?_
  refine iff hE ?_
  refine rg hE hS [pu, pu] (fun _ => kp [(74, .bool false)]) (fun _ => kP []) fun _ a u hE hS => ?_
  refine iff hE ?_
  refine rg hE hS [pu, pu] (fun _ => kp [(83, .bool false)]) (fun _ => kP []) fun _ a u hE hS => ?_
  refine iff hE ?_
  refine rg hE hS [pu, pu] (fun _ => kp [(94, .bool false)]) (fun _ => kP []) fun _ a u hE hS => ?_
  refine iff hE ?_
  refine wp_seq ?_
  refine rg hE hS [pu, pu] (fun _ => kp [(102, .bool false)]) (fun _ => kP []) fun _ a u hE hS => ?_
  refine iff hE ?_
  refine rgE hE hS [pu, pu] (fun _ => kp []) (fun _ => kP []) (fun _ => trivial) fun _ a u hE hS => ?_
  refine iff hE ?_
  refine rg hE hS [pu, pu] (fun _ => kp [(108, .bool false)]) (fun _ => kP []) fun _ a u hE hS => ?_
  refine iff hE ?_
  refine rg hE hS [pu, pu] (fun _ => kp [(116, .bool true)]) (fun _ => kP []) fun _ a u hE hS => ?_
  refine ift hE ?_
  refine dgE hE hS [pu, ld 101, pu, ld 101, pu, st 103, pu, st 103] (fun _ => kp []) (fun _ => kP [(103, some (.blk (p2 5).g 38 (Pkt.cells ⟨p.kind, p.sender, p.media, 0, 0, 0, 0, Sl.nil, Sl.nil, Sl.nil, Sl.nil, ByteArray.empty, 0, Sl.nil, Sl.nil, Sl.nil, p.entries, 0, Sl.nil, 0, 0, 0, 0, 0, Sl.nil, Sl.nil, false, 0, 0, 0⟩)))]) (fun _ => trivial) fun _ a u hE hS => ?_
  refine rg hE hS [ld 103, st 102] (fun _ => kn [] [2]) (fun _ => kN [(102, some (.blk (p1 1).g 38 (Pkt.cells ⟨p.kind, p.sender, p.media, 0, 0, 0, 0, Sl.nil, Sl.nil, Sl.nil, Sl.nil, ByteArray.empty, 0, Sl.nil, Sl.nil, Sl.nil, p.entries, 0, Sl.nil, 0, 0, 0, 0, 0, Sl.nil, Sl.nil, false, 0, 0, 0⟩)))] []) fun _ a u hE hS => ?_
  refine wp_ret ?_
  exact retc hE hS Tryz.results25 102 (p1 1).g 38 (Pkt.cells (⟨p.kind, p.sender, p.media, 0, 0, 0, 0, Sl.nil, Sl.nil, Sl.nil, Sl.nil, ByteArray.empty, 0, Sl.nil, Sl.nil, Sl.nil, p.entries, 0, Sl.nil, 0, 0, 0, 0, 0, Sl.nil, Sl.nil, false, 0, 0, 0⟩ : Pkt)) ⟨rfl, hS.below⟩ Tryz.underlying38
set_option maxRecDepth 100000 in
theorem compact_12 (p : Pkt) (w : World) (hk : p.kind = 12) :
    Calls Tryz.prog 25 #[.agg p.cells] w fun e w' => e = .returned (.agg (Pkt.cells (⟨p.kind, p.sender, 0, 0, 0, 0, 0, Sl.nil, Sl.nil, Sl.nil, p.sources, ByteArray.empty, 0, Sl.nil, Sl.nil, Sl.nil, Sl.nil, p.bits, Sl.nil, 0, 0, 0, 0, 0, Sl.nil, Sl.nil, false, 0, 0, 0⟩ : Pkt))) ∧ Below w.heap.size w w' := by
  refine go_in Tryz.func25 rfl Tryz.ntmps25 [.agg p.cells] fun a hE => ?_
  have hS := stp_in w
  refine rg hE hS [nw 101, nw 102] (fun p1 => kp [(1, pt (p1 0).g 0), (2, pt (p1 1).g 0)]) (fun p1 => kP [(101, some (.blk (p1 0).g 38 p.cells)), (102, some (.blk (p1 1).g 38 (Pkt.cells ⟨0, 0, 0, 0, 0, 0, 0, Sl.nil, Sl.nil, Sl.nil, Sl.nil, ByteArray.empty, 0, Sl.nil, Sl.nil, Sl.nil, Sl.nil, 0, Sl.nil, 0, 0, 0, 0, 0, Sl.nil, Sl.nil, false, 0, 0, 0⟩)))]) fun p1 a u hE hS => ?_
  refine rg hE hS [pu, ld 101, pu, ld 101, pu, nw 103, st 103] (fun p2 => kp [(3, pt (p2 5).g 0)]) (fun p2 => kP [(103, some (.blk (p2 5).g 38 (Pkt.cells ⟨p.kind, p.sender, 0, 0, 0, 0, 0, Sl.nil, Sl.nil, Sl.nil, Sl.nil, ByteArray.empty, 0, Sl.nil, Sl.nil, Sl.nil, Sl.nil, 0, Sl.nil, 0, 0, 0, 0, 0, Sl.nil, Sl.nil, false, 0, 0, 0⟩)))]) fun p2 a u hE hS => ?_
  refine wp_seq ?_
  refine rgp hE hS [pu, ov (ld 101) (.int .i64 12)] (fun _ => kp [(10, .int .i64 12)]) (fun _ => kP []) (fun _ => ⟨fun _ => kr (congrArg (Value.int .i64) hk), trivial⟩) fun _ a u hE hS => ?_
  refine wp_block ?_
  refine rg hE hS [pu, pu] (fun _ => kp [(35, .bool false)]) (fun _ => kP []) fun _ a u hE hS => ?_
  refine iff hE ?_
  refine rg hE hS [pu, pu] (fun _ => kp [(40, .bool false)]) (fun _ => kP []) fun _ a u hE hS => ?_
  refine iff hE ?_
  refine rg hE hS [pu, pu] (fun _ => kp [(60, .bool false)]) (fun _ => kP []) fun _ a u hE hS => ?_
  refine iff hE ?_
  refine rg hE hS [pu, pu] (fun _ => kp [(68, .bool false)]) (fun _ => kP []) fun _ a u hE hS => ?_
  refine iff hE ?_
  refine rg hE hS [pu, pu] (fun _ => kp [(74, .bool false)]) (fun _ => kP []) fun _ a u hE hS => ?_
  refine iff hE ?_
  refine rg hE hS [pu, pu] (fun _ => kp [(83, .bool false)]) (fun _ => kP []) fun _ a u hE hS => ?_
  refine iff hE ?_
  refine rg hE hS [pu, pu] (fun _ => kp [(94, .bool false)]) (fun _ => kP []) fun _ a u hE hS => ?_
  refine iff hE ?_
  refine wp_seq ?_
  refine rg hE hS [pu, pu] (fun _ => kp [(102, .bool false)]) (fun _ => kP []) fun _ a u hE hS => ?_
  refine iff hE ?_
  refine rgE hE hS [pu, pu] (fun _ => kp []) (fun _ => kP []) (fun _ => trivial) fun _ a u hE hS => ?_
  refine iff hE ?_
  refine rg hE hS [pu, pu] (fun _ => kp [(108, .bool false)]) (fun _ => kP []) fun _ a u hE hS => ?_
  refine iff hE ?_
  refine rg hE hS [pu, pu] (fun _ => kp [(116, .bool false)]) (fun _ => kP []) fun _ a u hE hS => ?_
  refine iff hE ?_
  refine rg hE hS [pu, pu] (fun _ => kp [(124, .bool true)]) (fun _ => kP []) fun _ a u hE hS => ?_
  refine ift hE ?_
  refine dgE hE hS [pu, ld 101, pu, ld 101, pu, st 103, pu, st 103] (fun _ => kp []) (fun _ => kP [(103, some (.blk (p2 5).g 38 (Pkt.cells ⟨p.kind, p.sender, 0, 0, 0, 0, 0, Sl.nil, Sl.nil, Sl.nil, p.sources, ByteArray.empty, 0, Sl.nil, Sl.nil, Sl.nil, Sl.nil, p.bits, Sl.nil, 0, 0, 0, 0, 0, Sl.nil, Sl.nil, false, 0, 0, 0⟩)))]) (fun _ => trivial) fun _ a u hE hS => ?_
  refine rg hE hS [ld 103, st 102] (fun _ => kn [] [2]) (fun _ => kN [(102, some (.blk (p1 1).g 38 (Pkt.cells ⟨p.kind, p.sender, 0, 0, 0, 0, 0, Sl.nil, Sl.nil, Sl.nil, p.sources, ByteArray.empty, 0, Sl.nil, Sl.nil, Sl.nil, Sl.nil, p.bits, Sl.nil, 0, 0, 0, 0, 0, Sl.nil, Sl.nil, false, 0, 0, 0⟩)))] []) fun _ a u hE hS => ?_
  refine wp_ret ?_
  exact retc hE hS Tryz.results25 102 (p1 1).g 38 (Pkt.cells (⟨p.kind, p.sender, 0, 0, 0, 0, 0, Sl.nil, Sl.nil, Sl.nil, p.sources, ByteArray.empty, 0, Sl.nil, Sl.nil, Sl.nil, Sl.nil, p.bits, Sl.nil, 0, 0, 0, 0, 0, Sl.nil, Sl.nil, false, 0, 0, 0⟩ : Pkt)) ⟨rfl, hS.below⟩ Tryz.underlying38
end Go.Proofs.YtmmfpgoodfgkbaaGreat
