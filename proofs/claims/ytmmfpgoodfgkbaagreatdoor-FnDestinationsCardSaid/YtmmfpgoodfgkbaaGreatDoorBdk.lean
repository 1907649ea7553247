/-
  WALKS JOINED: the packet that 'built' makes names the sources of its kind. Condition: the packet's lists lie in memory and are short.
-/
import Derived.Test.YtmmfpgoodfgkbaaGreatDoorMDst
import Derived.Test.YtmmfpgoodfgkbaaGreatDoorMBu
import Derived.Test.YtmmfpgoodfgkbaaGreatDoorBuiltW
namespace Go.Proofs.YtmmfpgoodfgkbaaGreatDoor
open Go Go.RowKit
set_option linter.unusedVariables false
set_option linter.unusedSimpArgs false

theorem bd_ptr {tp T : TypeId} {f : FuncId} (hm : rowOf Tryz.prog tp "DestinationSSRC" = some (#[], some (f, true))) (hu : Tryz.prog.underlying tp = some (.pointer T)) (hc : ∀ (fas : Array Value) (w : World), (callFunc f fas).run Tryz.prog w = .ok (.enter f fas) w)
  {w w' : World} {g : Nat} {cs : Array Value} {ds : List Int} (hb : Blk w' g T cs) (hg : w.heap.size ≤ g) (hB : Below w.heap.size w w')
  (h : ∀ w'', Blk w'' g T cs → (∀ x, w.heap.size ≤ x ∧ x < w'.heap.size → w''.heap[x]? = w'.heap[x]?) → Calls Tryz.prog f #[.pointer (some ⟨g, 0, none⟩)] w'' (U32Out (fun x => w.heap.size ≤ x ∧ x < w'.heap.size) w'' ds)) : BuiltD w ds (.returned (.iface tp (.pointer (some ⟨g, 0, none⟩)))) w' :=
 ⟨_, rfl, fun w'' hk => invk_ptr (by decide) hm hu hc (h w'' ((hk g ⟨hg, hb.lt⟩).trans hb) hk), hB⟩
theorem bd_val {tp T : TypeId} {f : FuncId} (hm : rowOf Tryz.prog tp "DestinationSSRC" = some (#[], some (f, false))) (hu : Tryz.prog.underlying tp = some (.pointer T)) (hc : ∀ (fas : Array Value) (w : World), (callFunc f fas).run Tryz.prog w = .ok (.enter f fas) w)
  {w w' : World} {g : Nat} {cs : Array Value} {ds : List Int} (hb : Blk w' g T cs) (hl : ldB Tryz.prog T cs.toList 0 = true) (hv : ldV Tryz.prog T cs.toList 0 = .agg cs) (hg : w.heap.size ≤ g) (hB : Below w.heap.size w w')
  (h : ∀ w'', (∀ x, w.heap.size ≤ x ∧ x < w'.heap.size → w''.heap[x]? = w'.heap[x]?) → Calls Tryz.prog f #[.agg cs] w'' (U32Out (fun x => w.heap.size ≤ x ∧ x < w'.heap.size) w'' ds)) : BuiltD w ds (.returned (.iface tp (.pointer (some ⟨g, 0, none⟩)))) w' :=
 ⟨_, rfl, fun w'' hk => invk_val (by decide) hm hu hl hc ((hk g ⟨hg, hb.lt⟩).trans hb) (by rw [hv]; exact h w'' hk), hB⟩
theorem rd_ofB {w' w'' : World} {B size n : Nat} {A : Option Addr} {xs : List Value} (h : InRows w' B w'.heap.size size A n xs) (hk : ∀ x, B ≤ x ∧ x < w'.heap.size → w''.heap[x]? = w'.heap[x]?) : Reads w'' w''.heap.size size A n xs :=
 (h.st hk).readsH fun g hg => by
  have := hk g hg
  rw [Array.getElem?_eq_getElem hg.2] at this
  exact (Array.getElem?_eq_some_iff.1 this).1
theorem r32_ofB {w' w'' : World} {B n : Nat} {A : Option Addr} {xs : List Value} (h : InRows w' B w'.heap.size 1 A n xs) (hk : ∀ x, B ≤ x ∧ x < w'.heap.size → w''.heap[x]? = w'.heap[x]?) : R32 w'' (fun x => B ≤ x ∧ x < w'.heap.size) A n xs := by
 refine ⟨by have := h.1; omega, fun hn => ?_⟩
 obtain ⟨ad, e, h1, h2, h3⟩ := (h.st hk).2 hn
 have := hk _ ⟨h1, h2⟩
 rw [Array.getElem?_eq_getElem h2] at this
 exact ⟨ad, e, ⟨h1, h2⟩, (Array.getElem?_eq_some_iff.1 this).1, h3⟩
theorem bd_1 (p : Pkt) (w : World) (hk : p.kind = 1) (hL : p.Lies w w.heap.size) (hn : p.reports.l.length ≤ 1048576) (hx : p.ext.l.length ≤ 1048576) :
  Calls Tryz.prog 22 #[.agg p.cells] w (BuiltD w (p.reports.l.map Rep.ssrc ++ [p.sender])) := by
 refine (built_1 p w hk hL.reports (by omega) hL.ext (by omega)).mono ?_
 rintro e w' ⟨g, v1, c1, v2, c2, rfl, h2, h3, h4, h5, hB⟩
 refine bd_ptr (f := 130) (by kernel_rfl) (by kernel_rfl) (fun _ _ => by kernel_rfl) h2 h3 hB fun w2 hb hk2 => ?_
 ·exact dst_1 _ _ _ _ _ _ _ v1 c1 p.reports.l g w2 hb (rd_ofB (InRows.of_own h4) hk2) hn
theorem bd_2 (p : Pkt) (w : World) (hk : p.kind = 2) (hL : p.Lies w w.heap.size) (hn : p.reports.l.length ≤ 1048576) (hx : p.ext.l.length ≤ 1048576) :
  Calls Tryz.prog 22 #[.agg p.cells] w (BuiltD w (p.reports.l.map Rep.ssrc)) := by
 refine (built_2 p w hk hL.reports (by omega) hL.ext (by omega)).mono ?_
 rintro e w' ⟨g, v1, c1, v2, c2, rfl, h2, h3, h4, h5, hB⟩
 refine bd_ptr (f := 136) (by kernel_rfl) (by kernel_rfl) (fun _ _ => by kernel_rfl) h2 h3 hB fun w2 hb hk2 => ?_
 ·exact dst_2 _ _ _ v1 c1 p.reports.l g w2 hb (rd_ofB (InRows.of_own h4) hk2) hn
theorem bd_3 (p : Pkt) (w : World) (hk : p.kind = 3) (hL : p.Lies w w.heap.size) (hn : p.chunks.l.length ≤ 1048576) (hx : ∀ x ∈ p.chunks.l, x.items.l.length ≤ 1048576) :
  Calls Tryz.prog 22 #[.agg p.cells] w (BuiltD w (p.chunks.l.map Chunk.src)) := by
 refine (built8_3 p w hk hL.chunks hL.items hn hx).mono ?_
 rintro e w' ⟨g, A, c, l2, h1, rfl, h3, hB, h2, h4⟩
 refine bd_ptr (f := 139) (by kernel_rfl) (by kernel_rfl) (fun _ _ => by kernel_rfl) h2 h3 hB fun w2 hb hk2 => ?_
 ·have hl2 : l2.length = p.chunks.l.length := by have := congrArg List.length h1; simpa using this
  rw [← h1]
  exact dst_3 _ A c l2 g w2 hb (rd_ofB h4 hk2) (by omega)
theorem bd_4 (p : Pkt) (w : World) (hk : p.kind = 4) (hL : p.Lies w w.heap.size) (hn : p.sources.l.length ≤ 1048576) :
  Calls Tryz.prog 22 #[.agg p.cells] w (BuiltD w p.sources.l) := by
 refine (built_4 p w hk hL.sources (by omega)).mono ?_
 rintro e w' ⟨g, v1, c1, rfl, h2, h3, h4, hB⟩
 refine bd_ptr (f := 144) (by kernel_rfl) (by kernel_rfl) (fun _ _ => by kernel_rfl) h2 h3 hB fun w2 hb hk2 => ?_
 ·exact dst_4 _ _ v1 p.sources.l.length c1 p.sources.l g w2 hb (rd_ofB (InRows.of_own h4) hk2) hn
theorem bd_5 (p : Pkt) (w : World) (hk : p.kind = 5) (hL : p.Lies w w.heap.size) (hn : p.data.l.length ≤ 1048576) :
  Calls Tryz.prog 22 #[.agg p.cells] w (BuiltD w [p.sender]) := by
 refine (built_5 p w hk hL.data (by omega)).mono ?_
 rintro e w' ⟨g, v1, c1, rfl, h2, h3, h4, hB⟩
 refine bd_val (f := 175) (by kernel_rfl) (by kernel_rfl) (fun _ _ => by kernel_rfl) h2 (by kernel_rfl) (by kernel_rfl) h3 hB fun w2 hk2 => ?_
 ·exact dst_5 _ _ _ _ _ w2
theorem bd_6 (p : Pkt) (w : World) (hk : p.kind = 6) (hL : p.Lies w w.heap.size) (hn : p.pairs.l.length ≤ 1048576) :
  Calls Tryz.prog 22 #[.agg p.cells] w (BuiltD w [p.media]) := by
 refine (builtL_6 p w hk hL.pairs (by omega)).mono ?_
 rintro e w' ⟨g, v, rfl, h2, h3, h4, hB⟩
 refine bd_ptr (f := 147) (by kernel_rfl) (by kernel_rfl) (fun _ _ => by kernel_rfl) h2 h3 hB fun w2 hb hk2 => ?_
 ·exact dst_6 _ _ _ _ g w2 hb
theorem bd_7 (p : Pkt) (w : World) (hk : p.kind = 7) (hL : p.Lies w w.heap.size)  :
  Calls Tryz.prog 22 #[.agg p.cells] w (BuiltD w [p.media]) := by
 refine (built_7 p w hk).mono ?_
 rintro e w' ⟨g, rfl, h2, h3, hB⟩
 refine bd_ptr (f := 150) (by kernel_rfl) (by kernel_rfl) (fun _ _ => by kernel_rfl) h2 h3 hB fun w2 hb hk2 => ?_
 ·exact dst_7 _ _ _ g w2 hb
theorem bd_8 (p : Pkt) (w : World) (hk : p.kind = 8) (hL : p.Lies w w.heap.size) (hn : p.blocks.l.length ≤ 1048576) (hx : ∀ x ∈ p.blocks.l, x.mets.l.length ≤ 1048576) :
  Calls Tryz.prog 22 #[.agg p.cells] w (BuiltD w (p.blocks.l.map Blo.media)) := by
 refine (built8_8 p w hk hL.blocks hL.mets hn hx).mono ?_
 rintro e w' ⟨g, A, c, l2, h1, rfl, h3, hB, h2, h4⟩
 refine bd_val (f := 153) (by kernel_rfl) (by kernel_rfl) (fun _ _ => by kernel_rfl) h2 (by kernel_rfl) (by kernel_rfl) h3 hB fun w2 hk2 => ?_
 ·have hl2 : l2.length = p.blocks.l.length := by have := congrArg List.length h1; simpa using this
  rw [← h1]
  exact dst_8 _ _ _ A c l2 w2 (rd_ofB h4 hk2) (by omega)
theorem bd_9 (p : Pkt) (w : World) (hk : p.kind = 9) (hL : p.Lies w w.heap.size)  :
  Calls Tryz.prog 22 #[.agg p.cells] w (BuiltD w [p.media]) := by
 refine (built_9 p w hk).mono ?_
 rintro e w' ⟨g, rfl, h2, h3, hB⟩
 refine bd_ptr (f := 159) (by kernel_rfl) (by kernel_rfl) (fun _ _ => by kernel_rfl) h2 h3 hB fun w2 hb hk2 => ?_
 ·exact dst_9 _ _ _ g w2 hb
theorem bd_10 (p : Pkt) (w : World) (hk : p.kind = 10) (hL : p.Lies w w.heap.size) (hn : p.slices.l.length ≤ 1048576) :
  Calls Tryz.prog 22 #[.agg p.cells] w (BuiltD w [p.media]) := by
 refine (builtL_10 p w hk hL.slices (by omega)).mono ?_
 rintro e w' ⟨g, v, rfl, h2, h3, h4, hB⟩
 refine bd_ptr (f := 162) (by kernel_rfl) (by kernel_rfl) (fun _ _ => by kernel_rfl) h2 h3 hB fun w2 hb hk2 => ?_
 ·exact dst_10 _ _ _ _ g w2 hb
theorem bd_11 (p : Pkt) (w : World) (hk : p.kind = 11) (hL : p.Lies w w.heap.size) (hn : p.entries.l.length ≤ 1048576) :
  Calls Tryz.prog 22 #[.agg p.cells] w (BuiltD w (p.entries.l.map Ent.ssrc)) := by
 refine (builtL_11 p w hk hL.entries (by omega)).mono ?_
 rintro e w' ⟨g, v, rfl, h2, h3, h4, hB⟩
 refine bd_ptr (f := 165) (by kernel_rfl) (by kernel_rfl) (fun _ _ => by kernel_rfl) h2 h3 hB fun w2 hb hk2 => ?_
 ·obtain ⟨A, c, rfl⟩ := own_form h4
  exact dst_11 _ _ _ A c p.entries.l g w2 hb (rd_ofB (InRows.of_own h4) hk2) hn
theorem bd_12 (p : Pkt) (w : World) (hk : p.kind = 12) (hL : p.Lies w w.heap.size) (hn : p.sources.l.length ≤ 1048576) :
  Calls Tryz.prog 22 #[.agg p.cells] w (BuiltD w p.sources.l) := by
 refine (built_12 p w hk hL.sources (by omega)).mono ?_
 rintro e w' ⟨g, v1, c1, rfl, h2, h3, h4, hB⟩
 refine bd_ptr (f := 168) (by kernel_rfl) (by kernel_rfl) (fun _ _ => by kernel_rfl) h2 h3 hB fun w2 hb hk2 => ?_
 ·exact dst_12 _ _ _ v1 p.sources.l.length c1 p.sources.l g w2 hb (r32_ofB (InRows.of_own h4) hk2)
theorem bd_13 (p : Pkt) (w : World) (hk : p.kind = 13) (hL : p.Lies w w.heap.size) (hn : p.stats.l.length ≤ 1048576) (hx : ∀ x ∈ p.stats.l, x.list.l.length ≤ 1048576) (hd : p.deltas.l.length ≤ 1048576) :
  Calls Tryz.prog 22 #[.agg p.cells] w (BuiltD w [p.media]) := by
 refine (built_13 p w hL.stats hn hL.lists hx hL.deltas hd hk).mono ?_
 rintro e w' ⟨g, v1, v2, rfl, h2, h3, hB⟩
 refine bd_val (f := 179) (by kernel_rfl) (by kernel_rfl) (fun _ _ => by kernel_rfl) h2 (by kernel_rfl) (by kernel_rfl) h3 hB fun w2 hk2 => ?_
 ·exact dst_13 _ _ _ _ _ _ _ _ _ _ _ _ _ w2
end Go.Proofs.YtmmfpgoodfgkbaaGreatDoor
