/-
  THE WALK of the law on the source that a feedback message refers to. Condition: the packet's slices read as lists; the numbers fit their kinds.
-/
import Derived.Test.YtmmfpgoodfgkbaaGreatDests2
import Derived.Test.YtmmfpgoodfgkbaaGreatLegal
import Derived.Test.YtmmfpgoodfgkbaaGreatForm7
import Derived.Test.YtmmfpgoodfgkbaaGreatForm10
import Derived.Test.YtmmfpgoodfgkbaaGreatFits1
namespace Go.Proofs.YtmmfpgoodfgkbaaGreat
open Go Go.RowKit
set_option linter.unusedVariables false

theorem formatOne_any (p : Pkt) (w : World) (k : Nat) (count type : Int) (bs : List Int) (ok : Bool) (hk : p.kind = (k : Nat)) (hk1 : 1 ≤ k) (hk13 : k ≤ 13) (hc0 : 0 ≤ count) (hc1 : count ≤ 31) (hlen : bs.length ≤ 70368744177000)
    (hform : ∀ w', Below w.heap.size w w' → Calls Tryz.prog 52 #[.agg p.cells] w' (Formed w' count type bs ok)) :
    Calls Tryz.prog 24 #[.agg p.cells] w (Fmt w count type bs ok) := by
  cases ok with
  | false => exact formatOne_no p w k count type bs false hk hk1 hk13 hc0 hc1 hlen rfl hform
  | true =>
    by_cases h : bs.length ≤ 262140
    · exact formatOne_yes p w k count type bs true hk hk1 hk13 hc0 hc1 hlen rfl h hform
    · exact formatOne_long p w k count type bs true hk hk1 hk13 hc0 hc1 hlen rfl (by omega) hform
theorem legal_any (p c : Pkt) (w : World) (count type : Int) (bs : List Int) (ok : Bool)
    (hfmt : ∀ w', Below w.heap.size w w' → Calls Tryz.prog 24 #[.agg p.cells] w' (Fmt w' count type bs ok))
    (hcom : ∀ w', Below w.heap.size w w' → Calls Tryz.prog 25 #[.agg p.cells] w' fun e w'' => e = .returned (.agg c.cells) ∧ Below w'.heap.size w' w'') :
    Calls Tryz.prog 8 #[.agg p.cells] w (Legal w p c count type bs ok) := by
  by_cases h : ok = false ∨ 262140 < bs.length
  · exact legal_no p c w count type bs ok h hfmt hcom
  · have hok : ok = true := by cases ok <;> simp_all
    have hl : bs.length ≤ 262140 := by omega
    by_cases h2 : 131072 < 4 + bs.length
    · exact legal_long p c w count type bs ok hok hl h2 hfmt hcom
    · exact legal_yes p c w count type bs ok hok (by omega) hfmt hcom
theorem Pkt.Lies.more {p : Pkt} {w : World} {B B' : Nat} (h : p.Lies w B) (hB : B ≤ B') : p.Lies w B' :=
  ⟨Reads.more h.reports hB, Reads.more h.ext hB, Reads.more h.chunks hB, fun x hx => Reads.more (h.items x hx) hB, Reads.more h.sources hB, Reads.more h.data hB, Reads.more h.pairs hB, Reads.more h.slices hB, Reads.more h.entries hB, Reads.more h.blocks hB, fun x hx => Reads.more (h.mets x hx) hB, Reads.more h.stats hB, fun x hx => Reads.more (h.lists x hx) hB, Reads.more h.deltas hB⟩
/-- The numbers of a packet fit their kinds. -/
structure Pkt.Ok2 (p : Pkt) : Prop where
  s0 : 0 ≤ p.sender
  s1 : p.sender < 4294967296
  m0 : 0 ≤ p.media
  m1 : p.media < 4294967296
  pairs : ∀ x ∈ p.pairs.l, 0 ≤ x.id ∧ x.id < 65536 ∧ 0 ≤ x.mask ∧ x.mask < 65536
  slices : ∀ x ∈ p.slices.l, 0 ≤ x.first ∧ x.first < 65536 ∧ 0 ≤ x.number ∧ x.number < 65536 ∧ 0 ≤ x.pic ∧ x.pic < 256
noncomputable def fbR (n : Nat) : Code := (Tryz.f3.body.bind (regionNo n)).getD .skip

theorem legalK_6 (p : Pkt) (w : World) (hk : p.kind = 6) (h : p.Lies w w.heap.size) (hO : p.Ok2) (hpn : p.pairs.l.length ≤ 2147483647) (hsn : p.slices.l.length ≤ 2147483647) :
    Calls Tryz.prog 8 #[.agg p.cells] w (Legal w p (⟨p.kind, p.sender, p.media, 0, 0, 0, 0, Sl.nil, Sl.nil, Sl.nil, Sl.nil, ByteArray.empty, 0, Sl.nil, p.pairs, Sl.nil, Sl.nil, 0, Sl.nil, 0, 0, 0, 0, 0, Sl.nil, Sl.nil, false, 0, 0, 0⟩ : Pkt) 1 205 (be32 p.sender ++ be32 p.media ++ pairsB p.pairs.l) ((decide (0 < p.pairs.l.length) && decide (((p.pairs.l.length : Nat) : Int) ≤ 253)))) :=
  legal_any p _ w 1 205 _ _ (fun w' hw => formatOne_any p w' 6 1 205 _ _ (by rw [hk]; rfl) (by decide) (by decide) (by decide) (by decide) (by simp [be32_len, pairsB_len]; omega) fun w'' hw2 => by
      have hw' : Below w.heap.size w w'' := hw.trans (hw2.mono hw.size)
      exact form_6 p w'' hk hO.s0 hO.s1 hO.m0 hO.m1 ((h.pairs.below hw').more hw'.size) hpn hO.pairs)
    (fun w' hw => compact_6 p w' hk)

theorem destK_6 (q : Pkt) (w : World) (hk : q.kind = 6) (hq6 : q.pairs.Lies w w.heap.size 2 Pair.cells) (hl6 : q.pairs.l.length ≤ 2147483646) (hq10 : q.slices.Lies w w.heap.size 3 Slc.cells) (hl10 : q.slices.l.length ≤ 2147483646) :
    Calls Tryz.prog 9 #[.agg q.cells] w fun e w' => ∃ g c, e = .returned (.slice (some ⟨g, 0, none⟩) 1 c) ∧ w'.ownsRow w.heap.size 22 1 (.slice (some ⟨g, 0, none⟩) 1 c) 1 [.int .u32 q.media] ∧ Below w.heap.size w w' :=
  dests_6 q q.media w fun w2 hw2 => (builtL_6 q w2 hk ((hq6.below hw2).more hw2.size) hl6).mono (by rintro e w3 ⟨g, v, rfl, hg, -, -, hB3⟩; exact ⟨g, rfl, hg.cell 1, hB3⟩)

theorem legalK_7 (p : Pkt) (w : World) (hk : p.kind = 7) (h : p.Lies w w.heap.size) (hO : p.Ok2) (hpn : p.pairs.l.length ≤ 2147483647) (hsn : p.slices.l.length ≤ 2147483647) :
    Calls Tryz.prog 8 #[.agg p.cells] w (Legal w p (⟨p.kind, p.sender, p.media, 0, 0, 0, 0, Sl.nil, Sl.nil, Sl.nil, Sl.nil, ByteArray.empty, 0, Sl.nil, Sl.nil, Sl.nil, Sl.nil, 0, Sl.nil, 0, 0, 0, 0, 0, Sl.nil, Sl.nil, false, 0, 0, 0⟩ : Pkt) 5 205 (be32 p.sender ++ be32 p.media) (true)) :=
  legal_any p _ w 5 205 _ _ (fun w' hw => formatOne_any p w' 7 5 205 _ _ (by rw [hk]; rfl) (by decide) (by decide) (by decide) (by decide) (by simp [be32_len]) fun w'' hw2 => by
      have hw' : Below w.heap.size w w'' := hw.trans (hw2.mono hw.size)
      exact form_7 p w'' hk hO.s0 hO.s1 hO.m0 hO.m1 )
    (fun w' hw => compact_7 p w' hk)

theorem destK_7 (q : Pkt) (w : World) (hk : q.kind = 7) (hq6 : q.pairs.Lies w w.heap.size 2 Pair.cells) (hl6 : q.pairs.l.length ≤ 2147483646) (hq10 : q.slices.Lies w w.heap.size 3 Slc.cells) (hl10 : q.slices.l.length ≤ 2147483646) :
    Calls Tryz.prog 9 #[.agg q.cells] w fun e w' => ∃ g c, e = .returned (.slice (some ⟨g, 0, none⟩) 1 c) ∧ w'.ownsRow w.heap.size 22 1 (.slice (some ⟨g, 0, none⟩) 1 c) 1 [.int .u32 q.media] ∧ Below w.heap.size w w' :=
  dests_7 q q.media w fun w2 hw2 => (built_7 q w2 hk).mono (by rintro e w3 ⟨g, rfl, hg, -, hB3⟩; exact ⟨g, rfl, hg.cell 1, hB3⟩)

theorem legalK_9 (p : Pkt) (w : World) (hk : p.kind = 9) (h : p.Lies w w.heap.size) (hO : p.Ok2) (hpn : p.pairs.l.length ≤ 2147483647) (hsn : p.slices.l.length ≤ 2147483647) :
    Calls Tryz.prog 8 #[.agg p.cells] w (Legal w p (⟨p.kind, p.sender, p.media, 0, 0, 0, 0, Sl.nil, Sl.nil, Sl.nil, Sl.nil, ByteArray.empty, 0, Sl.nil, Sl.nil, Sl.nil, Sl.nil, 0, Sl.nil, 0, 0, 0, 0, 0, Sl.nil, Sl.nil, false, 0, 0, 0⟩ : Pkt) 1 206 (be32 p.sender ++ be32 p.media) (true)) :=
  legal_any p _ w 1 206 _ _ (fun w' hw => formatOne_any p w' 9 1 206 _ _ (by rw [hk]; rfl) (by decide) (by decide) (by decide) (by decide) (by simp [be32_len]) fun w'' hw2 => by
      have hw' : Below w.heap.size w w'' := hw.trans (hw2.mono hw.size)
      exact form_9 p w'' hk hO.s0 hO.s1 hO.m0 hO.m1 )
    (fun w' hw => compact_9 p w' hk)

theorem destK_9 (q : Pkt) (w : World) (hk : q.kind = 9) (hq6 : q.pairs.Lies w w.heap.size 2 Pair.cells) (hl6 : q.pairs.l.length ≤ 2147483646) (hq10 : q.slices.Lies w w.heap.size 3 Slc.cells) (hl10 : q.slices.l.length ≤ 2147483646) :
    Calls Tryz.prog 9 #[.agg q.cells] w fun e w' => ∃ g c, e = .returned (.slice (some ⟨g, 0, none⟩) 1 c) ∧ w'.ownsRow w.heap.size 22 1 (.slice (some ⟨g, 0, none⟩) 1 c) 1 [.int .u32 q.media] ∧ Below w.heap.size w w' :=
  dests_9 q q.media w fun w2 hw2 => (built_9 q w2 hk).mono (by rintro e w3 ⟨g, rfl, hg, -, hB3⟩; exact ⟨g, rfl, hg.cell 1, hB3⟩)

theorem legalK_10 (p : Pkt) (w : World) (hk : p.kind = 10) (h : p.Lies w w.heap.size) (hO : p.Ok2) (hpn : p.pairs.l.length ≤ 2147483647) (hsn : p.slices.l.length ≤ 2147483647) :
    Calls Tryz.prog 8 #[.agg p.cells] w (Legal w p (⟨p.kind, p.sender, p.media, 0, 0, 0, 0, Sl.nil, Sl.nil, Sl.nil, Sl.nil, ByteArray.empty, 0, Sl.nil, Sl.nil, p.slices, Sl.nil, 0, Sl.nil, 0, 0, 0, 0, 0, Sl.nil, Sl.nil, false, 0, 0, 0⟩ : Pkt) 2 206 (be32 p.sender ++ be32 p.media ++ slcsB p.slices.l) (((decide (0 < p.slices.l.length) && decide (((p.slices.l.length : Nat) : Int) ≤ 253)) && p.slices.l.all slcOk))) :=
  legal_any p _ w 2 206 _ _ (fun w' hw => formatOne_any p w' 10 2 206 _ _ (by rw [hk]; rfl) (by decide) (by decide) (by decide) (by decide) (by simp [be32_len, slcsB_len]; omega) fun w'' hw2 => by
      have hw' : Below w.heap.size w w'' := hw.trans (hw2.mono hw.size)
      exact form_10 p w'' hk hO.s0 hO.s1 hO.m0 hO.m1 ((h.slices.below hw').more hw'.size) hsn hO.slices)
    (fun w' hw => compact_10 p w' hk)

theorem destK_10 (q : Pkt) (w : World) (hk : q.kind = 10) (hq6 : q.pairs.Lies w w.heap.size 2 Pair.cells) (hl6 : q.pairs.l.length ≤ 2147483646) (hq10 : q.slices.Lies w w.heap.size 3 Slc.cells) (hl10 : q.slices.l.length ≤ 2147483646) :
    Calls Tryz.prog 9 #[.agg q.cells] w fun e w' => ∃ g c, e = .returned (.slice (some ⟨g, 0, none⟩) 1 c) ∧ w'.ownsRow w.heap.size 22 1 (.slice (some ⟨g, 0, none⟩) 1 c) 1 [.int .u32 q.media] ∧ Below w.heap.size w w' :=
  dests_10 q q.media w fun w2 hw2 => (builtL_10 q w2 hk ((hq10.below hw2).more hw2.size) hl10).mono (by rintro e w3 ⟨g, v, rfl, hg, -, -, hB3⟩; exact ⟨g, rfl, hg.cell 1, hB3⟩)

set_option maxHeartbeats 1000000 in
set_option maxRecDepth 100000 in
theorem fbR13 (p : Pkt) (w w3 : World) (a : Act) (g cap : Nat) (hE : Env 39 [(1, .pointer (some ⟨w.heap.size, 0, none⟩)), (6, .slice (some ⟨g, 0, none⟩) 1 cap)] a) (hp : Blk w3 w.heap.size 38 p.cells) (hm : w3.cell? ⟨g, 0, none⟩ = some (.int .u32 p.media)) (hg : g < w3.heap.size) (Q : Exit → Act → World → Prop)
    (hQ : ∀ a' nq, Env 39 [(2, .bool true)] a' → Q .normal a' (w3.drewN nq)) :
    (fbR 13).wp Tryz.prog Q a w3 := by
  conv => arg 2; whnf
  refine wp_region_mid (n := 39) [] (by kernel_rfl) (by kernel_rfl) (by kernel_rfl) (by kernel_rfl) hE.size
    [] (fun w' => True)
    (fun w' => ∃ nq, w' = w3.drewN nq)
    (fun i v w' => match i with
      | 0 => v = .slice (some ⟨g, 0, none⟩) 1 cap
      | 1 => v = .int .i64 1
      | 2 => v = .bool true
      | 3 => v = .bool true
      | 4 => v = .slice (some ⟨g, 0, none⟩) 1 cap
      | 5 => v = .pointer (some ⟨g, 0, none⟩)
      | 6 => v = .int .u32 p.media
      | 7 => v = .pointer (some ⟨w.heap.size, 2, none⟩)
      | 8 => v = .int .u32 p.media
      | 9 => v = .bool true
      | 10 => v = .bool true
      | 11 => v = .bool true
      | _ => True)
    (fun i w1 w2 => match i with
      | _ => w2 = w1)
    (trivial) ?hC0 ?hKeep ?hKeepI ?hDuty ?hEnd
  case hC0 => exact ⟨1, rfl⟩
  case hKeep =>
    intro i k v w1 w2 hne hnd hw hC0 hT hR
    match i, hT with
    | 0, hT | 1, hT | 2, hT | 3, hT | 4, hT | 5, hT | 6, hT | 7, hT | 8, hT | 9, hT | 10, hT | 11, hT => subst hT; exact hR
    | _ + 12, hT => subst hT; exact hR
  case hKeepI =>
    exact fun _ _ _ _ _ _ h => h
  case hDuty =>
    refine ⟨?_, ?_, ?_, ?_, ?_, ?_, ?_, ?_, ?_, ?_, ?_, ?_, trivial⟩
    · refine duty_plain rfl fun vs a w4 hO hI0 hC0 hD K hK => ?_
      obtain ⟨nq, hnq⟩ := (show ∃ nq, w4 = w3.drewN nq from hC0)
      have cm : w4.cell? ⟨g, 0, none⟩ = some (.int .u32 p.media) := by rw [hnq]; exact hm
      have hgl : g < w4.heap.size := by rw [hnq]; exact hg
      have c2 : w4.cell? ⟨w.heap.size, 2, none⟩ = some (.int .u32 p.media) := by rw [hnq]; exact hp.cell 2
      have hz0 : w.heap.size < w4.heap.size := by rw [hnq]; exact hp.lt
      clear hnq
      have e6 : a.tmps[6]? = some (.slice (some ⟨g, 0, none⟩) 1 cap) := (hO 6 (by kernel_rfl)).trans (hE.get 6 rfl)
      clear hD hO hI0
      go_simp
      exact hK _ _ hC0 rfl rfl
    · refine duty_plain rfl fun vs a w4 hO hI0 hC0 hD K hK => ?_
      obtain ⟨nq, hnq⟩ := (show ∃ nq, w4 = w3.drewN nq from hC0)
      have cm : w4.cell? ⟨g, 0, none⟩ = some (.int .u32 p.media) := by rw [hnq]; exact hm
      have hgl : g < w4.heap.size := by rw [hnq]; exact hg
      have c2 : w4.cell? ⟨w.heap.size, 2, none⟩ = some (.int .u32 p.media) := by rw [hnq]; exact hp.cell 2
      have hz0 : w.heap.size < w4.heap.size := by rw [hnq]; exact hp.lt
      clear hnq
      have s28 : a.tmps[28]? = some (vs 0) := (hD.1 rfl).1
      have r0 : vs 0 = .slice (some ⟨g, 0, none⟩) 1 cap := (hD.1 rfl).2
      rw [r0] at s28
      clear r0
      clear hD hO hI0
      go_simp
      exact hK _ _ hC0 rfl rfl
    · refine duty_plain rfl fun vs a w4 hO hI0 hC0 hD K hK => ?_
      obtain ⟨nq, hnq⟩ := (show ∃ nq, w4 = w3.drewN nq from hC0)
      have cm : w4.cell? ⟨g, 0, none⟩ = some (.int .u32 p.media) := by rw [hnq]; exact hm
      have hgl : g < w4.heap.size := by rw [hnq]; exact hg
      have c2 : w4.cell? ⟨w.heap.size, 2, none⟩ = some (.int .u32 p.media) := by rw [hnq]; exact hp.cell 2
      have hz0 : w.heap.size < w4.heap.size := by rw [hnq]; exact hp.lt
      clear hnq
      have s29 : a.tmps[29]? = some (vs 1) := (hD.1 rfl).1
      have r1 : vs 1 = .int .i64 1 := (hD.1 rfl).2
      rw [r1] at s29
      clear r1
      clear hD hO hI0
      go_simp
      exact hK _ _ hC0 rfl rfl
    · refine duty_plain rfl fun vs a w4 hO hI0 hC0 hD K hK => ?_
      obtain ⟨nq, hnq⟩ := (show ∃ nq, w4 = w3.drewN nq from hC0)
      have cm : w4.cell? ⟨g, 0, none⟩ = some (.int .u32 p.media) := by rw [hnq]; exact hm
      have hgl : g < w4.heap.size := by rw [hnq]; exact hg
      have c2 : w4.cell? ⟨w.heap.size, 2, none⟩ = some (.int .u32 p.media) := by rw [hnq]; exact hp.cell 2
      have hz0 : w.heap.size < w4.heap.size := by rw [hnq]; exact hp.lt
      clear hnq
      have s30 : a.tmps[30]? = some (vs 2) := (hD.1 rfl).1
      have r2 : vs 2 = .bool true := (hD.1 rfl).2
      rw [r2] at s30
      clear r2
      clear hD hO hI0
      go_simp
      exact hK _ _ hC0 rfl rfl
    · refine duty_guarded 3 true 31 rfl rfl fun vs a w4 hO hI0 hC0 hD => ?_
      obtain ⟨nq, hnq⟩ := (show ∃ nq, w4 = w3.drewN nq from hC0)
      have cm : w4.cell? ⟨g, 0, none⟩ = some (.int .u32 p.media) := by rw [hnq]; exact hm
      have hgl : g < w4.heap.size := by rw [hnq]; exact hg
      have c2 : w4.cell? ⟨w.heap.size, 2, none⟩ = some (.int .u32 p.media) := by rw [hnq]; exact hp.cell 2
      have hz0 : w.heap.size < w4.heap.size := by rw [hnq]; exact hp.lt
      clear hnq
      have s31 : a.tmps[31]? = some (vs 3) := (hD.1 rfl).1
      have r3 : vs 3 = .bool true := (hD.1 rfl).2
      rw [r3] at s31
      clear r3
      have e6 : a.tmps[6]? = some (.slice (some ⟨g, 0, none⟩) 1 cap) := (hO 6 (by kernel_rfl)).trans (hE.get 6 rfl)
      clear hD hO hI0
      refine ⟨_, s31, fun K hK => ?_⟩
      rw [if_pos rfl]
      go_simp
      exact hK _ _ hC0 rfl rfl
    · refine duty_guarded 3 true 31 rfl rfl fun vs a w4 hO hI0 hC0 hD => ?_
      obtain ⟨nq, hnq⟩ := (show ∃ nq, w4 = w3.drewN nq from hC0)
      have cm : w4.cell? ⟨g, 0, none⟩ = some (.int .u32 p.media) := by rw [hnq]; exact hm
      have hgl : g < w4.heap.size := by rw [hnq]; exact hg
      have c2 : w4.cell? ⟨w.heap.size, 2, none⟩ = some (.int .u32 p.media) := by rw [hnq]; exact hp.cell 2
      have hz0 : w.heap.size < w4.heap.size := by rw [hnq]; exact hp.lt
      clear hnq
      have s32 : a.tmps[32]? = some (vs 4) := (hD.1 rfl).1
      have r4 : vs 4 = .slice (some ⟨g, 0, none⟩) 1 cap := (hD.1 rfl).2
      rw [r4] at s32
      clear r4
      have s31 : a.tmps[31]? = some (vs 3) := (hD.2.1 rfl).1
      have r3 : vs 3 = .bool true := (hD.2.1 rfl).2
      rw [r3] at s31
      clear r3
      clear hD hO hI0
      refine ⟨_, s31, fun K hK => ?_⟩
      rw [if_pos rfl]
      go_simp
      exact hK _ _ hC0 rfl rfl
    · refine duty_guarded 3 true 31 rfl rfl fun vs a w4 hO hI0 hC0 hD => ?_
      obtain ⟨nq, hnq⟩ := (show ∃ nq, w4 = w3.drewN nq from hC0)
      have cm : w4.cell? ⟨g, 0, none⟩ = some (.int .u32 p.media) := by rw [hnq]; exact hm
      have hgl : g < w4.heap.size := by rw [hnq]; exact hg
      have c2 : w4.cell? ⟨w.heap.size, 2, none⟩ = some (.int .u32 p.media) := by rw [hnq]; exact hp.cell 2
      have hz0 : w.heap.size < w4.heap.size := by rw [hnq]; exact hp.lt
      clear hnq
      have s33 : a.tmps[33]? = some (vs 5) := (hD.1 rfl).1
      have r5 : vs 5 = .pointer (some ⟨g, 0, none⟩) := (hD.1 rfl).2
      rw [r5] at s33
      clear r5
      have s31 : a.tmps[31]? = some (vs 3) := (hD.2.1 rfl).1
      have r3 : vs 3 = .bool true := (hD.2.1 rfl).2
      rw [r3] at s31
      clear r3
      clear hD hO hI0
      refine ⟨_, s31, fun K hK => ?_⟩
      rw [if_pos rfl]
      go_simp
      exact hK _ _ hC0 rfl rfl
    · refine duty_guarded 3 true 31 rfl rfl fun vs a w4 hO hI0 hC0 hD => ?_
      obtain ⟨nq, hnq⟩ := (show ∃ nq, w4 = w3.drewN nq from hC0)
      have cm : w4.cell? ⟨g, 0, none⟩ = some (.int .u32 p.media) := by rw [hnq]; exact hm
      have hgl : g < w4.heap.size := by rw [hnq]; exact hg
      have c2 : w4.cell? ⟨w.heap.size, 2, none⟩ = some (.int .u32 p.media) := by rw [hnq]; exact hp.cell 2
      have hz0 : w.heap.size < w4.heap.size := by rw [hnq]; exact hp.lt
      clear hnq
      have s31 : a.tmps[31]? = some (vs 3) := (hD.1 rfl).1
      have r3 : vs 3 = .bool true := (hD.1 rfl).2
      rw [r3] at s31
      clear r3
      have e1 : a.tmps[1]? = some (.pointer (some ⟨w.heap.size, 0, none⟩)) := (hO 1 (by kernel_rfl)).trans (hE.get 1 rfl)
      clear hD hO hI0
      refine ⟨_, s31, fun K hK => ?_⟩
      rw [if_pos rfl]
      go_simp
      exact hK _ _ hC0 rfl rfl
    · refine duty_guarded 3 true 31 rfl rfl fun vs a w4 hO hI0 hC0 hD => ?_
      obtain ⟨nq, hnq⟩ := (show ∃ nq, w4 = w3.drewN nq from hC0)
      have cm : w4.cell? ⟨g, 0, none⟩ = some (.int .u32 p.media) := by rw [hnq]; exact hm
      have hgl : g < w4.heap.size := by rw [hnq]; exact hg
      have c2 : w4.cell? ⟨w.heap.size, 2, none⟩ = some (.int .u32 p.media) := by rw [hnq]; exact hp.cell 2
      have hz0 : w.heap.size < w4.heap.size := by rw [hnq]; exact hp.lt
      clear hnq
      have s35 : a.tmps[35]? = some (vs 7) := (hD.1 rfl).1
      have r7 : vs 7 = .pointer (some ⟨w.heap.size, 2, none⟩) := (hD.1 rfl).2
      rw [r7] at s35
      clear r7
      have s31 : a.tmps[31]? = some (vs 3) := (hD.2.1 rfl).1
      have r3 : vs 3 = .bool true := (hD.2.1 rfl).2
      rw [r3] at s31
      clear r3
      clear hD hO hI0
      refine ⟨_, s31, fun K hK => ?_⟩
      rw [if_pos rfl]
      go_simp
      exact hK _ _ hC0 rfl rfl
    · refine duty_guarded 3 true 31 rfl rfl fun vs a w4 hO hI0 hC0 hD => ?_
      obtain ⟨nq, hnq⟩ := (show ∃ nq, w4 = w3.drewN nq from hC0)
      have cm : w4.cell? ⟨g, 0, none⟩ = some (.int .u32 p.media) := by rw [hnq]; exact hm
      have hgl : g < w4.heap.size := by rw [hnq]; exact hg
      have c2 : w4.cell? ⟨w.heap.size, 2, none⟩ = some (.int .u32 p.media) := by rw [hnq]; exact hp.cell 2
      have hz0 : w.heap.size < w4.heap.size := by rw [hnq]; exact hp.lt
      clear hnq
      have s34 : a.tmps[34]? = some (vs 6) := (hD.1 rfl).1
      have r6 : vs 6 = .int .u32 p.media := (hD.1 rfl).2
      rw [r6] at s34
      clear r6
      have s36 : a.tmps[36]? = some (vs 8) := (hD.2.1 rfl).1
      have r8 : vs 8 = .int .u32 p.media := (hD.2.1 rfl).2
      rw [r8] at s36
      clear r8
      have s31 : a.tmps[31]? = some (vs 3) := (hD.2.2.1 rfl).1
      have r3 : vs 3 = .bool true := (hD.2.2.1 rfl).2
      rw [r3] at s31
      clear r3
      clear hD hO hI0
      refine ⟨_, s31, fun K hK => ?_⟩
      rw [if_pos rfl]
      go_simp
      exact hK _ _ hC0 rfl rfl
    · refine duty_plain rfl fun vs a w4 hO hI0 hC0 hD K hK => ?_
      obtain ⟨nq, hnq⟩ := (show ∃ nq, w4 = w3.drewN nq from hC0)
      have cm : w4.cell? ⟨g, 0, none⟩ = some (.int .u32 p.media) := by rw [hnq]; exact hm
      have hgl : g < w4.heap.size := by rw [hnq]; exact hg
      have c2 : w4.cell? ⟨w.heap.size, 2, none⟩ = some (.int .u32 p.media) := by rw [hnq]; exact hp.cell 2
      have hz0 : w.heap.size < w4.heap.size := by rw [hnq]; exact hp.lt
      clear hnq
      have s31 : a.tmps[31]? = some (vs 3) := (hD.1 rfl).1
      have r3 : vs 3 = .bool true := (hD.1 rfl).2
      rw [r3] at s31
      clear r3
      have s37 : a.tmps[37]? = some (vs 9) := (hD.2.1 rfl).1
      have r9 : vs 9 = .bool true := (hD.2.1 rfl).2
      rw [r9] at s37
      clear r9
      clear hD hO hI0
      go_simp
      exact hK _ _ hC0 rfl rfl
    · refine duty_plain rfl fun vs a w4 hO hI0 hC0 hD K hK => ?_
      obtain ⟨nq, hnq⟩ := (show ∃ nq, w4 = w3.drewN nq from hC0)
      have cm : w4.cell? ⟨g, 0, none⟩ = some (.int .u32 p.media) := by rw [hnq]; exact hm
      have hgl : g < w4.heap.size := by rw [hnq]; exact hg
      have c2 : w4.cell? ⟨w.heap.size, 2, none⟩ = some (.int .u32 p.media) := by rw [hnq]; exact hp.cell 2
      have hz0 : w.heap.size < w4.heap.size := by rw [hnq]; exact hp.lt
      clear hnq
      have s38 : a.tmps[38]? = some (vs 10) := (hD.1 rfl).1
      have r10 : vs 10 = .bool true := (hD.1 rfl).2
      rw [r10] at s38
      clear r10
      clear hD hO hI0
      go_simp
      exact hK _ _ hC0 rfl rfl
  case hEnd =>
    intro vs a' w' hC hM hR2
    obtain ⟨nq, rfl⟩ := hC
    exact hQ a' nq (Env.mk' (hM.size.trans hE.size) (hM.defers.trans hE.defers) ⟨(hM.slot 11 2 (by kernel_rfl)).trans (congrArg some (hR2 11 (by decide) (by simp))), trivial⟩)

set_option maxHeartbeats 4000000 in
set_option maxRecDepth 100000 in
theorem law_6 (p : Pkt) (w : World) (hk : p.kind = 6) (h : p.Lies w w.heap.size) (hO : p.Ok2) :
    Calls Tryz.prog 3 #[.agg p.cells] w fun e w' => e = .returned (.bool true) ∧ Below w.heap.size w w' := by
  have Hk := Lib.hid hk
  clear hk
  refine calls_of_wp Tryz.func3 rfl ?_
  rw [Tryz.ntmps3]
  have hE0 : Env 39 [(0, .agg p.cells)] ⟨#[.agg p.cells] ++ Array.replicate (39 - (#[.agg p.cells] : Array Value).size) undef, []⟩ := Env.enter _ (by simp) ⟨by simp, trivial⟩
  generalize (⟨#[.agg p.cells] ++ Array.replicate (39 - (#[.agg p.cells] : Array Value).size) undef, []⟩ : Act) = a0 at hE0 ⊢
  refine wp_seq_k fun K1 hK1 => ?_
  refine wp_region_lit ?_
  refine wpList_val hE0 1 rfl rfl fun K hK => ?_
  have e0 := hE0.get 0 rfl
  go_simp
  refine hK _ _ fun a2 hE2 => ?_
  clear hK K e0
  clear hE0 a0
  refine wpList_val hE2 2 rfl rfl fun K hK => ?_
  go_simp
  refine hK _ _ fun a3 hE3 => ?_
  clear hK K
  clear hE2 a2
  refine wpList_nil ?_
  have hp := blk_new w 38 p.cells rfl
  have hB : Below w.heap.size w (w.alloc (.cells p.cells 38)) := (Below.refl _ _).alloc (Nat.le_refl _) _
  have hgoal : ∀ w1, Blk w1 w.heap.size 38 p.cells → Below w.heap.size w w1 → K1 a3 w1 := ?_
  · exact hgoal _ hp hB
  clear hp hB
  intro w1 hp hB
  refine hK1 _ _ ?_
  clear hK1
  refine wp_seq_k fun K4 hK4 => ?_
  refine wp_seq_k fun K5 hK5 => ?_
  refine wp_region_lit ?_
  refine wpList_val hE3 7 rfl rfl fun K hK => ?_
  have e1 := hE3.get 1 rfl
  refine wp_load_blk 38 (.tmp 1) rfl w.heap.size (hE3.ev 1 rfl) 38 p.cells _ hp Tryz.underlying38 rfl (by kernel_rfl) ?_
  refine hK _ _ fun a6 hE6 => ?_
  clear hK K e1
  clear hE3 a3
  refine wpList_val hE6 8 rfl rfl fun K hK => ?_
  have e7 := hE6.get 7 rfl
  go_simp
  refine (zzFits1_any p w1 ((h.below hB).more hB.size)).mono ?_
  rintro e w2 ⟨b, rfl, hb, hB2⟩
  refine hK _ _ fun a7 hE7 => ?_
  clear hK K e7
  clear hE6 a6
  refine wpList_val hE7 9 rfl rfl fun K hK => ?_
  have e8 := hE7.get 8 rfl
  go_simp
  refine hK _ _ fun a8 hE8 => ?_
  clear hK K e8
  clear hE7 a7
  refine wpList_nil ?_
  replace hp := hp.below hB2 hp.lt
  replace hB := hB.trans (hB2.mono hB.size)
  clear hB2
  refine hK5 _ _ ?_
  clear hK5
  cases b with
  | false =>
    refine wp_if_t hE8 9 rfl ?_
    refine wp_seq_k fun K9 hK9 => ?_
    refine wp_region_lit ?_
    refine wpList_val hE8 2 rfl rfl fun K hK => ?_
    go_simp
    refine hK _ _ fun a10 hE10 => ?_
    clear hK K
    clear hE8 a8
    refine wpList_nil ?_
    refine hK9 _ _ ?_
    clear hK9
    refine wp_ret ?_
    simp only [Exit.then]
    refine bodyPost_ret (v := .bool true) (by simp [results, Tryz.results3, go_sem, hE10.get 2 rfl]) hE10.defers ⟨rfl, hB⟩
  | true =>
    refine wp_if_f hE8 9 rfl ?_
    refine wp_skip ?_
    refine hK4 _ _ ?_
    clear hK4
    refine wp_seq_k fun K11 hK11 => ?_
    refine wp_seq_k fun K12 hK12 => ?_
    refine wp_region_lit ?_
    refine wpList_val hE8 10 rfl rfl fun K hK => ?_
    have e1 := hE8.get 1 rfl
    go_simp
    refine hK _ _ fun a13 hE13 => ?_
    clear hK K e1
    clear hE8 a8
    refine wpList_val hE13 11 rfl rfl fun K hK => ?_
    have e10 := hE13.get 10 rfl
    have c0 : w2.cell? ⟨w.heap.size, 0, none⟩ = some (.int .i64 (6)) := (hp.cell 0).trans (by rw [← Hk.out]; rfl)
    have hz0 : w.heap.size < w2.heap.size := hp.lt
    go_simp
    refine hK _ _ fun a14 hE14 => ?_
    clear hK K e10
    clear hE13 a13
    clear c0 hz0
    refine wpList_nil ?_
    refine hK12 _ _ ?_
    clear hK12
    refine wp_block ?_
    refine wp_seq_k fun K15 hK15 => ?_
    refine wp_seq_k fun K16 hK16 => ?_
    refine wp_region_lit ?_
    refine wpList_val hE14 13 rfl rfl fun K hK => ?_
    have e11 := hE14.get 11 rfl
    go_simp
    refine hK _ _ fun a17 hE17 => ?_
    clear hK K e11
    clear hE14 a14
    refine wpList_val hE17 12 rfl rfl fun K hK => ?_
    have e13 := hE17.get 13 rfl
    go_simp
    refine hK _ _ fun a18 hE18 => ?_
    clear hK K e13
    clear hE17 a17
    refine wpList_nil ?_
    refine hK16 _ _ ?_
    clear hK16
    refine wp_if_t hE18 12 rfl ?_
    refine wp_skip ?_
    refine hK15 _ _ ?_
    clear hK15
    refine wp_if_t hE18 12 rfl ?_
    refine wp_skip ?_
    refine hK11 _ _ ?_
    clear hK11
    refine wp_seq_k fun K19 hK19 => ?_
    obtain ⟨hpn, hsn⟩ := hb rfl
    clear hb
    refine wp_region_lit ?_
    refine wpList_val hE18 18 rfl rfl fun K hK => ?_
    have e1 := hE18.get 1 rfl
    refine wp_load_blk 38 (.tmp 1) rfl w.heap.size (hE18.ev 1 rfl) 38 p.cells _ hp Tryz.underlying38 rfl (by kernel_rfl) ?_
    refine hK _ _ fun a20 hE20 => ?_
    clear hK K e1
    clear hE18 a18
    refine wpList_val hE20 19 rfl rfl fun K hK => ?_
    have e18 := hE20.get 18 rfl
    go_simp
    refine (legalK_6 p w2 Hk.out ((h.below hB).more hB.size) hO hpn hsn).mono ?_
    rintro e w3 hL
    obtain ⟨c, ok, v, he, hyes, hB3⟩ : ∃ (c : Pkt) (ok : Bool) (v : Value), e = .returned (.tuple #[.agg c.cells, v, .bool ok]) ∧ (ok = true → c = (⟨p.kind, p.sender, p.media, 0, 0, 0, 0, Sl.nil, Sl.nil, Sl.nil, Sl.nil, ByteArray.empty, 0, Sl.nil, p.pairs, Sl.nil, Sl.nil, 0, Sl.nil, 0, 0, 0, 0, 0, Sl.nil, Sl.nil, false, 0, 0, 0⟩ : Pkt) ∧ ((decide (0 < p.pairs.l.length) && decide (((p.pairs.l.length : Nat) : Int) ≤ 253))) = true) ∧ Below w2.heap.size w2 w3 := by
      rcases hL with ⟨h1, h2, g, cap, h3, -, h5⟩ | ⟨-, h3, h5⟩
      · exact ⟨_, _, _, h3, fun _ => ⟨rfl, h1⟩, h5⟩
      · exact ⟨_, _, _, h3, (fun h => by cases h), h5⟩
    subst he
    clear hL
    refine hK _ _ fun a21 hE21 => ?_
    clear hK K e18
    clear hE20 a20
    refine wpList_val hE21 17 rfl rfl fun K hK => ?_
    have e19 := hE21.get 19 rfl
    go_simp
    refine hK _ _ fun a22 hE22 => ?_
    clear hK K e19
    clear hE21 a21
    refine wpList_val hE22 20 rfl rfl fun K hK => ?_
    have e17 := hE22.get 17 rfl
    go_simp
    refine hK _ _ fun a23 hE23 => ?_
    clear hK K e17
    clear hE22 a22
    refine wpList_val hE23 21 rfl rfl fun K hK => ?_
    have e17 := hE23.get 17 rfl
    go_simp
    refine hK _ _ fun a24 hE24 => ?_
    clear hK K e17
    clear hE23 a23
    refine wpList_val hE24 22 rfl rfl fun K hK => ?_
    have e17 := hE24.get 17 rfl
    go_simp
    refine hK _ _ fun a25 hE25 => ?_
    clear hK K e17
    clear hE24 a24
    refine wpList_val hE25 3 rfl rfl fun K hK => ?_
    go_simp
    refine hK _ _ fun a26 hE26 => ?_
    clear hK K
    clear hE25 a25
    refine wpList_none rfl fun K hK => ?_
    have e3 := hE26.get 3 rfl
    have e20 := hE26.get 20 rfl
    refine wp_store_blk 38 (.tmp 3) (.tmp 20) rfl w3.heap.size Pkt.zero.cells c.cells 38 (hE26.ev 3 rfl) (hE26.ev 20 rfl) (blk_new w3 38 Pkt.zero.cells rfl) rfl (by kernel_rfl) (pkt_one _) fun w4 hc4 hg4 hz4 => ?_
    refine hK undef _ ?_
    clear hK K e3 e20
    have hp4 := ((hp.below hB3 hp.lt).alloc (.cells Pkt.zero.cells 38)).grown hg4 (by have := hp.lt; have := hB3.size; simp; omega)
    have hB4 : Below w.heap.size w w4 := ((hB.trans (hB3.mono hB.size)).alloc (hB.trans (hB3.mono hB.size)).size _).grown hg4 (by have := hB.size; have := hB3.size; simp; omega) (fun j hj => by injection hj with hj; have := hB.size; have := hB3.size; omega)
    have hz3 := hc4.lt
    clear hg4 hz4
    refine wpList_val hE26 4 rfl rfl fun K hK => ?_
    have e21 := hE26.get 21 rfl
    go_simp
    refine hK _ _ fun a28 hE28 => ?_
    clear hK K e21
    clear hE26 a26
    refine wpList_val hE28 5 rfl rfl fun K hK => ?_
    have e22 := hE28.get 22 rfl
    go_simp
    refine hK _ _ fun a29 hE29 => ?_
    clear hK K e22
    clear hE28 a28
    refine wpList_nil ?_
    refine hK19 _ _ ?_
    clear hK19
    refine wp_seq_k fun K30 hK30 => ?_
    refine wp_seq_k fun K31 hK31 => ?_
    refine wp_region_lit ?_
    refine wpList_val hE29 23 rfl rfl fun K hK => ?_
    have e5 := hE29.get 5 rfl
    go_simp
    refine hK _ _ fun a32 hE32 => ?_
    clear hK K e5
    clear hE29 a29
    refine wpList_val hE32 24 rfl rfl fun K hK => ?_
    have e23 := hE32.get 23 rfl
    go_simp
    refine hK _ _ fun a33 hE33 => ?_
    clear hK K e23
    clear hE32 a32
    refine wpList_nil ?_
    refine hK31 _ _ ?_
    clear hK31
    cases ok with
    | false =>
      refine wp_if_t hE33 24 rfl ?_
      refine wp_seq_k fun K34 hK34 => ?_
      refine wp_region_lit ?_
      refine wpList_val hE33 2 rfl rfl fun K hK => ?_
      go_simp
      refine hK _ _ fun a35 hE35 => ?_
      clear hK K
      clear hE33 a33
      refine wpList_nil ?_
      refine hK34 _ _ ?_
      clear hK34
      refine wp_ret ?_
      simp only [Exit.then]
      refine bodyPost_ret (v := .bool true) (by simp [results, Tryz.results3, go_sem, hE35.get 2 rfl]) hE35.defers ⟨rfl, hB4⟩
    | true =>
      refine wp_if_f hE33 24 rfl ?_
      refine wp_skip ?_
      refine hK30 _ _ ?_
      clear hK30
      refine wp_seq_k fun K36 hK36 => ?_
      obtain ⟨hcq, hok⟩ := hyes rfl
      clear hyes
      have hcp : c.pairs.Lies w4 w4.heap.size 2 Pair.cells := by rw [hcq]; exact (h.pairs.below hB4).more hB4.size
      have hcs : c.slices.Lies w4 w4.heap.size 3 Slc.cells := by rw [hcq]; exact Reads.none_
      have hl1 : c.pairs.l.length ≤ 253 := by simp only [Bool.and_eq_true, decide_eq_true_eq] at hok; rw [hcq]; show p.pairs.l.length ≤ 253; omega
      have hl2 : c.slices.l.length ≤ 253 := by rw [hcq]; show 0 ≤ 253; omega
      have hG := given_flat c w4 (by rw [hcq]; rfl) (by rw [hcq]; rfl) (by rw [hcq]; rfl) (by rw [hcq]; rfl) (by rw [hcq]; rfl) (by rw [hcq]; rfl) hcp hcs (by omega) (by omega)
      have hcm : c.media = p.media := by rw [hcq]
      have hck : c.kind = 6 := by rw [hcq]; exact Hk.out
      have HG := Lib.hid hG
      have Hcm := Lib.hid hcm
      have Hck := Lib.hid hck
      clear hG hcm hck hcq hcp hcs hok
      refine wp_region_lit ?_
      refine wpList_val hE33 25 rfl rfl fun K hK => ?_
      have e3 := hE33.get 3 rfl
      refine wp_load_blk 38 (.tmp 3) rfl w3.heap.size (hE33.ev 3 rfl) 38 c.cells _ hc4 Tryz.underlying38 rfl (by kernel_rfl) ?_
      refine hK _ _ fun a37 hE37 => ?_
      clear hK K e3
      clear hE33 a33
      refine wpList_val hE37 26 rfl rfl fun K hK => ?_
      have e25 := hE37.get 25 rfl
      go_simp
      refine HG.out.mono ?_
      rintro e w5 ⟨s1, s2, hs1, hs2, rfl, hr1, hr2, hB5⟩
      refine hK _ _ fun a38 hE38 => ?_
      clear hK K e25
      clear hE37 a37
      refine wpList_val hE38 27 rfl rfl fun K hK => ?_
      have e26 := hE38.get 26 rfl
      go_simp
      refine (destK_6 (⟨c.kind, c.sender, c.media, c.ntp, c.rtp, c.packets, c.octets, Sl.nil, c.ext, Sl.nil, c.sources, c.text, c.sub, c.data, s1, s2, Sl.nil, c.bits, Sl.nil, c.time, c.base, c.count, c.ref, c.fb, Sl.nil, Sl.nil, c.hpad, c.hcount, c.htype, c.hlen⟩ : Pkt) w5 Hck.out hr1 (by show s1.l.length ≤ _; rw [hs1]; omega) hr2 (by show s2.l.length ≤ _; rw [hs2]; omega)).mono ?_
      rintro e w6 ⟨g, cap, rfl, hown6, hB6⟩
      refine hK _ _ fun a39 hE39 => ?_
      clear hK K e26
      clear hE38 a38
      refine wpList_val hE39 6 rfl rfl fun K hK => ?_
      have e27 := hE39.get 27 rfl
      go_simp
      refine hK _ _ fun a40 hE40 => ?_
      clear hK K e27
      clear hE39 a39
      refine wpList_nil ?_
      have hp6 := (hp4.below hB5 hp4.lt).below hB6 (by have := hp4.lt; have := hB5.size; omega)
      have hB7 : Below w.heap.size w w6 := hB4.trans ((hB5.trans (hB6.mono hB5.size)).mono hB4.size)
      have hm6 : w6.cell? ⟨g, 0, none⟩ = some (.int .u32 p.media) := by
        have := hown6.cellAt 0 (by simp)
        rw [this]
        exact congrArg some (congrArg (Value.int .u32) Hcm.out)
      have hgl : g < w6.heap.size := (hown6.lt g rfl).2
      refine hK36 _ _ ?_
      clear hK36
      refine wp_seq_k fun K41 hK41 => ?_
      refine fbR13 p w w6 _ g cap (hE40.keep ⟨hE40.get 1 rfl, hE40.get 6 rfl, trivial⟩) hp6 hm6 hgl _ fun a7 nq hE7 => ?_
      clear hE40 a40
      refine hK41 _ _ ?_
      clear hK41
      refine wp_ret ?_
      refine bodyPost_ret (v := .bool true) (by simp [results, Tryz.results3, go_sem, hE7.get 2 rfl]) hE7.defers ⟨rfl, below_drewN hB7 nq⟩

set_option maxHeartbeats 4000000 in
set_option maxRecDepth 100000 in
theorem law_7 (p : Pkt) (w : World) (hk : p.kind = 7) (h : p.Lies w w.heap.size) (hO : p.Ok2) :
    Calls Tryz.prog 3 #[.agg p.cells] w fun e w' => e = .returned (.bool true) ∧ Below w.heap.size w w' := by
  have Hk := Lib.hid hk
  clear hk
  refine calls_of_wp Tryz.func3 rfl ?_
  rw [Tryz.ntmps3]
  have hE0 : Env 39 [(0, .agg p.cells)] ⟨#[.agg p.cells] ++ Array.replicate (39 - (#[.agg p.cells] : Array Value).size) undef, []⟩ := Env.enter _ (by simp) ⟨by simp, trivial⟩
  generalize (⟨#[.agg p.cells] ++ Array.replicate (39 - (#[.agg p.cells] : Array Value).size) undef, []⟩ : Act) = a0 at hE0 ⊢
  refine wp_seq_k fun K1 hK1 => ?_
  refine wp_region_lit ?_
  refine wpList_val hE0 1 rfl rfl fun K hK => ?_
  have e0 := hE0.get 0 rfl
  go_simp
  refine hK _ _ fun a2 hE2 => ?_
  clear hK K e0
  clear hE0 a0
  refine wpList_val hE2 2 rfl rfl fun K hK => ?_
  go_simp
  refine hK _ _ fun a3 hE3 => ?_
  clear hK K
  clear hE2 a2
  refine wpList_nil ?_
  have hp := blk_new w 38 p.cells rfl
  have hB : Below w.heap.size w (w.alloc (.cells p.cells 38)) := (Below.refl _ _).alloc (Nat.le_refl _) _
  have hgoal : ∀ w1, Blk w1 w.heap.size 38 p.cells → Below w.heap.size w w1 → K1 a3 w1 := ?_
  · exact hgoal _ hp hB
  clear hp hB
  intro w1 hp hB
  refine hK1 _ _ ?_
  clear hK1
  refine wp_seq_k fun K4 hK4 => ?_
  refine wp_seq_k fun K5 hK5 => ?_
  refine wp_region_lit ?_
  refine wpList_val hE3 7 rfl rfl fun K hK => ?_
  have e1 := hE3.get 1 rfl
  refine wp_load_blk 38 (.tmp 1) rfl w.heap.size (hE3.ev 1 rfl) 38 p.cells _ hp Tryz.underlying38 rfl (by kernel_rfl) ?_
  refine hK _ _ fun a6 hE6 => ?_
  clear hK K e1
  clear hE3 a3
  refine wpList_val hE6 8 rfl rfl fun K hK => ?_
  have e7 := hE6.get 7 rfl
  go_simp
  refine (zzFits1_any p w1 ((h.below hB).more hB.size)).mono ?_
  rintro e w2 ⟨b, rfl, hb, hB2⟩
  refine hK _ _ fun a7 hE7 => ?_
  clear hK K e7
  clear hE6 a6
  refine wpList_val hE7 9 rfl rfl fun K hK => ?_
  have e8 := hE7.get 8 rfl
  go_simp
  refine hK _ _ fun a8 hE8 => ?_
  clear hK K e8
  clear hE7 a7
  refine wpList_nil ?_
  replace hp := hp.below hB2 hp.lt
  replace hB := hB.trans (hB2.mono hB.size)
  clear hB2
  refine hK5 _ _ ?_
  clear hK5
  cases b with
  | false =>
    refine wp_if_t hE8 9 rfl ?_
    refine wp_seq_k fun K9 hK9 => ?_
    refine wp_region_lit ?_
    refine wpList_val hE8 2 rfl rfl fun K hK => ?_
    go_simp
    refine hK _ _ fun a10 hE10 => ?_
    clear hK K
    clear hE8 a8
    refine wpList_nil ?_
    refine hK9 _ _ ?_
    clear hK9
    refine wp_ret ?_
    simp only [Exit.then]
    refine bodyPost_ret (v := .bool true) (by simp [results, Tryz.results3, go_sem, hE10.get 2 rfl]) hE10.defers ⟨rfl, hB⟩
  | true =>
    refine wp_if_f hE8 9 rfl ?_
    refine wp_skip ?_
    refine hK4 _ _ ?_
    clear hK4
    refine wp_seq_k fun K11 hK11 => ?_
    refine wp_seq_k fun K12 hK12 => ?_
    refine wp_region_lit ?_
    refine wpList_val hE8 10 rfl rfl fun K hK => ?_
    have e1 := hE8.get 1 rfl
    go_simp
    refine hK _ _ fun a13 hE13 => ?_
    clear hK K e1
    clear hE8 a8
    refine wpList_val hE13 11 rfl rfl fun K hK => ?_
    have e10 := hE13.get 10 rfl
    have c0 : w2.cell? ⟨w.heap.size, 0, none⟩ = some (.int .i64 (7)) := (hp.cell 0).trans (by rw [← Hk.out]; rfl)
    have hz0 : w.heap.size < w2.heap.size := hp.lt
    go_simp
    refine hK _ _ fun a14 hE14 => ?_
    clear hK K e10
    clear hE13 a13
    clear c0 hz0
    refine wpList_nil ?_
    refine hK12 _ _ ?_
    clear hK12
    refine wp_block ?_
    refine wp_seq_k fun K15 hK15 => ?_
    refine wp_seq_k fun K16 hK16 => ?_
    refine wp_region_lit ?_
    refine wpList_val hE14 13 rfl rfl fun K hK => ?_
    have e11 := hE14.get 11 rfl
    go_simp
    refine hK _ _ fun a17 hE17 => ?_
    clear hK K e11
    clear hE14 a14
    refine wpList_val hE17 12 rfl rfl fun K hK => ?_
    have e13 := hE17.get 13 rfl
    go_simp
    refine hK _ _ fun a18 hE18 => ?_
    clear hK K e13
    clear hE17 a17
    refine wpList_nil ?_
    refine hK16 _ _ ?_
    clear hK16
    refine wp_if_f hE18 12 rfl ?_
    refine wp_seq_k fun K19 hK19 => ?_
    refine wp_region_lit ?_
    refine wpList_val hE18 14 rfl rfl fun K hK => ?_
    have e11 := hE18.get 11 rfl
    go_simp
    refine hK _ _ fun a20 hE20 => ?_
    clear hK K e11
    clear hE18 a18
    refine wpList_val hE20 12 rfl rfl fun K hK => ?_
    have e14 := hE20.get 14 rfl
    go_simp
    refine hK _ _ fun a21 hE21 => ?_
    clear hK K e14
    clear hE20 a20
    refine wpList_nil ?_
    refine hK19 _ _ ?_
    clear hK19
    refine wp_if_t hE21 12 rfl ?_
    refine wp_skip ?_
    refine hK15 _ _ ?_
    clear hK15
    refine wp_if_t hE21 12 rfl ?_
    refine wp_skip ?_
    refine hK11 _ _ ?_
    clear hK11
    refine wp_seq_k fun K22 hK22 => ?_
    obtain ⟨hpn, hsn⟩ := hb rfl
    clear hb
    refine wp_region_lit ?_
    refine wpList_val hE21 18 rfl rfl fun K hK => ?_
    have e1 := hE21.get 1 rfl
    refine wp_load_blk 38 (.tmp 1) rfl w.heap.size (hE21.ev 1 rfl) 38 p.cells _ hp Tryz.underlying38 rfl (by kernel_rfl) ?_
    refine hK _ _ fun a23 hE23 => ?_
    clear hK K e1
    clear hE21 a21
    refine wpList_val hE23 19 rfl rfl fun K hK => ?_
    have e18 := hE23.get 18 rfl
    go_simp
    refine (legalK_7 p w2 Hk.out ((h.below hB).more hB.size) hO hpn hsn).mono ?_
    rintro e w3 hL
    obtain ⟨c, ok, v, he, hyes, hB3⟩ : ∃ (c : Pkt) (ok : Bool) (v : Value), e = .returned (.tuple #[.agg c.cells, v, .bool ok]) ∧ (ok = true → c = (⟨p.kind, p.sender, p.media, 0, 0, 0, 0, Sl.nil, Sl.nil, Sl.nil, Sl.nil, ByteArray.empty, 0, Sl.nil, Sl.nil, Sl.nil, Sl.nil, 0, Sl.nil, 0, 0, 0, 0, 0, Sl.nil, Sl.nil, false, 0, 0, 0⟩ : Pkt) ∧ (true) = true) ∧ Below w2.heap.size w2 w3 := by
      rcases hL with ⟨h1, h2, g, cap, h3, -, h5⟩ | ⟨-, h3, h5⟩
      · exact ⟨_, _, _, h3, fun _ => ⟨rfl, h1⟩, h5⟩
      · exact ⟨_, _, _, h3, (fun h => by cases h), h5⟩
    subst he
    clear hL
    refine hK _ _ fun a24 hE24 => ?_
    clear hK K e18
    clear hE23 a23
    refine wpList_val hE24 17 rfl rfl fun K hK => ?_
    have e19 := hE24.get 19 rfl
    go_simp
    refine hK _ _ fun a25 hE25 => ?_
    clear hK K e19
    clear hE24 a24
    refine wpList_val hE25 20 rfl rfl fun K hK => ?_
    have e17 := hE25.get 17 rfl
    go_simp
    refine hK _ _ fun a26 hE26 => ?_
    clear hK K e17
    clear hE25 a25
    refine wpList_val hE26 21 rfl rfl fun K hK => ?_
    have e17 := hE26.get 17 rfl
    go_simp
    refine hK _ _ fun a27 hE27 => ?_
    clear hK K e17
    clear hE26 a26
    refine wpList_val hE27 22 rfl rfl fun K hK => ?_
    have e17 := hE27.get 17 rfl
    go_simp
    refine hK _ _ fun a28 hE28 => ?_
    clear hK K e17
    clear hE27 a27
    refine wpList_val hE28 3 rfl rfl fun K hK => ?_
    go_simp
    refine hK _ _ fun a29 hE29 => ?_
    clear hK K
    clear hE28 a28
    refine wpList_none rfl fun K hK => ?_
    have e3 := hE29.get 3 rfl
    have e20 := hE29.get 20 rfl
    refine wp_store_blk 38 (.tmp 3) (.tmp 20) rfl w3.heap.size Pkt.zero.cells c.cells 38 (hE29.ev 3 rfl) (hE29.ev 20 rfl) (blk_new w3 38 Pkt.zero.cells rfl) rfl (by kernel_rfl) (pkt_one _) fun w4 hc4 hg4 hz4 => ?_
    refine hK undef _ ?_
    clear hK K e3 e20
    have hp4 := ((hp.below hB3 hp.lt).alloc (.cells Pkt.zero.cells 38)).grown hg4 (by have := hp.lt; have := hB3.size; simp; omega)
    have hB4 : Below w.heap.size w w4 := ((hB.trans (hB3.mono hB.size)).alloc (hB.trans (hB3.mono hB.size)).size _).grown hg4 (by have := hB.size; have := hB3.size; simp; omega) (fun j hj => by injection hj with hj; have := hB.size; have := hB3.size; omega)
    have hz3 := hc4.lt
    clear hg4 hz4
    refine wpList_val hE29 4 rfl rfl fun K hK => ?_
    have e21 := hE29.get 21 rfl
    go_simp
    refine hK _ _ fun a31 hE31 => ?_
    clear hK K e21
    clear hE29 a29
    refine wpList_val hE31 5 rfl rfl fun K hK => ?_
    have e22 := hE31.get 22 rfl
    go_simp
    refine hK _ _ fun a32 hE32 => ?_
    clear hK K e22
    clear hE31 a31
    refine wpList_nil ?_
    refine hK22 _ _ ?_
    clear hK22
    refine wp_seq_k fun K33 hK33 => ?_
    refine wp_seq_k fun K34 hK34 => ?_
    refine wp_region_lit ?_
    refine wpList_val hE32 23 rfl rfl fun K hK => ?_
    have e5 := hE32.get 5 rfl
    go_simp
    refine hK _ _ fun a35 hE35 => ?_
    clear hK K e5
    clear hE32 a32
    refine wpList_val hE35 24 rfl rfl fun K hK => ?_
    have e23 := hE35.get 23 rfl
    go_simp
    refine hK _ _ fun a36 hE36 => ?_
    clear hK K e23
    clear hE35 a35
    refine wpList_nil ?_
    refine hK34 _ _ ?_
    clear hK34
    cases ok with
    | false =>
      refine wp_if_t hE36 24 rfl ?_
      refine wp_seq_k fun K37 hK37 => ?_
      refine wp_region_lit ?_
      refine wpList_val hE36 2 rfl rfl fun K hK => ?_
      go_simp
      refine hK _ _ fun a38 hE38 => ?_
      clear hK K
      clear hE36 a36
      refine wpList_nil ?_
      refine hK37 _ _ ?_
      clear hK37
      refine wp_ret ?_
      simp only [Exit.then]
      refine bodyPost_ret (v := .bool true) (by simp [results, Tryz.results3, go_sem, hE38.get 2 rfl]) hE38.defers ⟨rfl, hB4⟩
    | true =>
      refine wp_if_f hE36 24 rfl ?_
      refine wp_skip ?_
      refine hK33 _ _ ?_
      clear hK33
      refine wp_seq_k fun K39 hK39 => ?_
      obtain ⟨hcq, hok⟩ := hyes rfl
      clear hyes
      have hcp : c.pairs.Lies w4 w4.heap.size 2 Pair.cells := by rw [hcq]; exact Reads.none_
      have hcs : c.slices.Lies w4 w4.heap.size 3 Slc.cells := by rw [hcq]; exact Reads.none_
      have hl1 : c.pairs.l.length ≤ 253 := by rw [hcq]; show 0 ≤ 253; omega
      have hl2 : c.slices.l.length ≤ 253 := by rw [hcq]; show 0 ≤ 253; omega
      have hG := given_flat c w4 (by rw [hcq]; rfl) (by rw [hcq]; rfl) (by rw [hcq]; rfl) (by rw [hcq]; rfl) (by rw [hcq]; rfl) (by rw [hcq]; rfl) hcp hcs (by omega) (by omega)
      have hcm : c.media = p.media := by rw [hcq]
      have hck : c.kind = 7 := by rw [hcq]; exact Hk.out
      have HG := Lib.hid hG
      have Hcm := Lib.hid hcm
      have Hck := Lib.hid hck
      clear hG hcm hck hcq hcp hcs hok
      refine wp_region_lit ?_
      refine wpList_val hE36 25 rfl rfl fun K hK => ?_
      have e3 := hE36.get 3 rfl
      refine wp_load_blk 38 (.tmp 3) rfl w3.heap.size (hE36.ev 3 rfl) 38 c.cells _ hc4 Tryz.underlying38 rfl (by kernel_rfl) ?_
      refine hK _ _ fun a40 hE40 => ?_
      clear hK K e3
      clear hE36 a36
      refine wpList_val hE40 26 rfl rfl fun K hK => ?_
      have e25 := hE40.get 25 rfl
      go_simp
      refine HG.out.mono ?_
      rintro e w5 ⟨s1, s2, hs1, hs2, rfl, hr1, hr2, hB5⟩
      refine hK _ _ fun a41 hE41 => ?_
      clear hK K e25
      clear hE40 a40
      refine wpList_val hE41 27 rfl rfl fun K hK => ?_
      have e26 := hE41.get 26 rfl
      go_simp
      refine (destK_7 (⟨c.kind, c.sender, c.media, c.ntp, c.rtp, c.packets, c.octets, Sl.nil, c.ext, Sl.nil, c.sources, c.text, c.sub, c.data, s1, s2, Sl.nil, c.bits, Sl.nil, c.time, c.base, c.count, c.ref, c.fb, Sl.nil, Sl.nil, c.hpad, c.hcount, c.htype, c.hlen⟩ : Pkt) w5 Hck.out hr1 (by show s1.l.length ≤ _; rw [hs1]; omega) hr2 (by show s2.l.length ≤ _; rw [hs2]; omega)).mono ?_
      rintro e w6 ⟨g, cap, rfl, hown6, hB6⟩
      refine hK _ _ fun a42 hE42 => ?_
      clear hK K e26
      clear hE41 a41
      refine wpList_val hE42 6 rfl rfl fun K hK => ?_
      have e27 := hE42.get 27 rfl
      go_simp
      refine hK _ _ fun a43 hE43 => ?_
      clear hK K e27
      clear hE42 a42
      refine wpList_nil ?_
      have hp6 := (hp4.below hB5 hp4.lt).below hB6 (by have := hp4.lt; have := hB5.size; omega)
      have hB7 : Below w.heap.size w w6 := hB4.trans ((hB5.trans (hB6.mono hB5.size)).mono hB4.size)
      have hm6 : w6.cell? ⟨g, 0, none⟩ = some (.int .u32 p.media) := by
        have := hown6.cellAt 0 (by simp)
        rw [this]
        exact congrArg some (congrArg (Value.int .u32) Hcm.out)
      have hgl : g < w6.heap.size := (hown6.lt g rfl).2
      refine hK39 _ _ ?_
      clear hK39
      refine wp_seq_k fun K44 hK44 => ?_
      refine fbR13 p w w6 _ g cap (hE43.keep ⟨hE43.get 1 rfl, hE43.get 6 rfl, trivial⟩) hp6 hm6 hgl _ fun a7 nq hE7 => ?_
      clear hE43 a43
      refine hK44 _ _ ?_
      clear hK44
      refine wp_ret ?_
      refine bodyPost_ret (v := .bool true) (by simp [results, Tryz.results3, go_sem, hE7.get 2 rfl]) hE7.defers ⟨rfl, below_drewN hB7 nq⟩

set_option maxHeartbeats 4000000 in
set_option maxRecDepth 100000 in
theorem law_9 (p : Pkt) (w : World) (hk : p.kind = 9) (h : p.Lies w w.heap.size) (hO : p.Ok2) :
    Calls Tryz.prog 3 #[.agg p.cells] w fun e w' => e = .returned (.bool true) ∧ Below w.heap.size w w' := by
  have Hk := Lib.hid hk
  clear hk
  refine calls_of_wp Tryz.func3 rfl ?_
  rw [Tryz.ntmps3]
  have hE0 : Env 39 [(0, .agg p.cells)] ⟨#[.agg p.cells] ++ Array.replicate (39 - (#[.agg p.cells] : Array Value).size) undef, []⟩ := Env.enter _ (by simp) ⟨by simp, trivial⟩
  generalize (⟨#[.agg p.cells] ++ Array.replicate (39 - (#[.agg p.cells] : Array Value).size) undef, []⟩ : Act) = a0 at hE0 ⊢
  refine wp_seq_k fun K1 hK1 => ?_
  refine wp_region_lit ?_
  refine wpList_val hE0 1 rfl rfl fun K hK => ?_
  have e0 := hE0.get 0 rfl
  go_simp
  refine hK _ _ fun a2 hE2 => ?_
  clear hK K e0
  clear hE0 a0
  refine wpList_val hE2 2 rfl rfl fun K hK => ?_
  go_simp
  refine hK _ _ fun a3 hE3 => ?_
  clear hK K
  clear hE2 a2
  refine wpList_nil ?_
  have hp := blk_new w 38 p.cells rfl
  have hB : Below w.heap.size w (w.alloc (.cells p.cells 38)) := (Below.refl _ _).alloc (Nat.le_refl _) _
  have hgoal : ∀ w1, Blk w1 w.heap.size 38 p.cells → Below w.heap.size w w1 → K1 a3 w1 := ?_
  · exact hgoal _ hp hB
  clear hp hB
  intro w1 hp hB
  refine hK1 _ _ ?_
  clear hK1
  refine wp_seq_k fun K4 hK4 => ?_
  refine wp_seq_k fun K5 hK5 => ?_
  refine wp_region_lit ?_
  refine wpList_val hE3 7 rfl rfl fun K hK => ?_
  have e1 := hE3.get 1 rfl
  refine wp_load_blk 38 (.tmp 1) rfl w.heap.size (hE3.ev 1 rfl) 38 p.cells _ hp Tryz.underlying38 rfl (by kernel_rfl) ?_
  refine hK _ _ fun a6 hE6 => ?_
  clear hK K e1
  clear hE3 a3
  refine wpList_val hE6 8 rfl rfl fun K hK => ?_
  have e7 := hE6.get 7 rfl
  go_simp
  refine (zzFits1_any p w1 ((h.below hB).more hB.size)).mono ?_
  rintro e w2 ⟨b, rfl, hb, hB2⟩
  refine hK _ _ fun a7 hE7 => ?_
  clear hK K e7
  clear hE6 a6
  refine wpList_val hE7 9 rfl rfl fun K hK => ?_
  have e8 := hE7.get 8 rfl
  go_simp
  refine hK _ _ fun a8 hE8 => ?_
  clear hK K e8
  clear hE7 a7
  refine wpList_nil ?_
  replace hp := hp.below hB2 hp.lt
  replace hB := hB.trans (hB2.mono hB.size)
  clear hB2
  refine hK5 _ _ ?_
  clear hK5
  cases b with
  | false =>
    refine wp_if_t hE8 9 rfl ?_
    refine wp_seq_k fun K9 hK9 => ?_
    refine wp_region_lit ?_
    refine wpList_val hE8 2 rfl rfl fun K hK => ?_
    go_simp
    refine hK _ _ fun a10 hE10 => ?_
    clear hK K
    clear hE8 a8
    refine wpList_nil ?_
    refine hK9 _ _ ?_
    clear hK9
    refine wp_ret ?_
    simp only [Exit.then]
    refine bodyPost_ret (v := .bool true) (by simp [results, Tryz.results3, go_sem, hE10.get 2 rfl]) hE10.defers ⟨rfl, hB⟩
  | true =>
    refine wp_if_f hE8 9 rfl ?_
    refine wp_skip ?_
    refine hK4 _ _ ?_
    clear hK4
    refine wp_seq_k fun K11 hK11 => ?_
    refine wp_seq_k fun K12 hK12 => ?_
    refine wp_region_lit ?_
    refine wpList_val hE8 10 rfl rfl fun K hK => ?_
    have e1 := hE8.get 1 rfl
    go_simp
    refine hK _ _ fun a13 hE13 => ?_
    clear hK K e1
    clear hE8 a8
    refine wpList_val hE13 11 rfl rfl fun K hK => ?_
    have e10 := hE13.get 10 rfl
    have c0 : w2.cell? ⟨w.heap.size, 0, none⟩ = some (.int .i64 (9)) := (hp.cell 0).trans (by rw [← Hk.out]; rfl)
    have hz0 : w.heap.size < w2.heap.size := hp.lt
    go_simp
    refine hK _ _ fun a14 hE14 => ?_
    clear hK K e10
    clear hE13 a13
    clear c0 hz0
    refine wpList_nil ?_
    refine hK12 _ _ ?_
    clear hK12
    refine wp_block ?_
    refine wp_seq_k fun K15 hK15 => ?_
    refine wp_seq_k fun K16 hK16 => ?_
    refine wp_region_lit ?_
    refine wpList_val hE14 13 rfl rfl fun K hK => ?_
    have e11 := hE14.get 11 rfl
    go_simp
    refine hK _ _ fun a17 hE17 => ?_
    clear hK K e11
    clear hE14 a14
    refine wpList_val hE17 12 rfl rfl fun K hK => ?_
    have e13 := hE17.get 13 rfl
    go_simp
    refine hK _ _ fun a18 hE18 => ?_
    clear hK K e13
    clear hE17 a17
    refine wpList_nil ?_
    refine hK16 _ _ ?_
    clear hK16
    refine wp_if_f hE18 12 rfl ?_
    refine wp_seq_k fun K19 hK19 => ?_
    refine wp_region_lit ?_
    refine wpList_val hE18 14 rfl rfl fun K hK => ?_
    have e11 := hE18.get 11 rfl
    go_simp
    refine hK _ _ fun a20 hE20 => ?_
    clear hK K e11
    clear hE18 a18
    refine wpList_val hE20 12 rfl rfl fun K hK => ?_
    have e14 := hE20.get 14 rfl
    go_simp
    refine hK _ _ fun a21 hE21 => ?_
    clear hK K e14
    clear hE20 a20
    refine wpList_nil ?_
    refine hK19 _ _ ?_
    clear hK19
    refine wp_if_f hE21 12 rfl ?_
    refine wp_seq_k fun K22 hK22 => ?_
    refine wp_region_lit ?_
    refine wpList_val hE21 15 rfl rfl fun K hK => ?_
    have e11 := hE21.get 11 rfl
    go_simp
    refine hK _ _ fun a23 hE23 => ?_
    clear hK K e11
    clear hE21 a21
    refine wpList_val hE23 12 rfl rfl fun K hK => ?_
    have e15 := hE23.get 15 rfl
    go_simp
    refine hK _ _ fun a24 hE24 => ?_
    clear hK K e15
    clear hE23 a23
    refine wpList_nil ?_
    refine hK22 _ _ ?_
    clear hK22
    refine wp_if_t hE24 12 rfl ?_
    refine wp_skip ?_
    refine hK15 _ _ ?_
    clear hK15
    refine wp_if_t hE24 12 rfl ?_
    refine wp_skip ?_
    refine hK11 _ _ ?_
    clear hK11
    refine wp_seq_k fun K25 hK25 => ?_
    obtain ⟨hpn, hsn⟩ := hb rfl
    clear hb
    refine wp_region_lit ?_
    refine wpList_val hE24 18 rfl rfl fun K hK => ?_
    have e1 := hE24.get 1 rfl
    refine wp_load_blk 38 (.tmp 1) rfl w.heap.size (hE24.ev 1 rfl) 38 p.cells _ hp Tryz.underlying38 rfl (by kernel_rfl) ?_
    refine hK _ _ fun a26 hE26 => ?_
    clear hK K e1
    clear hE24 a24
    refine wpList_val hE26 19 rfl rfl fun K hK => ?_
    have e18 := hE26.get 18 rfl
    go_simp
    refine (legalK_9 p w2 Hk.out ((h.below hB).more hB.size) hO hpn hsn).mono ?_
    rintro e w3 hL
    obtain ⟨c, ok, v, he, hyes, hB3⟩ : ∃ (c : Pkt) (ok : Bool) (v : Value), e = .returned (.tuple #[.agg c.cells, v, .bool ok]) ∧ (ok = true → c = (⟨p.kind, p.sender, p.media, 0, 0, 0, 0, Sl.nil, Sl.nil, Sl.nil, Sl.nil, ByteArray.empty, 0, Sl.nil, Sl.nil, Sl.nil, Sl.nil, 0, Sl.nil, 0, 0, 0, 0, 0, Sl.nil, Sl.nil, false, 0, 0, 0⟩ : Pkt) ∧ (true) = true) ∧ Below w2.heap.size w2 w3 := by
      rcases hL with ⟨h1, h2, g, cap, h3, -, h5⟩ | ⟨-, h3, h5⟩
      · exact ⟨_, _, _, h3, fun _ => ⟨rfl, h1⟩, h5⟩
      · exact ⟨_, _, _, h3, (fun h => by cases h), h5⟩
    subst he
    clear hL
    refine hK _ _ fun a27 hE27 => ?_
    clear hK K e18
    clear hE26 a26
    refine wpList_val hE27 17 rfl rfl fun K hK => ?_
    have e19 := hE27.get 19 rfl
    go_simp
    refine hK _ _ fun a28 hE28 => ?_
    clear hK K e19
    clear hE27 a27
    refine wpList_val hE28 20 rfl rfl fun K hK => ?_
    have e17 := hE28.get 17 rfl
    go_simp
    refine hK _ _ fun a29 hE29 => ?_
    clear hK K e17
    clear hE28 a28
    refine wpList_val hE29 21 rfl rfl fun K hK => ?_
    have e17 := hE29.get 17 rfl
    go_simp
    refine hK _ _ fun a30 hE30 => ?_
    clear hK K e17
    clear hE29 a29
    refine wpList_val hE30 22 rfl rfl fun K hK => ?_
    have e17 := hE30.get 17 rfl
    go_simp
    refine hK _ _ fun a31 hE31 => ?_
    clear hK K e17
    clear hE30 a30
    refine wpList_val hE31 3 rfl rfl fun K hK => ?_
    go_simp
    refine hK _ _ fun a32 hE32 => ?_
    clear hK K
    clear hE31 a31
    refine wpList_none rfl fun K hK => ?_
    have e3 := hE32.get 3 rfl
    have e20 := hE32.get 20 rfl
    refine wp_store_blk 38 (.tmp 3) (.tmp 20) rfl w3.heap.size Pkt.zero.cells c.cells 38 (hE32.ev 3 rfl) (hE32.ev 20 rfl) (blk_new w3 38 Pkt.zero.cells rfl) rfl (by kernel_rfl) (pkt_one _) fun w4 hc4 hg4 hz4 => ?_
    refine hK undef _ ?_
    clear hK K e3 e20
    have hp4 := ((hp.below hB3 hp.lt).alloc (.cells Pkt.zero.cells 38)).grown hg4 (by have := hp.lt; have := hB3.size; simp; omega)
    have hB4 : Below w.heap.size w w4 := ((hB.trans (hB3.mono hB.size)).alloc (hB.trans (hB3.mono hB.size)).size _).grown hg4 (by have := hB.size; have := hB3.size; simp; omega) (fun j hj => by injection hj with hj; have := hB.size; have := hB3.size; omega)
    have hz3 := hc4.lt
    clear hg4 hz4
    refine wpList_val hE32 4 rfl rfl fun K hK => ?_
    have e21 := hE32.get 21 rfl
    go_simp
    refine hK _ _ fun a34 hE34 => ?_
    clear hK K e21
    clear hE32 a32
    refine wpList_val hE34 5 rfl rfl fun K hK => ?_
    have e22 := hE34.get 22 rfl
    go_simp
    refine hK _ _ fun a35 hE35 => ?_
    clear hK K e22
    clear hE34 a34
    refine wpList_nil ?_
    refine hK25 _ _ ?_
    clear hK25
    refine wp_seq_k fun K36 hK36 => ?_
    refine wp_seq_k fun K37 hK37 => ?_
    refine wp_region_lit ?_
    refine wpList_val hE35 23 rfl rfl fun K hK => ?_
    have e5 := hE35.get 5 rfl
    go_simp
    refine hK _ _ fun a38 hE38 => ?_
    clear hK K e5
    clear hE35 a35
    refine wpList_val hE38 24 rfl rfl fun K hK => ?_
    have e23 := hE38.get 23 rfl
    go_simp
    refine hK _ _ fun a39 hE39 => ?_
    clear hK K e23
    clear hE38 a38
    refine wpList_nil ?_
    refine hK37 _ _ ?_
    clear hK37
    cases ok with
    | false =>
      refine wp_if_t hE39 24 rfl ?_
      refine wp_seq_k fun K40 hK40 => ?_
      refine wp_region_lit ?_
      refine wpList_val hE39 2 rfl rfl fun K hK => ?_
      go_simp
      refine hK _ _ fun a41 hE41 => ?_
      clear hK K
      clear hE39 a39
      refine wpList_nil ?_
      refine hK40 _ _ ?_
      clear hK40
      refine wp_ret ?_
      simp only [Exit.then]
      refine bodyPost_ret (v := .bool true) (by simp [results, Tryz.results3, go_sem, hE41.get 2 rfl]) hE41.defers ⟨rfl, hB4⟩
    | true =>
      refine wp_if_f hE39 24 rfl ?_
      refine wp_skip ?_
      refine hK36 _ _ ?_
      clear hK36
      refine wp_seq_k fun K42 hK42 => ?_
      obtain ⟨hcq, hok⟩ := hyes rfl
      clear hyes
      have hcp : c.pairs.Lies w4 w4.heap.size 2 Pair.cells := by rw [hcq]; exact Reads.none_
      have hcs : c.slices.Lies w4 w4.heap.size 3 Slc.cells := by rw [hcq]; exact Reads.none_
      have hl1 : c.pairs.l.length ≤ 253 := by rw [hcq]; show 0 ≤ 253; omega
      have hl2 : c.slices.l.length ≤ 253 := by rw [hcq]; show 0 ≤ 253; omega
      have hG := given_flat c w4 (by rw [hcq]; rfl) (by rw [hcq]; rfl) (by rw [hcq]; rfl) (by rw [hcq]; rfl) (by rw [hcq]; rfl) (by rw [hcq]; rfl) hcp hcs (by omega) (by omega)
      have hcm : c.media = p.media := by rw [hcq]
      have hck : c.kind = 9 := by rw [hcq]; exact Hk.out
      have HG := Lib.hid hG
      have Hcm := Lib.hid hcm
      have Hck := Lib.hid hck
      clear hG hcm hck hcq hcp hcs hok
      refine wp_region_lit ?_
      refine wpList_val hE39 25 rfl rfl fun K hK => ?_
      have e3 := hE39.get 3 rfl
      refine wp_load_blk 38 (.tmp 3) rfl w3.heap.size (hE39.ev 3 rfl) 38 c.cells _ hc4 Tryz.underlying38 rfl (by kernel_rfl) ?_
      refine hK _ _ fun a43 hE43 => ?_
      clear hK K e3
      clear hE39 a39
      refine wpList_val hE43 26 rfl rfl fun K hK => ?_
      have e25 := hE43.get 25 rfl
      go_simp
      refine HG.out.mono ?_
      rintro e w5 ⟨s1, s2, hs1, hs2, rfl, hr1, hr2, hB5⟩
      refine hK _ _ fun a44 hE44 => ?_
      clear hK K e25
      clear hE43 a43
      refine wpList_val hE44 27 rfl rfl fun K hK => ?_
      have e26 := hE44.get 26 rfl
      go_simp
      refine (destK_9 (⟨c.kind, c.sender, c.media, c.ntp, c.rtp, c.packets, c.octets, Sl.nil, c.ext, Sl.nil, c.sources, c.text, c.sub, c.data, s1, s2, Sl.nil, c.bits, Sl.nil, c.time, c.base, c.count, c.ref, c.fb, Sl.nil, Sl.nil, c.hpad, c.hcount, c.htype, c.hlen⟩ : Pkt) w5 Hck.out hr1 (by show s1.l.length ≤ _; rw [hs1]; omega) hr2 (by show s2.l.length ≤ _; rw [hs2]; omega)).mono ?_
      rintro e w6 ⟨g, cap, rfl, hown6, hB6⟩
      refine hK _ _ fun a45 hE45 => ?_
      clear hK K e26
      clear hE44 a44
      refine wpList_val hE45 6 rfl rfl fun K hK => ?_
      have e27 := hE45.get 27 rfl
      go_simp
      refine hK _ _ fun a46 hE46 => ?_
      clear hK K e27
      clear hE45 a45
      refine wpList_nil ?_
      have hp6 := (hp4.below hB5 hp4.lt).below hB6 (by have := hp4.lt; have := hB5.size; omega)
      have hB7 : Below w.heap.size w w6 := hB4.trans ((hB5.trans (hB6.mono hB5.size)).mono hB4.size)
      have hm6 : w6.cell? ⟨g, 0, none⟩ = some (.int .u32 p.media) := by
        have := hown6.cellAt 0 (by simp)
        rw [this]
        exact congrArg some (congrArg (Value.int .u32) Hcm.out)
      have hgl : g < w6.heap.size := (hown6.lt g rfl).2
      refine hK42 _ _ ?_
      clear hK42
      refine wp_seq_k fun K47 hK47 => ?_
      refine fbR13 p w w6 _ g cap (hE46.keep ⟨hE46.get 1 rfl, hE46.get 6 rfl, trivial⟩) hp6 hm6 hgl _ fun a7 nq hE7 => ?_
      clear hE46 a46
      refine hK47 _ _ ?_
      clear hK47
      refine wp_ret ?_
      refine bodyPost_ret (v := .bool true) (by simp [results, Tryz.results3, go_sem, hE7.get 2 rfl]) hE7.defers ⟨rfl, below_drewN hB7 nq⟩

set_option maxHeartbeats 4000000 in
set_option maxRecDepth 100000 in
theorem law_10 (p : Pkt) (w : World) (hk : p.kind = 10) (h : p.Lies w w.heap.size) (hO : p.Ok2) :
    Calls Tryz.prog 3 #[.agg p.cells] w fun e w' => e = .returned (.bool true) ∧ Below w.heap.size w w' := by
  have Hk := Lib.hid hk
  clear hk
  refine calls_of_wp Tryz.func3 rfl ?_
  rw [Tryz.ntmps3]
  have hE0 : Env 39 [(0, .agg p.cells)] ⟨#[.agg p.cells] ++ Array.replicate (39 - (#[.agg p.cells] : Array Value).size) undef, []⟩ := Env.enter _ (by simp) ⟨by simp, trivial⟩
  generalize (⟨#[.agg p.cells] ++ Array.replicate (39 - (#[.agg p.cells] : Array Value).size) undef, []⟩ : Act) = a0 at hE0 ⊢
  refine wp_seq_k fun K1 hK1 => ?_
  refine wp_region_lit ?_
  refine wpList_val hE0 1 rfl rfl fun K hK => ?_
  have e0 := hE0.get 0 rfl
  go_simp
  refine hK _ _ fun a2 hE2 => ?_
  clear hK K e0
  clear hE0 a0
  refine wpList_val hE2 2 rfl rfl fun K hK => ?_
  go_simp
  refine hK _ _ fun a3 hE3 => ?_
  clear hK K
  clear hE2 a2
  refine wpList_nil ?_
  have hp := blk_new w 38 p.cells rfl
  have hB : Below w.heap.size w (w.alloc (.cells p.cells 38)) := (Below.refl _ _).alloc (Nat.le_refl _) _
  have hgoal : ∀ w1, Blk w1 w.heap.size 38 p.cells → Below w.heap.size w w1 → K1 a3 w1 := ?_
  · exact hgoal _ hp hB
  clear hp hB
  intro w1 hp hB
  refine hK1 _ _ ?_
  clear hK1
  refine wp_seq_k fun K4 hK4 => ?_
  refine wp_seq_k fun K5 hK5 => ?_
  refine wp_region_lit ?_
  refine wpList_val hE3 7 rfl rfl fun K hK => ?_
  have e1 := hE3.get 1 rfl
  refine wp_load_blk 38 (.tmp 1) rfl w.heap.size (hE3.ev 1 rfl) 38 p.cells _ hp Tryz.underlying38 rfl (by kernel_rfl) ?_
  refine hK _ _ fun a6 hE6 => ?_
  clear hK K e1
  clear hE3 a3
  refine wpList_val hE6 8 rfl rfl fun K hK => ?_
  have e7 := hE6.get 7 rfl
  go_simp
  refine (zzFits1_any p w1 ((h.below hB).more hB.size)).mono ?_
  rintro e w2 ⟨b, rfl, hb, hB2⟩
  refine hK _ _ fun a7 hE7 => ?_
  clear hK K e7
  clear hE6 a6
  refine wpList_val hE7 9 rfl rfl fun K hK => ?_
  have e8 := hE7.get 8 rfl
  go_simp
  refine hK _ _ fun a8 hE8 => ?_
  clear hK K e8
  clear hE7 a7
  refine wpList_nil ?_
  replace hp := hp.below hB2 hp.lt
  replace hB := hB.trans (hB2.mono hB.size)
  clear hB2
  refine hK5 _ _ ?_
  clear hK5
  cases b with
  | false =>
    refine wp_if_t hE8 9 rfl ?_
    refine wp_seq_k fun K9 hK9 => ?_
    refine wp_region_lit ?_
    refine wpList_val hE8 2 rfl rfl fun K hK => ?_
    go_simp
    refine hK _ _ fun a10 hE10 => ?_
    clear hK K
    clear hE8 a8
    refine wpList_nil ?_
    refine hK9 _ _ ?_
    clear hK9
    refine wp_ret ?_
    simp only [Exit.then]
    refine bodyPost_ret (v := .bool true) (by simp [results, Tryz.results3, go_sem, hE10.get 2 rfl]) hE10.defers ⟨rfl, hB⟩
  | true =>
    refine wp_if_f hE8 9 rfl ?_
    refine wp_skip ?_
    refine hK4 _ _ ?_
    clear hK4
    refine wp_seq_k fun K11 hK11 => ?_
    refine wp_seq_k fun K12 hK12 => ?_
    refine wp_region_lit ?_
    refine wpList_val hE8 10 rfl rfl fun K hK => ?_
    have e1 := hE8.get 1 rfl
    go_simp
    refine hK _ _ fun a13 hE13 => ?_
    clear hK K e1
    clear hE8 a8
    refine wpList_val hE13 11 rfl rfl fun K hK => ?_
    have e10 := hE13.get 10 rfl
    have c0 : w2.cell? ⟨w.heap.size, 0, none⟩ = some (.int .i64 (10)) := (hp.cell 0).trans (by rw [← Hk.out]; rfl)
    have hz0 : w.heap.size < w2.heap.size := hp.lt
    go_simp
    refine hK _ _ fun a14 hE14 => ?_
    clear hK K e10
    clear hE13 a13
    clear c0 hz0
    refine wpList_nil ?_
    refine hK12 _ _ ?_
    clear hK12
    refine wp_block ?_
    refine wp_seq_k fun K15 hK15 => ?_
    refine wp_seq_k fun K16 hK16 => ?_
    refine wp_region_lit ?_
    refine wpList_val hE14 13 rfl rfl fun K hK => ?_
    have e11 := hE14.get 11 rfl
    go_simp
    refine hK _ _ fun a17 hE17 => ?_
    clear hK K e11
    clear hE14 a14
    refine wpList_val hE17 12 rfl rfl fun K hK => ?_
    have e13 := hE17.get 13 rfl
    go_simp
    refine hK _ _ fun a18 hE18 => ?_
    clear hK K e13
    clear hE17 a17
    refine wpList_nil ?_
    refine hK16 _ _ ?_
    clear hK16
    refine wp_if_f hE18 12 rfl ?_
    refine wp_seq_k fun K19 hK19 => ?_
    refine wp_region_lit ?_
    refine wpList_val hE18 14 rfl rfl fun K hK => ?_
    have e11 := hE18.get 11 rfl
    go_simp
    refine hK _ _ fun a20 hE20 => ?_
    clear hK K e11
    clear hE18 a18
    refine wpList_val hE20 12 rfl rfl fun K hK => ?_
    have e14 := hE20.get 14 rfl
    go_simp
    refine hK _ _ fun a21 hE21 => ?_
    clear hK K e14
    clear hE20 a20
    refine wpList_nil ?_
    refine hK19 _ _ ?_
    clear hK19
    refine wp_if_f hE21 12 rfl ?_
    refine wp_seq_k fun K22 hK22 => ?_
    refine wp_region_lit ?_
    refine wpList_val hE21 15 rfl rfl fun K hK => ?_
    have e11 := hE21.get 11 rfl
    go_simp
    refine hK _ _ fun a23 hE23 => ?_
    clear hK K e11
    clear hE21 a21
    refine wpList_val hE23 12 rfl rfl fun K hK => ?_
    have e15 := hE23.get 15 rfl
    go_simp
    refine hK _ _ fun a24 hE24 => ?_
    clear hK K e15
    clear hE23 a23
    refine wpList_nil ?_
    refine hK22 _ _ ?_
    clear hK22
    refine wp_if_f hE24 12 rfl ?_
    refine wp_region_lit ?_
    refine wpList_val hE24 16 rfl rfl fun K hK => ?_
    have e11 := hE24.get 11 rfl
    go_simp
    refine hK _ _ fun a25 hE25 => ?_
    clear hK K e11
    clear hE24 a24
    refine wpList_val hE25 12 rfl rfl fun K hK => ?_
    have e16 := hE25.get 16 rfl
    go_simp
    refine hK _ _ fun a26 hE26 => ?_
    clear hK K e16
    clear hE25 a25
    refine wpList_nil ?_
    refine hK15 _ _ ?_
    clear hK15
    refine wp_if_t hE26 12 rfl ?_
    refine wp_skip ?_
    refine hK11 _ _ ?_
    clear hK11
    refine wp_seq_k fun K27 hK27 => ?_
    obtain ⟨hpn, hsn⟩ := hb rfl
    clear hb
    refine wp_region_lit ?_
    refine wpList_val hE26 18 rfl rfl fun K hK => ?_
    have e1 := hE26.get 1 rfl
    refine wp_load_blk 38 (.tmp 1) rfl w.heap.size (hE26.ev 1 rfl) 38 p.cells _ hp Tryz.underlying38 rfl (by kernel_rfl) ?_
    refine hK _ _ fun a28 hE28 => ?_
    clear hK K e1
    clear hE26 a26
    refine wpList_val hE28 19 rfl rfl fun K hK => ?_
    have e18 := hE28.get 18 rfl
    go_simp
    refine (legalK_10 p w2 Hk.out ((h.below hB).more hB.size) hO hpn hsn).mono ?_
    rintro e w3 hL
    obtain ⟨c, ok, v, he, hyes, hB3⟩ : ∃ (c : Pkt) (ok : Bool) (v : Value), e = .returned (.tuple #[.agg c.cells, v, .bool ok]) ∧ (ok = true → c = (⟨p.kind, p.sender, p.media, 0, 0, 0, 0, Sl.nil, Sl.nil, Sl.nil, Sl.nil, ByteArray.empty, 0, Sl.nil, Sl.nil, p.slices, Sl.nil, 0, Sl.nil, 0, 0, 0, 0, 0, Sl.nil, Sl.nil, false, 0, 0, 0⟩ : Pkt) ∧ (((decide (0 < p.slices.l.length) && decide (((p.slices.l.length : Nat) : Int) ≤ 253)) && p.slices.l.all slcOk)) = true) ∧ Below w2.heap.size w2 w3 := by
      rcases hL with ⟨h1, h2, g, cap, h3, -, h5⟩ | ⟨-, h3, h5⟩
      · exact ⟨_, _, _, h3, fun _ => ⟨rfl, h1⟩, h5⟩
      · exact ⟨_, _, _, h3, (fun h => by cases h), h5⟩
    subst he
    clear hL
    refine hK _ _ fun a29 hE29 => ?_
    clear hK K e18
    clear hE28 a28
    refine wpList_val hE29 17 rfl rfl fun K hK => ?_
    have e19 := hE29.get 19 rfl
    go_simp
    refine hK _ _ fun a30 hE30 => ?_
    clear hK K e19
    clear hE29 a29
    refine wpList_val hE30 20 rfl rfl fun K hK => ?_
    have e17 := hE30.get 17 rfl
    go_simp
    refine hK _ _ fun a31 hE31 => ?_
    clear hK K e17
    clear hE30 a30
    refine wpList_val hE31 21 rfl rfl fun K hK => ?_
    have e17 := hE31.get 17 rfl
    go_simp
    refine hK _ _ fun a32 hE32 => ?_
    clear hK K e17
    clear hE31 a31
    refine wpList_val hE32 22 rfl rfl fun K hK => ?_
    have e17 := hE32.get 17 rfl
    go_simp
    refine hK _ _ fun a33 hE33 => ?_
    clear hK K e17
    clear hE32 a32
    refine wpList_val hE33 3 rfl rfl fun K hK => ?_
    go_simp
    refine hK _ _ fun a34 hE34 => ?_
    clear hK K
    clear hE33 a33
    refine wpList_none rfl fun K hK => ?_
    have e3 := hE34.get 3 rfl
    have e20 := hE34.get 20 rfl
    refine wp_store_blk 38 (.tmp 3) (.tmp 20) rfl w3.heap.size Pkt.zero.cells c.cells 38 (hE34.ev 3 rfl) (hE34.ev 20 rfl) (blk_new w3 38 Pkt.zero.cells rfl) rfl (by kernel_rfl) (pkt_one _) fun w4 hc4 hg4 hz4 => ?_
    refine hK undef _ ?_
    clear hK K e3 e20
    have hp4 := ((hp.below hB3 hp.lt).alloc (.cells Pkt.zero.cells 38)).grown hg4 (by have := hp.lt; have := hB3.size; simp; omega)
    have hB4 : Below w.heap.size w w4 := ((hB.trans (hB3.mono hB.size)).alloc (hB.trans (hB3.mono hB.size)).size _).grown hg4 (by have := hB.size; have := hB3.size; simp; omega) (fun j hj => by injection hj with hj; have := hB.size; have := hB3.size; omega)
    have hz3 := hc4.lt
    clear hg4 hz4
    refine wpList_val hE34 4 rfl rfl fun K hK => ?_
    have e21 := hE34.get 21 rfl
    go_simp
    refine hK _ _ fun a36 hE36 => ?_
    clear hK K e21
    clear hE34 a34
    refine wpList_val hE36 5 rfl rfl fun K hK => ?_
    have e22 := hE36.get 22 rfl
    go_simp
    refine hK _ _ fun a37 hE37 => ?_
    clear hK K e22
    clear hE36 a36
    refine wpList_nil ?_
    refine hK27 _ _ ?_
    clear hK27
    refine wp_seq_k fun K38 hK38 => ?_
    refine wp_seq_k fun K39 hK39 => ?_
    refine wp_region_lit ?_
    refine wpList_val hE37 23 rfl rfl fun K hK => ?_
    have e5 := hE37.get 5 rfl
    go_simp
    refine hK _ _ fun a40 hE40 => ?_
    clear hK K e5
    clear hE37 a37
    refine wpList_val hE40 24 rfl rfl fun K hK => ?_
    have e23 := hE40.get 23 rfl
    go_simp
    refine hK _ _ fun a41 hE41 => ?_
    clear hK K e23
    clear hE40 a40
    refine wpList_nil ?_
    refine hK39 _ _ ?_
    clear hK39
    cases ok with
    | false =>
      refine wp_if_t hE41 24 rfl ?_
      refine wp_seq_k fun K42 hK42 => ?_
      refine wp_region_lit ?_
      refine wpList_val hE41 2 rfl rfl fun K hK => ?_
      go_simp
      refine hK _ _ fun a43 hE43 => ?_
      clear hK K
      clear hE41 a41
      refine wpList_nil ?_
      refine hK42 _ _ ?_
      clear hK42
      refine wp_ret ?_
      simp only [Exit.then]
      refine bodyPost_ret (v := .bool true) (by simp [results, Tryz.results3, go_sem, hE43.get 2 rfl]) hE43.defers ⟨rfl, hB4⟩
    | true =>
      refine wp_if_f hE41 24 rfl ?_
      refine wp_skip ?_
      refine hK38 _ _ ?_
      clear hK38
      refine wp_seq_k fun K44 hK44 => ?_
      obtain ⟨hcq, hok⟩ := hyes rfl
      clear hyes
      have hcp : c.pairs.Lies w4 w4.heap.size 2 Pair.cells := by rw [hcq]; exact Reads.none_
      have hcs : c.slices.Lies w4 w4.heap.size 3 Slc.cells := by rw [hcq]; exact (h.slices.below hB4).more hB4.size
      have hl1 : c.pairs.l.length ≤ 253 := by rw [hcq]; show 0 ≤ 253; omega
      have hl2 : c.slices.l.length ≤ 253 := by simp only [Bool.and_eq_true, decide_eq_true_eq] at hok; rw [hcq]; show p.slices.l.length ≤ 253; omega
      have hG := given_flat c w4 (by rw [hcq]; rfl) (by rw [hcq]; rfl) (by rw [hcq]; rfl) (by rw [hcq]; rfl) (by rw [hcq]; rfl) (by rw [hcq]; rfl) hcp hcs (by omega) (by omega)
      have hcm : c.media = p.media := by rw [hcq]
      have hck : c.kind = 10 := by rw [hcq]; exact Hk.out
      have HG := Lib.hid hG
      have Hcm := Lib.hid hcm
      have Hck := Lib.hid hck
      clear hG hcm hck hcq hcp hcs hok
      refine wp_region_lit ?_
      refine wpList_val hE41 25 rfl rfl fun K hK => ?_
      have e3 := hE41.get 3 rfl
      refine wp_load_blk 38 (.tmp 3) rfl w3.heap.size (hE41.ev 3 rfl) 38 c.cells _ hc4 Tryz.underlying38 rfl (by kernel_rfl) ?_
      refine hK _ _ fun a45 hE45 => ?_
      clear hK K e3
      clear hE41 a41
      refine wpList_val hE45 26 rfl rfl fun K hK => ?_
      have e25 := hE45.get 25 rfl
      go_simp
      refine HG.out.mono ?_
      rintro e w5 ⟨s1, s2, hs1, hs2, rfl, hr1, hr2, hB5⟩
      refine hK _ _ fun a46 hE46 => ?_
      clear hK K e25
      clear hE45 a45
      refine wpList_val hE46 27 rfl rfl fun K hK => ?_
      have e26 := hE46.get 26 rfl
      go_simp
      refine (destK_10 (⟨c.kind, c.sender, c.media, c.ntp, c.rtp, c.packets, c.octets, Sl.nil, c.ext, Sl.nil, c.sources, c.text, c.sub, c.data, s1, s2, Sl.nil, c.bits, Sl.nil, c.time, c.base, c.count, c.ref, c.fb, Sl.nil, Sl.nil, c.hpad, c.hcount, c.htype, c.hlen⟩ : Pkt) w5 Hck.out hr1 (by show s1.l.length ≤ _; rw [hs1]; omega) hr2 (by show s2.l.length ≤ _; rw [hs2]; omega)).mono ?_
      rintro e w6 ⟨g, cap, rfl, hown6, hB6⟩
      refine hK _ _ fun a47 hE47 => ?_
      clear hK K e26
      clear hE46 a46
      refine wpList_val hE47 6 rfl rfl fun K hK => ?_
      have e27 := hE47.get 27 rfl
      go_simp
      refine hK _ _ fun a48 hE48 => ?_
      clear hK K e27
      clear hE47 a47
      refine wpList_nil ?_
      have hp6 := (hp4.below hB5 hp4.lt).below hB6 (by have := hp4.lt; have := hB5.size; omega)
      have hB7 : Below w.heap.size w w6 := hB4.trans ((hB5.trans (hB6.mono hB5.size)).mono hB4.size)
      have hm6 : w6.cell? ⟨g, 0, none⟩ = some (.int .u32 p.media) := by
        have := hown6.cellAt 0 (by simp)
        rw [this]
        exact congrArg some (congrArg (Value.int .u32) Hcm.out)
      have hgl : g < w6.heap.size := (hown6.lt g rfl).2
      refine hK44 _ _ ?_
      clear hK44
      refine wp_seq_k fun K49 hK49 => ?_
      refine fbR13 p w w6 _ g cap (hE48.keep ⟨hE48.get 1 rfl, hE48.get 6 rfl, trivial⟩) hp6 hm6 hgl _ fun a7 nq hE7 => ?_
      clear hE48 a48
      refine hK49 _ _ ?_
      clear hK49
      refine wp_ret ?_
      refine bodyPost_ret (v := .bool true) (by simp [results, Tryz.results3, go_sem, hE7.get 2 rfl]) hE7.defers ⟨rfl, below_drewN hB7 nq⟩

set_option maxHeartbeats 4000000 in
set_option maxRecDepth 100000 in
theorem law_other (p : Pkt) (w : World) (h6 : (p.kind == 6) = false) (h7 : (p.kind == 7) = false) (h9 : (p.kind == 9) = false) (h10 : (p.kind == 10) = false) (h : p.Lies w w.heap.size) (hO : p.Ok2) :
    Calls Tryz.prog 3 #[.agg p.cells] w fun e w' => e = .returned (.bool true) ∧ Below w.heap.size w w' := by
  refine calls_of_wp Tryz.func3 rfl ?_
  rw [Tryz.ntmps3]
  have hE0 : Env 39 [(0, .agg p.cells)] ⟨#[.agg p.cells] ++ Array.replicate (39 - (#[.agg p.cells] : Array Value).size) undef, []⟩ := Env.enter _ (by simp) ⟨by simp, trivial⟩
  generalize (⟨#[.agg p.cells] ++ Array.replicate (39 - (#[.agg p.cells] : Array Value).size) undef, []⟩ : Act) = a0 at hE0 ⊢
  refine wp_seq_k fun K1 hK1 => ?_
  refine wp_region_lit ?_
  refine wpList_val hE0 1 rfl rfl fun K hK => ?_
  have e0 := hE0.get 0 rfl
  go_simp
  refine hK _ _ fun a2 hE2 => ?_
  clear hK K e0
  clear hE0 a0
  refine wpList_val hE2 2 rfl rfl fun K hK => ?_
  go_simp
  refine hK _ _ fun a3 hE3 => ?_
  clear hK K
  clear hE2 a2
  refine wpList_nil ?_
  have hp := blk_new w 38 p.cells rfl
  have hB : Below w.heap.size w (w.alloc (.cells p.cells 38)) := (Below.refl _ _).alloc (Nat.le_refl _) _
  have hgoal : ∀ w1, Blk w1 w.heap.size 38 p.cells → Below w.heap.size w w1 → K1 a3 w1 := ?_
  · exact hgoal _ hp hB
  clear hp hB
  intro w1 hp hB
  refine hK1 _ _ ?_
  clear hK1
  refine wp_seq_k fun K4 hK4 => ?_
  refine wp_seq_k fun K5 hK5 => ?_
  refine wp_region_lit ?_
  refine wpList_val hE3 7 rfl rfl fun K hK => ?_
  have e1 := hE3.get 1 rfl
  refine wp_load_blk 38 (.tmp 1) rfl w.heap.size (hE3.ev 1 rfl) 38 p.cells _ hp Tryz.underlying38 rfl (by kernel_rfl) ?_
  refine hK _ _ fun a6 hE6 => ?_
  clear hK K e1
  clear hE3 a3
  refine wpList_val hE6 8 rfl rfl fun K hK => ?_
  have e7 := hE6.get 7 rfl
  go_simp
  refine (zzFits1_any p w1 ((h.below hB).more hB.size)).mono ?_
  rintro e w2 ⟨b, rfl, hb, hB2⟩
  refine hK _ _ fun a7 hE7 => ?_
  clear hK K e7
  clear hE6 a6
  refine wpList_val hE7 9 rfl rfl fun K hK => ?_
  have e8 := hE7.get 8 rfl
  go_simp
  refine hK _ _ fun a8 hE8 => ?_
  clear hK K e8
  clear hE7 a7
  refine wpList_nil ?_
  replace hp := hp.below hB2 hp.lt
  replace hB := hB.trans (hB2.mono hB.size)
  clear hB2
  refine hK5 _ _ ?_
  clear hK5
  cases b with
  | false =>
    refine wp_if_t hE8 9 rfl ?_
    refine wp_seq_k fun K9 hK9 => ?_
    refine wp_region_lit ?_
    refine wpList_val hE8 2 rfl rfl fun K hK => ?_
    go_simp
    refine hK _ _ fun a10 hE10 => ?_
    clear hK K
    clear hE8 a8
    refine wpList_nil ?_
    refine hK9 _ _ ?_
    clear hK9
    refine wp_ret ?_
    simp only [Exit.then]
    refine bodyPost_ret (v := .bool true) (by simp [results, Tryz.results3, go_sem, hE10.get 2 rfl]) hE10.defers ⟨rfl, hB⟩
  | true =>
    refine wp_if_f hE8 9 rfl ?_
    refine wp_skip ?_
    refine hK4 _ _ ?_
    clear hK4
    refine wp_seq_k fun K11 hK11 => ?_
    refine wp_seq_k fun K12 hK12 => ?_
    refine wp_region_lit ?_
    refine wpList_val hE8 10 rfl rfl fun K hK => ?_
    have e1 := hE8.get 1 rfl
    go_simp
    refine hK _ _ fun a13 hE13 => ?_
    clear hK K e1
    clear hE8 a8
    refine wpList_val hE13 11 rfl rfl fun K hK => ?_
    have e10 := hE13.get 10 rfl
    have c0 : w2.cell? ⟨w.heap.size, 0, none⟩ = some (.int .i64 p.kind) := hp.cell 0
    have hz0 : w.heap.size < w2.heap.size := hp.lt
    go_simp
    refine hK _ _ fun a14 hE14 => ?_
    clear hK K e10
    clear hE13 a13
    clear c0 hz0
    refine wpList_nil ?_
    refine hK12 _ _ ?_
    clear hK12
    refine wp_block ?_
    refine wp_seq_k fun K15 hK15 => ?_
    refine wp_seq_k fun K16 hK16 => ?_
    refine wp_region_lit ?_
    refine wpList_val hE14 13 rfl rfl fun K hK => ?_
    have e11 := hE14.get 11 rfl
    go_simp
    refine hK _ _ fun a17 hE17 => ?_
    clear hK K e11
    clear hE14 a14
    refine wpList_val hE17 12 rfl rfl fun K hK => ?_
    have e13 := hE17.get 13 rfl
    go_simp
    refine hK _ _ fun a18 hE18 => ?_
    clear hK K e13
    clear hE17 a17
    refine wpList_nil ?_
    refine hK16 _ _ ?_
    clear hK16
    refine wp_if_f hE18 12 rfl ?_
    refine wp_seq_k fun K19 hK19 => ?_
    refine wp_region_lit ?_
    refine wpList_val hE18 14 rfl rfl fun K hK => ?_
    have e11 := hE18.get 11 rfl
    go_simp
    refine hK _ _ fun a20 hE20 => ?_
    clear hK K e11
    clear hE18 a18
    refine wpList_val hE20 12 rfl rfl fun K hK => ?_
    have e14 := hE20.get 14 rfl
    go_simp
    refine hK _ _ fun a21 hE21 => ?_
    clear hK K e14
    clear hE20 a20
    refine wpList_nil ?_
    refine hK19 _ _ ?_
    clear hK19
    refine wp_if_f hE21 12 rfl ?_
    refine wp_seq_k fun K22 hK22 => ?_
    refine wp_region_lit ?_
    refine wpList_val hE21 15 rfl rfl fun K hK => ?_
    have e11 := hE21.get 11 rfl
    go_simp
    refine hK _ _ fun a23 hE23 => ?_
    clear hK K e11
    clear hE21 a21
    refine wpList_val hE23 12 rfl rfl fun K hK => ?_
    have e15 := hE23.get 15 rfl
    go_simp
    refine hK _ _ fun a24 hE24 => ?_
    clear hK K e15
    clear hE23 a23
    refine wpList_nil ?_
    refine hK22 _ _ ?_
    clear hK22
    refine wp_if_f hE24 12 rfl ?_
    refine wp_region_lit ?_
    refine wpList_val hE24 16 rfl rfl fun K hK => ?_
    have e11 := hE24.get 11 rfl
    go_simp
    refine hK _ _ fun a25 hE25 => ?_
    clear hK K e11
    clear hE24 a24
    refine wpList_val hE25 12 rfl rfl fun K hK => ?_
    have e16 := hE25.get 16 rfl
    go_simp
    refine hK _ _ fun a26 hE26 => ?_
    clear hK K e16
    clear hE25 a25
    refine wpList_nil ?_
    refine hK15 _ _ ?_
    clear hK15
    refine wp_if_f hE26 12 rfl ?_
    refine wp_seq_k fun K27 hK27 => ?_
    refine wp_region_lit ?_
    refine wpList_val hE26 2 rfl rfl fun K hK => ?_
    go_simp
    refine hK _ _ fun a28 hE28 => ?_
    clear hK K
    clear hE26 a26
    refine wpList_nil ?_
    refine hK27 _ _ ?_
    clear hK27
    refine wp_ret ?_
    simp only [Exit.inBlock, Exit.then]
    refine bodyPost_ret (v := .bool true) (by simp [results, Tryz.results3, go_sem, hE28.get 2 rfl]) hE28.defers ⟨rfl, hB⟩

end Go.Proofs.YtmmfpgoodfgkbaaGreat
