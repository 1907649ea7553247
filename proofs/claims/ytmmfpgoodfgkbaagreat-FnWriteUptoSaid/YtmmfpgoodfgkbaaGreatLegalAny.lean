/-
  THE WALK of the law's look at a packet, all in one; what is said of a packet's numbers. Condition: the contracts of the reference's writing and leaving out.
-/
import Derived.Test.YtmmfpgoodfgkbaaGreatLegal
namespace Go.Proofs.YtmmfpgoodfgkbaaGreat
open Go Go.RowKit
set_option linter.unusedVariables false

theorem formatOne_any (p : Pkt) (w : World) (k : Nat) (count type : Int) (bs : List Int) (ok : Bool) (hk : p.kind = (k : Nat)) (hk1 : 1 ≤ k) (hk13 : k ≤ 13) (hc0 : 0 ≤ count) (hc1 : count ≤ 31) (hlen : bs.length ≤ 70368744177000)
    (hform : ∀ w', Below w.heap.size w w' → Calls Tryz.prog 52 #[.agg p.cells] w' (Formed w' count type bs ok)) :
    Calls Tryz.prog 24 #[.agg p.cells] w (Fmt w count type bs ok) := by
  cases ok with
  | false => exact formatOne_no p w k count type bs false hk hk1 hk13 hc0 hc1 hlen rfl hform
  | true =>
    by_cases h : bs.length ≤ 262140
    · exact formatOne_yes p w k count type bs true hk hk1 hk13 hc0 hc1 hlen rfl h hform
    · exact formatOne_long p w k count type bs true hk hk1 hk13 hc0 hc1 hlen rfl (by omega) hform
theorem legal_any (p c : Pkt) (w : World) (count type : Int) (bs : List Int) (ok : Bool)
    (hfmt : ∀ w', Below w.heap.size w w' → Calls Tryz.prog 24 #[.agg p.cells] w' (Fmt w' count type bs ok))
    (hcom : ∀ w', Below w.heap.size w w' → Calls Tryz.prog 25 #[.agg p.cells] w' fun e w'' => e = .returned (.agg c.cells) ∧ Below w'.heap.size w' w'') :
    Calls Tryz.prog 8 #[.agg p.cells] w (Legal w p c count type bs ok) := by
  by_cases h : ok = false ∨ 262140 < bs.length
  · exact legal_no p c w count type bs ok h hfmt hcom
  · have hok : ok = true := by cases ok <;> simp_all
    have hl : bs.length ≤ 262140 := by omega
    by_cases h2 : 131072 < 4 + bs.length
    · exact legal_long p c w count type bs ok hok hl h2 hfmt hcom
    · exact legal_yes p c w count type bs ok hok (by omega) hfmt hcom
theorem Pkt.Lies.more {p : Pkt} {w : World} {B B' : Nat} (h : p.Lies w B) (hB : B ≤ B') : p.Lies w B' :=
  ⟨Reads.more h.reports hB, Reads.more h.ext hB, Reads.more h.chunks hB, fun x hx => Reads.more (h.items x hx) hB, Reads.more h.sources hB, Reads.more h.data hB, Reads.more h.pairs hB, Reads.more h.slices hB, Reads.more h.entries hB, Reads.more h.blocks hB, fun x hx => Reads.more (h.mets x hx) hB, Reads.more h.stats hB, fun x hx => Reads.more (h.lists x hx) hB, Reads.more h.deltas hB⟩
/-- The numbers of a packet fit their kinds. -/
structure Pkt.Ok2 (p : Pkt) : Prop where
  s0 : 0 ≤ p.sender
  s1 : p.sender < 4294967296
  m0 : 0 ≤ p.media
  m1 : p.media < 4294967296
  pairs : ∀ x ∈ p.pairs.l, 0 ≤ x.id ∧ x.id < 65536 ∧ 0 ≤ x.mask ∧ x.mask < 65536
  slices : ∀ x ∈ p.slices.l, 0 ≤ x.first ∧ x.first < 65536 ∧ 0 ≤ x.number ∧ x.number < 65536 ∧ 0 ≤ x.pic ∧ x.pic < 256
/-- The same of all lists. -/
structure Pkt.Ok3 (p : Pkt) : Prop where
  ok2 : p.Ok2
  ntp : 0 ≤ p.ntp ∧ p.ntp < 18446744073709551616
  rtp : 0 ≤ p.rtp ∧ p.rtp < 4294967296
  packets : 0 ≤ p.packets ∧ p.packets < 4294967296
  octets : 0 ≤ p.octets ∧ p.octets < 4294967296
  time : 0 ≤ p.time ∧ p.time < 4294967296
  bits : 0 ≤ p.bits ∧ p.bits < 4294967296
  sub : 0 ≤ p.sub ∧ p.sub < 256
  reports : ∀ x ∈ p.reports.l, x.Ok
  sources : ∀ x ∈ p.sources.l, 0 ≤ x ∧ x < 4294967296
  ext : ∀ x ∈ p.ext.l, 0 ≤ x ∧ x < 256
  data : ∀ x ∈ p.data.l, 0 ≤ x ∧ x < 256
  dcap : p.data.l.length ≤ p.data.c
  entries : ∀ x ∈ p.entries.l, 0 ≤ x.ssrc ∧ x.ssrc < 4294967296 ∧ 0 ≤ x.n ∧ x.n < 256
  chunks : ∀ x ∈ p.chunks.l, 0 ≤ x.src ∧ x.src < 4294967296 ∧ ∀ i ∈ x.items.l, 0 ≤ i.ty ∧ i.ty < 256
  blocks : ∀ x ∈ p.blocks.l, 0 ≤ x.media ∧ x.media < 4294967296 ∧ 0 ≤ x.first ∧ x.first < 65536 ∧ ∀ i ∈ x.mets.l, 0 ≤ i.ecn ∧ i.ecn < 256 ∧ 0 ≤ i.off ∧ i.off < 65536
end Go.Proofs.YtmmfpgoodfgkbaaGreat
