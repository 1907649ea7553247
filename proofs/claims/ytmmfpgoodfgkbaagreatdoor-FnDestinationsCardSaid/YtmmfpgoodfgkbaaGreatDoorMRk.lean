/-
  A LIST READ IN SOME BLOCKS: what stays of it as long as they stay. No condition.
-/
import Derived.Test.YtmmfpgoodfgkbaaGreatDoorKit
import Derived.Test.YtmmfpgoodfgkbaaGreatDoorMPkt
import Derived.Test.YtmmfpgoodfgkbaaGreatDoorMStep
import Derived.Test.YtmmfpgoodfgkbaaGreatDoorMSep
namespace Go.Proofs.YtmmfpgoodfgkbaaGreatDoor
open Go Go.RowKit
set_option linter.unusedVariables false

def InRows (w : World) (B C size : Nat) (A : Option Addr) (n : Nat) (xs : List Value) : Prop :=
 xs.length = n * size ∧ (0 < n → ∃ ad, A = some ad ∧ B ≤ ad.block ∧ ad.block < C ∧ ∀ j u, xs[j]? = some u → w.cell? (ad.add j) = some u)
theorem InRows.reads {w : World} {B C size n : Nat} {A : Option Addr} {xs : List Value} (h : InRows w B C size A n xs) : Reads w C size A n xs :=
 ⟨h.1, fun hn => by obtain ⟨ad, e, _, h2, h3⟩ := h.2 hn; exact ⟨ad, e, h2, h3⟩⟩
theorem InRows.readsH {w : World} {B C D size n : Nat} {A : Option Addr} {xs : List Value} (h : InRows w B C size A n xs) (hl : ∀ g, B ≤ g ∧ g < C → g < D) : Reads w D size A n xs :=
 ⟨h.1, fun hn => by obtain ⟨ad, e, h1, h2, h3⟩ := h.2 hn; exact ⟨ad, e, hl _ ⟨h1, h2⟩, h3⟩⟩
theorem InRows.st {w w' : World} {B C size n : Nat} {A : Option Addr} {xs : List Value} (h : InRows w B C size A n xs) (hk : ∀ g, B ≤ g ∧ g < C → w'.heap[g]? = w.heap[g]?) : InRows w' B C size A n xs :=
 ⟨h.1, fun hn => by
  obtain ⟨ad, e, h1, h2, h3⟩ := h.2 hn
  exact ⟨ad, e, h1, h2, fun j u hu => (World.cell?_of_block (by rw [block_of_add]; exact hk _ ⟨h1, h2⟩)).trans (h3 j u hu)⟩⟩
theorem InRows.of_own {w : World} {base size n c : Nat} {e : TypeId} {A : Option Addr} {xs : List Value} (h : w.ownsRow base e size (.slice A n c) n xs) : InRows w base w.heap.size size A n xs := by
 refine ⟨h.1, fun hn => ?_⟩
 obtain ⟨g, cap, hv, hb, hlt⟩ := h.form hn
 have hA : A = some ⟨g, 0, none⟩ := by injection hv
 subst hA
 exact ⟨_, rfl, hb, hlt, h.cells (g := g) rfl⟩
theorem InRows.wide {w : World} {B C B' D size n : Nat} {A : Option Addr} {xs : List Value} (h : InRows w B C size A n xs) (hl : ∀ g, B ≤ g ∧ g < C → B' ≤ g ∧ g < D) : InRows w B' D size A n xs :=
 ⟨h.1, fun hn => by obtain ⟨ad, e, h1, h2, h3⟩ := h.2 hn; exact ⟨ad, e, (hl _ ⟨h1, h2⟩).1, (hl _ ⟨h1, h2⟩).2, h3⟩⟩
structure Pkt.NewIn (q : Pkt) (w : World) (B C : Nat) : Prop where
 reports : InRows w B C 7 q.reports.A q.reports.l.length (q.reports.l.flatMap Rep.cells)
 chunks : InRows w B C 2 q.chunks.A q.chunks.l.length (q.chunks.l.flatMap Chunk.cells)
 items : ∀ x ∈ q.chunks.l, InRows w B C 2 x.items.A x.items.l.length (x.items.l.flatMap Item.cells)
 pairs : InRows w B C 2 q.pairs.A q.pairs.l.length (q.pairs.l.flatMap Pair.cells)
 slices : InRows w B C 3 q.slices.A q.slices.l.length (q.slices.l.flatMap Slc.cells)
 entries : InRows w B C 2 q.entries.A q.entries.l.length (q.entries.l.flatMap Ent.cells)
 blocks : InRows w B C 3 q.blocks.A q.blocks.l.length (q.blocks.l.flatMap Blo.cells)
 mets : ∀ x ∈ q.blocks.l, InRows w B C 3 x.mets.A x.mets.l.length (x.mets.l.flatMap Met.cells)
 stats : InRows w B C 5 q.stats.A q.stats.l.length (q.stats.l.flatMap Sta.cells)
 deltas : InRows w B C 2 q.deltas.A q.deltas.l.length (q.deltas.l.flatMap Dlt.cells)
theorem Pkt.NewIn.st {q : Pkt} {w w' : World} {B C : Nat} (h : q.NewIn w B C) (hk : ∀ g, B ≤ g ∧ g < C → w'.heap[g]? = w.heap[g]?) : q.NewIn w' B C :=
 ⟨h.reports.st hk, h.chunks.st hk, fun x hx => (h.items x hx).st hk, h.pairs.st hk, h.slices.st hk, h.entries.st hk, h.blocks.st hk, fun x hx => (h.mets x hx).st hk, h.stats.st hk, h.deltas.st hk⟩
theorem Pkt.NewIn.lies {p q : Pkt} {w : World} {B C D : Nat} (h : q.NewIn w B C) (hD : C ≤ D) (hp : p.Lies w D) (he : q.ext = p.ext) (hs : q.sources = p.sources) (hd : q.data = p.data) (ht : q.stats.l = p.stats.l) : q.Lies w D :=
 ⟨h.reports.reads.more hD, by rw [he]; exact hp.ext, h.chunks.reads.more hD, fun x hx => (h.items x hx).reads.more hD, by rw [hs]; exact hp.sources, by rw [hd]; exact hp.data, h.pairs.reads.more hD, h.slices.reads.more hD, h.entries.reads.more hD, h.blocks.reads.more hD, fun x hx => (h.mets x hx).reads.more hD, h.stats.reads.more hD, by rw [ht]; exact hp.lists, h.deltas.reads.more hD⟩
end Go.Proofs.YtmmfpgoodfgkbaaGreatDoor
namespace Go.Proofs.YtmmfpgoodfgkbaaGreatDoor
open Go Go.RowKit
set_option maxHeartbeats 4000000
set_option maxRecDepth 100000
set_option linter.unusedVariables false

def vI (n : Int) : Value := .int .i64 n
def gV (v : Value) (i : Nat) : Value := match v with
 | .agg a => a.toList.getD i undef
 | _ => undef
def lsV : Value → List Value
 | .agg a => a.toList
 | _ => []
def dA : Value → Option Addr
 | .pointer a => a
 | _ => none
def dB : Value → Bool
 | .bool b => b
 | _ => false
def vS {α : Type} (f : α → Value) (s : Sl α) : Value := .agg #[.pointer s.A, vI s.c, .agg (s.l.map f).toArray]
def dS {α : Type} (g : Value → α) (v : Value) : Sl α := ⟨dA (gV v 0), (intOf (gV v 1)).toNat, (lsV (gV v 2)).map g⟩
theorem dS_vS {α : Type} {f : α → Value} {g : Value → α} (h : ∀ x, g (f x) = x) (s : Sl α) : dS g (vS f s) = s := by
 obtain ⟨A, c, l⟩ := s
 have e : (l.map f).map g = l := by rw [List.map_map]; exact (List.map_congr_left fun x _ => h x).trans (List.map_id l)
 show (⟨A, ((c : Nat) : Int).toNat, ((l.map f).toArray.toList).map g⟩ : Sl α) = _
 rw [List.toList_toArray, e]
 rfl
def vRep (r : Rep) : Value := .agg #[vI r.ssrc, vI r.frac, vI r.lost, vI r.seq, vI r.jit, vI r.last, vI r.dly]
def dRep (v : Value) : Rep := ⟨intOf (gV v 0), intOf (gV v 1), intOf (gV v 2), intOf (gV v 3), intOf (gV v 4), intOf (gV v 5), intOf (gV v 6)⟩
def vItem (x : Item) : Value := .agg #[vI x.ty, .string x.text]
def dItem (v : Value) : Item := ⟨intOf (gV v 0), strOf (gV v 1)⟩
def vChunk (x : Chunk) : Value := .agg #[vI x.src, vS vItem x.items]
def dChunk (v : Value) : Chunk := ⟨intOf (gV v 0), dS dItem (gV v 1)⟩
def vPair (x : Pair) : Value := .agg #[vI x.id, vI x.mask]
def dPair (v : Value) : Pair := ⟨intOf (gV v 0), intOf (gV v 1)⟩
def vSlc (x : Slc) : Value := .agg #[vI x.first, vI x.number, vI x.pic]
def dSlc (v : Value) : Slc := ⟨intOf (gV v 0), intOf (gV v 1), intOf (gV v 2)⟩
def vEnt (x : Ent) : Value := .agg #[vI x.ssrc, vI x.n]
def dEnt (v : Value) : Ent := ⟨intOf (gV v 0), intOf (gV v 1)⟩
def vMet (x : Met) : Value := .agg #[.bool x.rcv, vI x.ecn, vI x.off]
def dMet (v : Value) : Met := ⟨dB (gV v 0), intOf (gV v 1), intOf (gV v 2)⟩
def vBlo (x : Blo) : Value := .agg #[vI x.media, vI x.first, vS vMet x.mets]
def dBlo (v : Value) : Blo := ⟨intOf (gV v 0), intOf (gV v 1), dS dMet (gV v 2)⟩
def vSta (x : Sta) : Value := .agg #[.bool x.vec, vI x.sym, vI x.size, vI x.run, vS vI x.list]
def dSta (v : Value) : Sta := ⟨dB (gV v 0), intOf (gV v 1), intOf (gV v 2), intOf (gV v 3), dS intOf (gV v 4)⟩
def vDlt (x : Dlt) : Value := .agg #[vI x.ty, vI x.d]
def dDlt (v : Value) : Dlt := ⟨intOf (gV v 0), intOf (gV v 1)⟩
def vP (p : Pkt) : Value := .agg #[vI p.kind, vI p.sender, vI p.media, vI p.ntp, vI p.rtp, vI p.packets, vI p.octets, vS vRep p.reports, vS vI p.ext, vS vChunk p.chunks, vS vI p.sources, .string p.text, vI p.sub, vS vI p.data, vS vPair p.pairs, vS vSlc p.slices, vS vEnt p.entries, vI p.bits, vS vBlo p.blocks, vI p.time, vI p.base, vI p.count, vI p.ref, vI p.fb, vS vSta p.stats, vS vDlt p.deltas, .bool p.hpad, vI p.hcount, vI p.htype, vI p.hlen]
def dP (v : Value) : Pkt := ⟨intOf (gV v 0), intOf (gV v 1), intOf (gV v 2), intOf (gV v 3), intOf (gV v 4), intOf (gV v 5), intOf (gV v 6), dS dRep (gV v 7), dS intOf (gV v 8), dS dChunk (gV v 9), dS intOf (gV v 10), strOf (gV v 11), intOf (gV v 12), dS intOf (gV v 13), dS dPair (gV v 14), dS dSlc (gV v 15), dS dEnt (gV v 16), intOf (gV v 17), dS dBlo (gV v 18), intOf (gV v 19), intOf (gV v 20), intOf (gV v 21), intOf (gV v 22), intOf (gV v 23), dS dSta (gV v 24), dS dDlt (gV v 25), dB (gV v 26), intOf (gV v 27), intOf (gV v 28), intOf (gV v 29)⟩
theorem dChunk_v (x : Chunk) : dChunk (vChunk x) = x := by
 show (⟨x.src, dS dItem (vS vItem x.items)⟩ : Chunk) = x
 rw [dS_vS fun _ => rfl]
theorem dBlo_v (x : Blo) : dBlo (vBlo x) = x := by
 show (⟨x.media, x.first, dS dMet (vS vMet x.mets)⟩ : Blo) = x
 rw [dS_vS fun _ => rfl]
theorem dSta_v (x : Sta) : dSta (vSta x) = x := by
 show (⟨x.vec, x.sym, x.size, x.run, dS intOf (vS vI x.list)⟩ : Sta) = x
 rw [dS_vS fun _ => rfl]
theorem dP_v (p : Pkt) : dP (vP p) = p := by
 show (⟨p.kind, p.sender, p.media, p.ntp, p.rtp, p.packets, p.octets, dS dRep (vS vRep p.reports), dS intOf (vS vI p.ext), dS dChunk (vS vChunk p.chunks), dS intOf (vS vI p.sources), p.text, p.sub, dS intOf (vS vI p.data), dS dPair (vS vPair p.pairs), dS dSlc (vS vSlc p.slices), dS dEnt (vS vEnt p.entries), p.bits, dS dBlo (vS vBlo p.blocks), p.time, p.base, p.count, p.ref, p.fb, dS dSta (vS vSta p.stats), dS dDlt (vS vDlt p.deltas), p.hpad, p.hcount, p.htype, p.hlen⟩ : Pkt) = p
 rw [dS_vS fun _ => rfl, dS_vS fun _ => rfl, dS_vS dChunk_v, dS_vS fun _ => rfl, dS_vS fun _ => rfl, dS_vS fun _ => rfl, dS_vS fun _ => rfl, dS_vS fun _ => rfl, dS_vS dBlo_v, dS_vS dSta_v, dS_vS fun _ => rfl]
def Pkt.cl (p : Pkt) : List Value := p.cells.toList
end Go.Proofs.YtmmfpgoodfgkbaaGreatDoor
namespace Go.Proofs.YtmmfpgoodfgkbaaGreatDoor
open Go Go.RowKit
set_option maxHeartbeats 4000000
set_option maxRecDepth 100000
set_option linter.unusedVariables false

def kindOf (c t : Int) : Int :=
 if t = 200 then 1 else if t = 201 then 2 else if t = 202 then 3 else if t = 203 then 4 else if t = 204 then 5 else
 if t = 205 then (if c = 1 then 6 else if c = 5 then 7 else if c = 11 then 8 else if c = 15 then 13 else 0) else
 if t = 206 then (if c = 1 then 9 else if c = 2 then 10 else if c = 4 then 11 else if c = 15 then 12 else 0) else 0
theorem kindOf_any (b : Bool) (c t l : Int) (w : World) :
  Calls Tryz.prog 36 #[.agg #[.bool b, .int .u8 c, .int .u8 t, .int .u16 l]] w fun e w' => e = .returned (.int .i64 (kindOf c t)) ∧ Below w.heap.size w w' := by
 by_cases h200 : t = 200
 ·subst h200
  go_enter Tryz.func36, Tryz.ntmps36
  go_wp2_with fail
  go_ret
  exact ⟨by simp [kindOf], ((Below.refl _ _).alloc (Nat.le_refl _) _)⟩
 have b200 : (t == 200) = false := by simpa using h200
 by_cases h201 : t = 201
 ·subst h201
  go_enter Tryz.func36, Tryz.ntmps36
  go_wp2_with fail
  go_ret
  exact ⟨by simp [kindOf], ((Below.refl _ _).alloc (Nat.le_refl _) _)⟩
 have b201 : (t == 201) = false := by simpa using h201
 by_cases h202 : t = 202
 ·subst h202
  go_enter Tryz.func36, Tryz.ntmps36
  go_wp2_with fail
  go_ret
  exact ⟨by simp [kindOf], ((Below.refl _ _).alloc (Nat.le_refl _) _)⟩
 have b202 : (t == 202) = false := by simpa using h202
 by_cases h203 : t = 203
 ·subst h203
  go_enter Tryz.func36, Tryz.ntmps36
  go_wp2_with fail
  go_ret
  exact ⟨by simp [kindOf], ((Below.refl _ _).alloc (Nat.le_refl _) _)⟩
 have b203 : (t == 203) = false := by simpa using h203
 by_cases h204 : t = 204
 ·subst h204
  go_enter Tryz.func36, Tryz.ntmps36
  go_wp2_with fail
  go_ret
  exact ⟨by simp [kindOf], ((Below.refl _ _).alloc (Nat.le_refl _) _)⟩
 have b204 : (t == 204) = false := by simpa using h204
 by_cases h205 : t = 205
 ·subst h205
  by_cases k1 : c = 1
  ·subst k1
   go_enter Tryz.func36, Tryz.ntmps36
   go_wp2_with fail
   go_ret
   exact ⟨by simp [kindOf], ((Below.refl _ _).alloc (Nat.le_refl _) _)⟩
  have d1 : (c == 1) = false := by simpa using k1
  by_cases k5 : c = 5
  ·subst k5
   go_enter Tryz.func36, Tryz.ntmps36
   go_wp2_with fail
   go_ret
   exact ⟨by simp [kindOf], ((Below.refl _ _).alloc (Nat.le_refl _) _)⟩
  have d5 : (c == 5) = false := by simpa using k5
  by_cases k11 : c = 11
  ·subst k11
   go_enter Tryz.func36, Tryz.ntmps36
   go_wp2_with fail
   go_ret
   exact ⟨by simp [kindOf], ((Below.refl _ _).alloc (Nat.le_refl _) _)⟩
  have d11 : (c == 11) = false := by simpa using k11
  by_cases k15 : c = 15
  ·subst k15
   go_enter Tryz.func36, Tryz.ntmps36
   go_wp2_with fail
   go_ret
   exact ⟨by simp [kindOf], ((Below.refl _ _).alloc (Nat.le_refl _) _)⟩
  have d15 : (c == 15) = false := by simpa using k15
  go_enter Tryz.func36, Tryz.ntmps36
  go_wp2_with fail
  go_ret
  exact ⟨by simp [kindOf, k1, k5, k11, k15], ((Below.refl _ _).alloc (Nat.le_refl _) _)⟩
 have b205 : (t == 205) = false := by simpa using h205
 by_cases h206 : t = 206
 ·subst h206
  by_cases k1 : c = 1
  ·subst k1
   go_enter Tryz.func36, Tryz.ntmps36
   go_wp2_with fail
   go_ret
   exact ⟨by simp [kindOf], ((Below.refl _ _).alloc (Nat.le_refl _) _)⟩
  have d1 : (c == 1) = false := by simpa using k1
  by_cases k2 : c = 2
  ·subst k2
   go_enter Tryz.func36, Tryz.ntmps36
   go_wp2_with fail
   go_ret
   exact ⟨by simp [kindOf], ((Below.refl _ _).alloc (Nat.le_refl _) _)⟩
  have d2 : (c == 2) = false := by simpa using k2
  by_cases k4 : c = 4
  ·subst k4
   go_enter Tryz.func36, Tryz.ntmps36
   go_wp2_with fail
   go_ret
   exact ⟨by simp [kindOf], ((Below.refl _ _).alloc (Nat.le_refl _) _)⟩
  have d4 : (c == 4) = false := by simpa using k4
  by_cases k15 : c = 15
  ·subst k15
   go_enter Tryz.func36, Tryz.ntmps36
   go_wp2_with fail
   go_ret
   exact ⟨by simp [kindOf], ((Below.refl _ _).alloc (Nat.le_refl _) _)⟩
  have d15 : (c == 15) = false := by simpa using k15
  go_enter Tryz.func36, Tryz.ntmps36
  go_wp2_with fail
  go_ret
  exact ⟨by simp [kindOf, k1, k2, k4, k15], ((Below.refl _ _).alloc (Nat.le_refl _) _)⟩
 have b206 : (t == 206) = false := by simpa using h206
 go_enter Tryz.func36, Tryz.ntmps36
 go_wp2_with fail
 go_ret
 exact ⟨by simp [kindOf, h200, h201, h202, h203, h204, h205, h206], ((Below.refl _ _).alloc (Nat.le_refl _) _)⟩
end Go.Proofs.YtmmfpgoodfgkbaaGreatDoor
