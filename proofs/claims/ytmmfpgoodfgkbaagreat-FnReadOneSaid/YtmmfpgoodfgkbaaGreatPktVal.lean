/-
  A PACKET AS A VALUE and back: so that a step can hand on a packet that it brings up. No condition.
-/
import Derived.Test.YtmmfpgoodfgkbaaGreatMPkt
import Derived.Test.YtmmfpgoodfgkbaaGreatMStep
namespace Go.Proofs.YtmmfpgoodfgkbaaGreat
open Go Go.RowKit
set_option linter.unusedVariables false

def vI (n : Int) : Value := .int .i64 n
def gV (v : Value) (i : Nat) : Value := match v with
  | .agg a => a.toList.getD i undef
  | _ => undef
def lsV : Value → List Value
  | .agg a => a.toList
  | _ => []
def dA : Value → Option Addr
  | .pointer a => a
  | _ => none
def dB : Value → Bool
  | .bool b => b
  | _ => false
def vS {α : Type} (f : α → Value) (s : Sl α) : Value := .agg #[.pointer s.A, vI s.c, .agg (s.l.map f).toArray]
def dS {α : Type} (g : Value → α) (v : Value) : Sl α := ⟨dA (gV v 0), (intOf (gV v 1)).toNat, (lsV (gV v 2)).map g⟩
theorem dS_vS {α : Type} {f : α → Value} {g : Value → α} (h : ∀ x, g (f x) = x) (s : Sl α) : dS g (vS f s) = s := by
  obtain ⟨A, c, l⟩ := s
  have e : (l.map f).map g = l := by rw [List.map_map]; exact (List.map_congr_left fun x _ => h x).trans (List.map_id l)
  show (⟨A, ((c : Nat) : Int).toNat, ((l.map f).toArray.toList).map g⟩ : Sl α) = _
  rw [List.toList_toArray, e]
  rfl
def vRep (r : Rep) : Value := .agg #[vI r.ssrc, vI r.frac, vI r.lost, vI r.seq, vI r.jit, vI r.last, vI r.dly]
def dRep (v : Value) : Rep := ⟨intOf (gV v 0), intOf (gV v 1), intOf (gV v 2), intOf (gV v 3), intOf (gV v 4), intOf (gV v 5), intOf (gV v 6)⟩
def vItem (x : Item) : Value := .agg #[vI x.ty, .string x.text]
def dItem (v : Value) : Item := ⟨intOf (gV v 0), strOf (gV v 1)⟩
def vChunk (x : Chunk) : Value := .agg #[vI x.src, vS vItem x.items]
def dChunk (v : Value) : Chunk := ⟨intOf (gV v 0), dS dItem (gV v 1)⟩
def vPair (x : Pair) : Value := .agg #[vI x.id, vI x.mask]
def dPair (v : Value) : Pair := ⟨intOf (gV v 0), intOf (gV v 1)⟩
def vSlc (x : Slc) : Value := .agg #[vI x.first, vI x.number, vI x.pic]
def dSlc (v : Value) : Slc := ⟨intOf (gV v 0), intOf (gV v 1), intOf (gV v 2)⟩
def vEnt (x : Ent) : Value := .agg #[vI x.ssrc, vI x.n]
def dEnt (v : Value) : Ent := ⟨intOf (gV v 0), intOf (gV v 1)⟩
def vMet (x : Met) : Value := .agg #[.bool x.rcv, vI x.ecn, vI x.off]
def dMet (v : Value) : Met := ⟨dB (gV v 0), intOf (gV v 1), intOf (gV v 2)⟩
def vBlo (x : Blo) : Value := .agg #[vI x.media, vI x.first, vS vMet x.mets]
def dBlo (v : Value) : Blo := ⟨intOf (gV v 0), intOf (gV v 1), dS dMet (gV v 2)⟩
def vSta (x : Sta) : Value := .agg #[.bool x.vec, vI x.sym, vI x.size, vI x.run, vS vI x.list]
def dSta (v : Value) : Sta := ⟨dB (gV v 0), intOf (gV v 1), intOf (gV v 2), intOf (gV v 3), dS intOf (gV v 4)⟩
def vDlt (x : Dlt) : Value := .agg #[vI x.ty, vI x.d]
def dDlt (v : Value) : Dlt := ⟨intOf (gV v 0), intOf (gV v 1)⟩
def vP (p : Pkt) : Value := .agg #[vI p.kind, vI p.sender, vI p.media, vI p.ntp, vI p.rtp, vI p.packets, vI p.octets, vS vRep p.reports, vS vI p.ext, vS vChunk p.chunks, vS vI p.sources, .string p.text, vI p.sub, vS vI p.data, vS vPair p.pairs, vS vSlc p.slices, vS vEnt p.entries, vI p.bits, vS vBlo p.blocks, vI p.time, vI p.base, vI p.count, vI p.ref, vI p.fb, vS vSta p.stats, vS vDlt p.deltas, .bool p.hpad, vI p.hcount, vI p.htype, vI p.hlen]
def dP (v : Value) : Pkt := ⟨intOf (gV v 0), intOf (gV v 1), intOf (gV v 2), intOf (gV v 3), intOf (gV v 4), intOf (gV v 5), intOf (gV v 6), dS dRep (gV v 7), dS intOf (gV v 8), dS dChunk (gV v 9), dS intOf (gV v 10), strOf (gV v 11), intOf (gV v 12), dS intOf (gV v 13), dS dPair (gV v 14), dS dSlc (gV v 15), dS dEnt (gV v 16), intOf (gV v 17), dS dBlo (gV v 18), intOf (gV v 19), intOf (gV v 20), intOf (gV v 21), intOf (gV v 22), intOf (gV v 23), dS dSta (gV v 24), dS dDlt (gV v 25), dB (gV v 26), intOf (gV v 27), intOf (gV v 28), intOf (gV v 29)⟩
theorem dChunk_v (x : Chunk) : dChunk (vChunk x) = x := by
  show (⟨x.src, dS dItem (vS vItem x.items)⟩ : Chunk) = x
  rw [dS_vS fun _ => rfl]
theorem dBlo_v (x : Blo) : dBlo (vBlo x) = x := by
  show (⟨x.media, x.first, dS dMet (vS vMet x.mets)⟩ : Blo) = x
  rw [dS_vS fun _ => rfl]
theorem dSta_v (x : Sta) : dSta (vSta x) = x := by
  show (⟨x.vec, x.sym, x.size, x.run, dS intOf (vS vI x.list)⟩ : Sta) = x
  rw [dS_vS fun _ => rfl]
set_option maxRecDepth 20000 in
theorem dP_v (p : Pkt) : dP (vP p) = p := by
  show (⟨p.kind, p.sender, p.media, p.ntp, p.rtp, p.packets, p.octets, dS dRep (vS vRep p.reports), dS intOf (vS vI p.ext), dS dChunk (vS vChunk p.chunks), dS intOf (vS vI p.sources), p.text, p.sub, dS intOf (vS vI p.data), dS dPair (vS vPair p.pairs), dS dSlc (vS vSlc p.slices), dS dEnt (vS vEnt p.entries), p.bits, dS dBlo (vS vBlo p.blocks), p.time, p.base, p.count, p.ref, p.fb, dS dSta (vS vSta p.stats), dS dDlt (vS vDlt p.deltas), p.hpad, p.hcount, p.htype, p.hlen⟩ : Pkt) = p
  rw [dS_vS fun _ => rfl, dS_vS fun _ => rfl, dS_vS dChunk_v, dS_vS fun _ => rfl, dS_vS fun _ => rfl, dS_vS fun _ => rfl, dS_vS fun _ => rfl, dS_vS fun _ => rfl, dS_vS dBlo_v, dS_vS dSta_v, dS_vS fun _ => rfl]
def Pkt.cl (p : Pkt) : List Value := p.cells.toList
end Go.Proofs.YtmmfpgoodfgkbaaGreat
