/-
  READING A REPORT BLOCK by the package: twenty-four bytes, into the receiver. Condition: the slice reads as bytes, it lies elsewhere than the receiver.
-/
import Derived.Test.YtcikhjolehlchaaDoorParse
namespace Go.Proofs.YtcikhjolehlchaaDoor
open Go Go.RowKit
set_option linter.unusedVariables false

/-- On the way: the bytes read as before, the receiver holds cs, and nothing else has turned. -/
structure Um (w : World) (B Br : Nat) (A : Addr) (n : Nat) (zs : List Int) (t : TypeId) (cs : Array Value) (w' : World) : Prop where
  reads : Reads w' B 1 (some A) n (u8s zs)
  blk : Blk w' Br t cs
  grown : w.grownBy w' (some Br)
  size : w'.heap.size = w.heap.size
theorem Um.quiet {w w' w'' : World} {B Br n : Nat} {A : Addr} {zs : List Int} {t : TypeId} {cs : Array Value} (u : Um w B Br A n zs t cs w') (q : ∃ m, w'' = w'.drewN m) : Um w B Br A n zs t cs w'' := by
  obtain ⟨m, rfl⟩ := q
  exact ⟨u.reads.drewN m, u.blk.drewN m, grownBy_trans u.grown (show w'.grownBy (w'.drewN m) (some Br) from ⟨rfl, rfl, rfl, Nat.le_refl _, fun _ _ _ => rfl⟩) (.inl rfl), u.size⟩
theorem Um.set {w w' : World} {B Br n : Nat} {A : Addr} {zs : List Int} {t : TypeId} {cs : Array Value} (u : Um w B Br A n zs t cs w') (hne : Br ≠ A.block) (i : Nat) (v : Value) : Um w B Br A n zs t (cs.setIfInBounds i v) (w'.setCell ⟨Br, i, none⟩ v) := by
  refine ⟨⟨u.reads.1, fun hn => ?_⟩, u.blk.set_ i v, grownBy_trans u.grown (grownBy_setCell _ _ _) (.inl rfl), by rw [size_set]; exact u.size⟩
  obtain ⟨ad, e, hb, hc⟩ := u.reads.2 hn
  obtain rfl := Option.some.inj e
  refine ⟨A, rfl, hb, fun j x hx => ?_⟩
  rw [← hc j x hx]
  exact World.cell?_setCell_other w' _ _ v (fun e => hne (by rw [← block_of_add A j, ← e]))

set_option maxHeartbeats 2000000 in
theorem unmarshal_any {w : World} {B c Br : Nat} {ad : Addr} {zs : List Int} (h : Reads w B 1 (some ad) 24 (u8s zs)) (hz : Byts zs) (hc : 24 ≤ c) (hne : Br ≠ ad.block)
    (hb : Blk w Br 42 #[.int .u32 0, .int .u8 0, .int .u32 0, .int .u32 0, .int .u32 0, .int .u32 0, .int .u32 0]) :
    Calls Tryd.prog 15 #[.pointer (some ⟨Br, 0, none⟩), .slice (some ad) 24 c] w fun e w' =>
      e = .returned .nilIface ∧ Um w B Br ad 24 zs 42 #[.int .u32 (rd32 zs 0), .int .u8 (gi zs 4), .int .u32 (rd24 zs 5), .int .u32 (rd32 zs 8), .int .u32 (rd32 zs 12), .int .u32 (rd32 zs 16), .int .u32 (rd32 zs 20)] w' := by
  have u0 : Um w B Br ad 24 zs 42 _ w := ⟨h, hb, World.grownBy.refl _ _, rfl⟩
  have hl : (24 : Int) ≤ (c : Int) := by omega
  go_enter Tryd.func15, Tryd.ntmps15
  go_wp2_with fail
  refine (be32r_any (B := B) (zs := zs) h hz (by omega)).mono ?_
  rintro e wa ⟨rfl, ma⟩
  have ua := u0.quiet ma
  have ua1 := ua.set hne 0 (.int .u32 (rd32 zs 0))
  have fa0 := ua.blk.frozen 0
  have fa1 := ua1.blk.frozen 1
  have ca4 : (wa.setCell ⟨Br, 0, none⟩ (.int .u32 (rd32 zs 0))).cell? ⟨ad.block, ad.off + 4, none⟩ = some (.int .u8 (gi zs 4)) := ua1.reads.byteS (k := 3) (by omega)
  have za0 : wa.cell? ⟨Br, 0, none⟩ = some (.int .u32 0) := ua.blk.cell 0
  have za1 : wa.cell? ⟨Br, 1, none⟩ = some (.int .u8 0) := ua.blk.cell 1
  have ua2 := ua1.set hne 1 (.int .u8 (gi zs 4))
  go_wp2_with fail
  obtain ⟨wb, hwb⟩ : ∃ wb, wb = (wa.setCell ⟨Br, 0, none⟩ (.int .u32 (rd32 zs 0))).setCell ⟨Br, 1, none⟩ (.int .u8 (gi zs 4)) := ⟨_, rfl⟩
  rw [← hwb] at ua2 ⊢
  clear hwb ca4 fa0 fa1 ua1 ua za0 za1
  have s5 : wb.cell? ⟨ad.block, ad.off + 5, none⟩ = some (.int .u8 (gi zs 5)) := ua2.reads.byteS (k := 4) (by omega)
  have s6 : wb.cell? ⟨ad.block, ad.off + 6, none⟩ = some (.int .u8 (gi zs 6)) := ua2.reads.byteS (k := 5) (by omega)
  have s7 : wb.cell? ⟨ad.block, ad.off + 7, none⟩ = some (.int .u8 (gi zs 7)) := ua2.reads.byteS (k := 6) (by omega)
  have fb := ua2.blk.frozen 2
  have zb : wb.cell? ⟨Br, 2, none⟩ = some (.int .u32 0) := ua2.blk.cell 2
  go_region_held3 (fun w' => w'.cell? ⟨ad.block, ad.off + 5, none⟩ = some (.int .u8 (gi zs 5)) ∧ w'.cell? ⟨ad.block, ad.off + 6, none⟩ = some (.int .u8 (gi zs 6)) ∧ w'.cell? ⟨ad.block, ad.off + 7, none⟩ = some (.int .u8 (gi zs 7))) (first | go_keep | (simp only [far_cell hne]; exact ⟨s5, s6, s7⟩)) (first | fail)
  have hlost : bits .or .u32 (bits .or .u32 (IntKind.u32.wrap (gi zs 7)) (IntKind.u32.wrap (IntKind.u32.wrap (gi zs 6) * 256))) (IntKind.u32.wrap (IntKind.u32.wrap (gi zs 5) * 65536)) = rd24 zs 5 := by
    have b5 := hz.gi 5
    have b6 := hz.gi 6
    have b7 := hz.gi 7
    have w7 : IntKind.u32.wrap (gi zs 7) = gi zs 7 := wraps_u32 _ (by omega) (by omega)
    have w6 : IntKind.u32.wrap (gi zs 6) = gi zs 6 := wraps_u32 _ (by omega) (by omega)
    have w5 : IntKind.u32.wrap (gi zs 5) = gi zs 5 := wraps_u32 _ (by omega) (by omega)
    rw [w7, w6, w5, wraps_u32 (gi zs 6 * 256) (by omega) (by omega), wraps_u32 (gi zs 5 * 65536) (by omega) (by omega), bits_comm .u32 (gi zs 7) (gi zs 6 * 256), or32 8 (x := gi zs 6 * 256) (y := gi zs 7) (by omega) (by omega) (by omega) (by omega) (by omega) (by omega), bits_comm .u32 _ (gi zs 5 * 65536), or32 16 (x := gi zs 5 * 65536) (y := gi zs 6 * 256 + gi zs 7) (by omega) (by omega) (by omega) (by omega) (by omega) (by omega)]
    show _ = gi zs 5 * 65536 + gi zs 6 * 256 + gi zs 7
    omega
  rw [hlost]
  have u3 := (ua2.quiet ⟨1, rfl⟩).set hne 2 (.int .u32 (rd24 zs 5))
  have h8 := reads_subS u3.reads 7 (by omega)
  go_wp2_with fail
  refine (be32r_any (B := B) (zs := zs.drop 8) (n := 16) h8 (hz.drop _) (by omega)).mono ?_
  rintro e wc ⟨rfl, mc⟩
  rw [rd32_drop]
  have uc := u3.quiet mc
  have fc := uc.blk.frozen 3
  have zc : wc.cell? ⟨Br, 3, none⟩ = some (.int .u32 0) := uc.blk.cell 3
  have vc := uc.set hne 3 (.int .u32 (rd32 zs 8))
  have h12 := reads_subS vc.reads 11 (by omega)
  go_wp2_with fail
  refine (be32r_any (B := B) (zs := zs.drop 12) (n := 12) h12 (hz.drop _) (by omega)).mono ?_
  rintro e wd ⟨rfl, md⟩
  rw [rd32_drop]
  have ud := vc.quiet md
  have fd := ud.blk.frozen 4
  have zd : wd.cell? ⟨Br, 4, none⟩ = some (.int .u32 0) := ud.blk.cell 4
  have vd := ud.set hne 4 (.int .u32 (rd32 zs 12))
  have h16 := reads_subS vd.reads 15 (by omega)
  go_wp2_with fail
  refine (be32r_any (B := B) (zs := zs.drop 16) (n := 8) h16 (hz.drop _) (by omega)).mono ?_
  rintro e we ⟨rfl, me⟩
  rw [rd32_drop]
  have ue := vd.quiet me
  have fe := ue.blk.frozen 5
  have ze : we.cell? ⟨Br, 5, none⟩ = some (.int .u32 0) := ue.blk.cell 5
  have ve := ue.set hne 5 (.int .u32 (rd32 zs 16))
  have h20 := reads_subS ve.reads 19 (by omega)
  go_wp2_with fail
  refine (be32r_any (B := B) (zs := zs.drop 20) (n := 4) h20 (hz.drop _) (by omega)).mono ?_
  rintro e wf ⟨rfl, mf⟩
  rw [rd32_drop]
  have uf := ve.quiet mf
  have ff := uf.blk.frozen 6
  have zf : wf.cell? ⟨Br, 6, none⟩ = some (.int .u32 0) := uf.blk.cell 6
  have vf := uf.set hne 6 (.int .u32 (rd32 zs 20))
  go_wp2_with fail
  go_ret
  exact ⟨rfl, vf⟩
end Go.Proofs.YtcikhjolehlchaaDoor
