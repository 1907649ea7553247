/-
  READING A REPORT BLOCK: the reference's reading and the package's, of twenty-four bytes. Condition: the slice reads as bytes.
-/
import Derived.Test.YtcikhjolehlchaaDoorClone8
import Derived.Test.YtcikhjolehlchaaDoorImplReport
import Derived.Laws.StructEq
namespace Go.Proofs.YtcikhjolehlchaaDoor
open Go Go.RowKit
set_option linter.unusedVariables false

def Rep.parse (zs : List Int) : Rep := ⟨rd32 zs 0, gi zs 4, rd24 zs 5, rd32 zs 8, rd32 zs 12, rd32 zs 16, rd32 zs 20⟩
theorem Rep.parse_ok {zs : List Int} (h : Byts zs) : (Rep.parse zs).Ok ∧ (Rep.parse zs).lost < 16777216 := by
  have a := rd32_lt h 0
  have b := h.gi 4
  have c := rd24_lt h 5
  have d := rd32_lt h 8
  have e := rd32_lt h 12
  have f := rd32_lt h 16
  have g := rd32_lt h 20
  exact ⟨⟨a.1, a.2, b.1, b.2, c.1, by show rd24 zs 5 < _; omega, d.1, d.2, e.1, e.2, f.1, f.2, g.1, g.2⟩, c.2⟩
theorem be32_rd {zs : List Int} (h : Byts zs) (i : Nat) : be32 (rd32 zs i) = [gi zs i, gi zs (i + 1), gi zs (i + 2), gi zs (i + 3)] := by
  have a := h.gi i
  have b := h.gi (i + 1)
  have c := h.gi (i + 2)
  have d := h.gi (i + 3)
  rw [be32_eq _ (rd32_lt h i).1]
  unfold rd32
  simp only [List.cons.injEq, and_true]
  refine ⟨?_, ?_, ?_, ?_⟩ <;> omega
theorem Rep.bytes_parse {zs : List Int} (h : Byts zs) (hl : zs.length = 24) : (Rep.parse zs).bytes = zs := by
  have c := rd24_lt h 5
  have b5 := h.gi 5
  have b6 := h.gi 6
  have b7 := h.gi 7
  have e1 : rd24 zs 5 / 65536 = gi zs 5 := by unfold rd24; show (gi zs 5 * 65536 + gi zs 6 * 256 + gi zs 7) / 65536 = _; omega
  have e2 : rd24 zs 5 / 256 % 256 = gi zs 6 := by unfold rd24; show (gi zs 5 * 65536 + gi zs 6 * 256 + gi zs 7) / 256 % 256 = _; omega
  have e3 : rd24 zs 5 % 256 = gi zs 7 := by unfold rd24; show (gi zs 5 * 65536 + gi zs 6 * 256 + gi zs 7) % 256 = _; omega
  unfold Rep.bytes Rep.parse
  simp only [be32_rd h, e1, e2, e3]
  refine List.ext_getElem? fun i => ?_
  rcases Nat.lt_or_ge i 24 with hi | hi
  · have hx : zs[i]? = some (gi zs i) := by simp [gi, hl, hi]
    rw [hx]
    rcases (show i = 0 ∨ i = 1 ∨ i = 2 ∨ i = 3 ∨ i = 4 ∨ i = 5 ∨ i = 6 ∨ i = 7 ∨ i = 8 ∨ i = 9 ∨ i = 10 ∨ i = 11 ∨ i = 12 ∨ i = 13 ∨ i = 14 ∨ i = 15 ∨ i = 16 ∨ i = 17 ∨ i = 18 ∨ i = 19 ∨ i = 20 ∨ i = 21 ∨ i = 22 ∨ i = 23 by omega) with h | h | h | h | h | h | h | h | h | h | h | h | h | h | h | h | h | h | h | h | h | h | h | h <;> subst h <;> rfl
  · rw [List.getElem?_eq_none (by simpa using hi), List.getElem?_eq_none (by omega)]

/-- A world that has drawn more, and no more than that. -/
def Quiet (w w' : World) : Prop := ∃ m, w' = w.drewN m
theorem Quiet.drew (w : World) : Quiet w w.drew := ⟨1, rfl⟩
theorem Quiet.refl (w : World) : Quiet w w := ⟨0, rfl⟩
theorem Quiet.more {w w' w'' : World} (h : Quiet w w') (h' : ∃ m, w'' = w'.drewN m) : Quiet w w'' := by
  obtain ⟨a, rfl⟩ := h
  obtain ⟨b, rfl⟩ := h'
  exact ⟨a + b, World.drewN_drewN _ _ _⟩
theorem Quiet.reads {w w' : World} (h : Quiet w w') {B n : Nat} {A : Option Addr} {xs : List Value} (hr : Reads w B 1 A n xs) : Reads w' B 1 A n xs := by obtain ⟨m, rfl⟩ := h; exact hr.drewN m
theorem Quiet.cell {w w' : World} (h : Quiet w w') (p : Addr) : w'.cell? p = w.cell? p := by obtain ⟨m, rfl⟩ := h; rfl
theorem Quiet.blk {w w' : World} (h : Quiet w w') {g : Nat} {t : TypeId} {cs : Array Value} (hb : Blk w g t cs) : Blk w' g t cs := by obtain ⟨m, rfl⟩ := h; exact hb.drewN m
theorem Quiet.below {w w' v : World} {B : Nat} (h : Quiet w w') (hb : Below B v w) : Below B v w' := by obtain ⟨m, rfl⟩ := h; exact hb.trans ⟨rfl, rfl, rfl, Nat.le_refl _, fun _ _ => rfl⟩
theorem Quiet.size {w w' : World} (h : Quiet w w') : w'.heap.size = w.heap.size := by obtain ⟨m, rfl⟩ := h; rfl

theorem far_cell {g b : Nat} (h : g ≠ b) (w : World) (i j : Nat) (u : Value) : (w.setCell ⟨g, i, none⟩ u).cell? ⟨b, j, none⟩ = w.cell? ⟨b, j, none⟩ := World.cell?_setCell_other w _ _ u (fun e => h (by injection e))

set_option maxHeartbeats 2000000 in
theorem readReport_any {w : World} {B c : Nat} {ad : Addr} {zs : List Int} (h : Reads w B 1 (some ad) 24 (u8s zs)) (hz : Byts zs) (hc : 24 ≤ c) (hB : B ≤ w.heap.size) :
    Calls Tryd.prog 8 #[.slice (some ad) 24 c] w fun e w' => e = .returned (Rep.parse zs).val ∧ Below w.heap.size w w' := by
  obtain ⟨wo, hwo⟩ : ∃ wo, wo = w.alloc (.cells #[.int .u32 0, .int .u8 0, .int .u32 0, .int .u32 0, .int .u32 0, .int .u32 0, .int .u32 0] 24) := ⟨_, rfl⟩
  have hbl : Below w.heap.size w wo := by rw [hwo]; exact (Below.refl _ _).alloc (Nat.le_refl _) _
  have hr : Reads wo B 1 (some ad) 24 (u8s zs) := h.below (hbl.mono hB)
  have hblk : Blk wo w.heap.size 24 #[.int .u32 0, .int .u8 0, .int .u32 0, .int .u32 0, .int .u32 0, .int .u32 0, .int .u32 0] := by rw [hwo]; exact blk_new w _ _ rfl
  have c4 : wo.cell? ⟨ad.block, ad.off + 4, none⟩ = some (.int .u8 (gi zs 4)) := hr.byteS (k := 3) (by omega)
  have h5 := reads_subS hr 4 (by omega)
  have h8 := reads_subS hr 7 (by omega)
  have h12 := reads_subS hr 11 (by omega)
  have h16 := reads_subS hr 15 (by omega)
  have h20 := reads_subS hr 19 (by omega)
  have hl : (24 : Int) ≤ (c : Int) := by omega
  have hne : w.heap.size ≠ ad.block := by
    obtain ⟨ad', e, hb, _⟩ := h.2 (by omega)
    obtain rfl := Option.some.inj e
    omega
  go_enter Tryd.func8, Tryd.ntmps8
  go_wp2_with fail
  rw [← hwo]
  clear hwo
  go_region_held3 (fun w' => w'.cell? ⟨ad.block, ad.off + 4, none⟩ = some (.int .u8 (gi zs 4))) (first | go_keep | (simp only [far_cell hne]; assumption))
      (first
        | (go_at_call 18; refine (u32_any (B := B) (zs := zs) (w := _) ?_ ?_ ?_ ?_).mono ?_; exact (Quiet.drew wo).reads hr; exact hz; omega; omega; rintro e wa ⟨rfl, mwa⟩; have qwa := (Quiet.drew wo).more mwa; have c4wa := (qwa.cell ⟨ad.block, ad.off + 4, none⟩).trans c4)
        | (go_at_call 19; refine (u24_any (B := B) (zs := zs.drop 5) (w := _) ?_ ?_ ?_).mono ?_; exact qwa.reads h5; exact hz.drop _; omega; rintro e wb ⟨rfl, mwb⟩; have qwb := qwa.more mwb; have c4wb := (qwb.cell ⟨ad.block, ad.off + 4, none⟩).trans c4)
        | (go_at_call 18; refine (u32_any (B := B) (zs := zs.drop 8) (w := _) ?_ ?_ ?_ ?_).mono ?_; exact qwb.reads h8; exact hz.drop _; omega; omega; rintro e wc ⟨rfl, mwc⟩; have qwc := qwb.more mwc; have c4wc := (qwc.cell ⟨ad.block, ad.off + 4, none⟩).trans c4)
        | (go_at_call 18; refine (u32_any (B := B) (zs := zs.drop 12) (w := _) ?_ ?_ ?_ ?_).mono ?_; exact qwc.reads h12; exact hz.drop _; omega; omega; rintro e wd ⟨rfl, mwd⟩; have qwd := qwc.more mwd; have c4wd := (qwd.cell ⟨ad.block, ad.off + 4, none⟩).trans c4)
        | (go_at_call 18; refine (u32_any (B := B) (zs := zs.drop 16) (w := _) ?_ ?_ ?_ ?_).mono ?_; exact qwd.reads h16; exact hz.drop _; omega; omega; rintro e we ⟨rfl, mwe⟩; have qwe := qwd.more mwe; have c4we := (qwe.cell ⟨ad.block, ad.off + 4, none⟩).trans c4)
        | (go_at_call 18; refine (u32_any (B := B) (zs := zs.drop 20) (w := _) ?_ ?_ ?_ ?_).mono ?_; exact qwe.reads h20; exact hz.drop _; omega; omega; rintro e wf ⟨rfl, mwf⟩; have qwf := qwe.more mwf; have c4wf := (qwf.cell ⟨ad.block, ad.off + 4, none⟩).trans c4; have hkf := qwf.blk hblk; have fz0 := hkf.frozen 0; have fz1 := hkf.frozen 1; have fz2 := hkf.frozen 2; have fz3 := hkf.frozen 3; have fz4 := hkf.frozen 4; have fz5 := hkf.frozen 5; have fz6 := hkf.frozen 6; have cz0 : wf.cell? ⟨w.heap.size, 0, none⟩ = some (.int .u32 0) := hkf.cell 0; have cz1 : wf.cell? ⟨w.heap.size, 1, none⟩ = some (.int .u8 0) := hkf.cell 1; have cz2 : wf.cell? ⟨w.heap.size, 2, none⟩ = some (.int .u32 0) := hkf.cell 2; have cz3 : wf.cell? ⟨w.heap.size, 3, none⟩ = some (.int .u32 0) := hkf.cell 3; have cz4 : wf.cell? ⟨w.heap.size, 4, none⟩ = some (.int .u32 0) := hkf.cell 4; have cz5 : wf.cell? ⟨w.heap.size, 5, none⟩ = some (.int .u32 0) := hkf.cell 5; have cz6 : wf.cell? ⟨w.heap.size, 6, none⟩ = some (.int .u32 0) := hkf.cell 6))
  go_wp2_with fail
  have hk7 : Blk _ w.heap.size 24 #[.int .u32 (rd32 zs 0), .int .u8 (gi zs 4), .int .u32 (rd24 (zs.drop 5) 0), .int .u32 (rd32 (zs.drop 8) 0), .int .u32 (rd32 (zs.drop 12) 0), .int .u32 (rd32 (zs.drop 16) 0), .int .u32 (rd32 (zs.drop 20) 0)] := (((((((hkf.set_ 0 (.int .u32 (rd32 zs 0))).set_ 1 (.int .u8 (gi zs 4))).set_ 2 (.int .u32 (rd24 (zs.drop 5) 0))).set_ 3 (.int .u32 (rd32 (zs.drop 8) 0))).set_ 4 (.int .u32 (rd32 (zs.drop 12) 0))).set_ 5 (.int .u32 (rd32 (zs.drop 16) 0))).set_ 6 (.int .u32 (rd32 (zs.drop 20) 0)))
  have k0 := (hk7.cell 0).trans (show _ = some (.int .u32 (rd32 zs 0)) from rfl)
  have k1 := (hk7.cell 1).trans (show _ = some (.int .u8 (gi zs 4)) from rfl)
  have k2 := (hk7.cell 2).trans (show _ = some (.int .u32 (rd24 (zs.drop 5) 0)) from rfl)
  have k3 := (hk7.cell 3).trans (show _ = some (.int .u32 (rd32 (zs.drop 8) 0)) from rfl)
  have k4 := (hk7.cell 4).trans (show _ = some (.int .u32 (rd32 (zs.drop 12) 0)) from rfl)
  have k5 := (hk7.cell 5).trans (show _ = some (.int .u32 (rd32 (zs.drop 16) 0)) from rfl)
  have k6 := (hk7.cell 6).trans (show _ = some (.int .u32 (rd32 (zs.drop 20) 0)) from rfl)
  refine bodyPost_ret (v := .agg #[.int .u32 (rd32 zs 0), .int .u8 (gi zs 4), .int .u32 (rd24 (zs.drop 5) 0), .int .u32 (rd32 (zs.drop 8) 0), .int .u32 (rd32 (zs.drop 12) 0), .int .u32 (rd32 (zs.drop 16) 0), .int .u32 (rd32 (zs.drop 20) 0)]) (by simp [results, Tryd.results8, go_sem, k0, k1, k2, k3, k4, k5, k6]) rfl ⟨?_, ((((((((qwf.below hbl).setCell (p := ⟨w.heap.size, 0, none⟩) (Nat.le_refl _) (.int .u32 (rd32 zs 0))).setCell (p := ⟨w.heap.size, 1, none⟩) (Nat.le_refl _) (.int .u8 (gi zs 4))).setCell (p := ⟨w.heap.size, 2, none⟩) (Nat.le_refl _) (.int .u32 (rd24 (zs.drop 5) 0))).setCell (p := ⟨w.heap.size, 3, none⟩) (Nat.le_refl _) (.int .u32 (rd32 (zs.drop 8) 0))).setCell (p := ⟨w.heap.size, 4, none⟩) (Nat.le_refl _) (.int .u32 (rd32 (zs.drop 12) 0))).setCell (p := ⟨w.heap.size, 5, none⟩) (Nat.le_refl _) (.int .u32 (rd32 (zs.drop 16) 0))).setCell (p := ⟨w.heap.size, 6, none⟩) (Nat.le_refl _) (.int .u32 (rd32 (zs.drop 20) 0)))⟩
  simp [Rep.val, Rep.parse, rd24_drop, rd32_drop]
end Go.Proofs.YtcikhjolehlchaaDoor
