/-
  THE WALKS of the tests on lengths: they return a truth value and turn nothing. Condition: what is walked through reads as lists.
-/
import Derived.Test.YtmmfpgoodfgkbaaGreatMPkt
namespace Go.Proofs.YtmmfpgoodfgkbaaGreat
open Go Go.RowKit
set_option linter.unusedVariables false

/-- A truth value is handed back, nothing has turned. -/
def Tells (w : World) (e : Ending) (w' : World) : Prop := ∃ b, e = .returned (.bool b) ∧ Below w.heap.size w w'

theorem item_cells_len : ∀ (l : List Item), ∀ x ∈ l, (Item.cells x).length = 2 := fun _ _ _ => rfl
set_option maxHeartbeats 400000 in
theorem zzFits5_any (x : Item) (w : World) : Calls Tryz.prog 82 #[.agg #[.int .u8 x.ty, .string x.text]] w (Tells w) := by
  by_cases hb : (2147483647 : Int) < ((x.text.size : Nat) : Int)
  · go_enter Tryz.func82, Tryz.ntmps82
    go_wp2_with fail
    go_ret
    exact ⟨_, rfl, (Below.refl _ _).alloc (Nat.le_refl _) _⟩
  · go_enter Tryz.func82, Tryz.ntmps82
    go_wp2_with fail
    go_ret
    exact ⟨_, rfl, (Below.refl _ _).alloc (Nat.le_refl _) _⟩

set_option maxHeartbeats 1000000 in
theorem zzFits4_any (B : Nat) (A : Option Addr) (c : Nat) (l : List Item) (w : World) (hr : Reads w B 2 A l.length (l.flatMap Item.cells)) (hB : B ≤ w.heap.size) :
    Calls Tryz.prog 71 #[.slice A (l.length : Nat) c] w (Tells w) := by
  by_cases hbig : (2147483647 : Int) < ((l.length : Nat) : Int)
  · go_enter Tryz.func71, Tryz.ntmps71
    go_wp2_with fail
    go_ret
    exact ⟨_, rfl, Below.refl _ _⟩
  go_enter Tryz.func71, Tryz.ntmps71
  go_wp2_with fail
  go_loopw [10] (fun i wr => ∃ k : Nat, k ≤ l.length ∧ i = .int .i64 k ∧ Below w.heap.size w wr)
    (fun i _ => l.length - (intOf i).toNat)
  case atStart => exact ⟨0, by omega, rfl, Below.refl _ _⟩
  case round =>
    obtain ⟨k, hk, rfl, hb⟩ := hrel
    have hz := hb.size
    by_cases hlt : k < l.length
    · obtain ⟨b, off, rfl, hbB⟩ := hr.addr (by omega) (by omega)
      have hrw := (hr.more hB).below hb
      obtain ⟨r, hrk⟩ : ∃ r, r = l[k] := ⟨_, rfl⟩
      have e0 := hrw.at2 (item_cells_len l) k 0 hlt (by omega) (v := .int .u8 r.ty) (by rw [hrk]; rfl)
      have e1 := hrw.at2 (item_cells_len l) k 1 hlt (by omega) (v := .string r.text) (by rw [hrk]; rfl)
      simp only [Nat.add_zero] at e0
      have Hrk : Hid (r ∈ l) := by show r ∈ l; rw [hrk]; exact List.getElem_mem hlt
      clear hrk
      go_wp2_with fail
      refine (zzFits5_any r _).mono ?_
      rintro e w1 ⟨t, rfl, hb1⟩
      have hbn : Below w.heap.size w w1 := (hb.alloc hz _).trans (hb1.mono (by simp; omega))
      clear e0 e1
      cases t
      · go_wp2_with fail
        go_ret
        exact ⟨_, rfl, hbn⟩
      · go_wp2_with fail
        exact ⟨⟨k + 1, by omega, by go_num, hbn⟩, by simp [intOf]; omega⟩
    · obtain rfl : k = l.length := by omega
      go_wp2_with fail
      go_ret
      exact ⟨_, rfl, hb⟩

theorem chunk_cells_len : ∀ (l : List Chunk), ∀ x ∈ l, (Chunk.cells x).length = 2 := fun _ _ _ => rfl
set_option maxHeartbeats 400000 in
theorem zzFits3_any (x : Chunk) (B : Nat) (w : World) (h : x.items.Lies w B 2 Item.cells) (hB : B ≤ w.heap.size) :
    Calls Tryz.prog 49 #[.agg #[.int .u32 x.src, x.items.val]] w (Tells w) := by
  obtain ⟨s, A, c, l⟩ := x
  unfold Sl.val
  go_enter Tryz.func49, Tryz.ntmps49
  go_wp2_with fail
  refine (zzFits4_any B A c l _ (Reads.alloc h hB _) (by simp; omega)).mono ?_
  rintro e w1 ⟨b, rfl, hb1⟩
  have hb : Below w.heap.size w w1 := ((Below.refl _ _).alloc (Nat.le_refl _) _).trans (hb1.mono (by simp))
  cases b
  · go_wp2_with fail
    go_ret
    exact ⟨_, rfl, hb⟩
  · go_wp2_with fail
    go_ret
    exact ⟨_, rfl, hb⟩

set_option maxHeartbeats 1000000 in
theorem zzFits2_any (B : Nat) (A : Option Addr) (c : Nat) (l : List Chunk) (w : World) (hr : Reads w B 2 A l.length (l.flatMap Chunk.cells)) (hi : ∀ x ∈ l, x.items.Lies w B 2 Item.cells) (hB : B ≤ w.heap.size) :
    Calls Tryz.prog 21 #[.slice A (l.length : Nat) c] w (Tells w) := by
  by_cases hbig : (2147483647 : Int) < ((l.length : Nat) : Int)
  · go_enter Tryz.func21, Tryz.ntmps21
    go_wp2_with fail
    go_ret
    exact ⟨_, rfl, Below.refl _ _⟩
  go_enter Tryz.func21, Tryz.ntmps21
  go_wp2_with fail
  go_loopw [10] (fun i wr => ∃ k : Nat, k ≤ l.length ∧ i = .int .i64 k ∧ Below w.heap.size w wr)
    (fun i _ => l.length - (intOf i).toNat)
  case atStart => exact ⟨0, by omega, rfl, Below.refl _ _⟩
  case round =>
    obtain ⟨k, hk, rfl, hb⟩ := hrel
    have hz := hb.size
    by_cases hlt : k < l.length
    · obtain ⟨b, off, rfl, hbB⟩ := hr.addr (by omega) (by omega)
      have hrw := (hr.more hB).below hb
      obtain ⟨r, hrk⟩ : ∃ r, r = l[k] := ⟨_, rfl⟩
      have e0 := hrw.at2 (chunk_cells_len l) k 0 hlt (by omega) (v := .int .u32 r.src) (by rw [hrk]; rfl)
      have e1 := hrw.at2 (chunk_cells_len l) k 1 hlt (by omega) (v := .slice r.items.A (r.items.l.length : Nat) r.items.c) (by rw [hrk]; rfl)
      simp only [Nat.add_zero] at e0
      have Hrk : Hid (r ∈ l) := by show r ∈ l; rw [hrk]; exact List.getElem_mem hlt
      clear hrk
      go_wp2_with fail
      refine (zzFits3_any r B _ ?_ ?_).mono ?_
      · exact Reads.alloc ((hi r Hrk.out).below (hb.mono hB)) (Nat.le_trans hB hz) _
      · simp; omega
      rintro e w1 ⟨t, rfl, hb1⟩
      have hbn : Below w.heap.size w w1 := (hb.alloc hz _).trans (hb1.mono (by simp; omega))
      clear e0 e1
      cases t
      · go_wp2_with fail
        go_ret
        exact ⟨_, rfl, hbn⟩
      · go_wp2_with fail
        exact ⟨⟨k + 1, by omega, by go_num, hbn⟩, by simp [intOf]; omega⟩
    · obtain rfl : k = l.length := by omega
      go_wp2_with fail
      go_ret
      exact ⟨_, rfl, hb⟩

theorem blo_cells_len : ∀ (l : List Blo), ∀ x ∈ l, (Blo.cells x).length = 3 := fun _ _ _ => rfl
set_option maxHeartbeats 400000 in
theorem zzFits7_any (x : Blo) (w : World) : Calls Tryz.prog 50 #[.agg #[.int .u32 x.media, .int .u16 x.first, x.mets.val]] w (Tells w) := by
  by_cases hb : (2147483647 : Int) < ((x.mets.l.length : Nat) : Int)
  · unfold Sl.val; go_enter Tryz.func50, Tryz.ntmps50
    go_wp2_with fail
    go_ret
    exact ⟨_, rfl, (Below.refl _ _).alloc (Nat.le_refl _) _⟩
  · unfold Sl.val; go_enter Tryz.func50, Tryz.ntmps50
    go_wp2_with fail
    go_ret
    exact ⟨_, rfl, (Below.refl _ _).alloc (Nat.le_refl _) _⟩

set_option maxHeartbeats 1000000 in
theorem zzFits6_any (B : Nat) (A : Option Addr) (c : Nat) (l : List Blo) (w : World) (hr : Reads w B 3 A l.length (l.flatMap Blo.cells)) (hB : B ≤ w.heap.size) :
    Calls Tryz.prog 22 #[.slice A (l.length : Nat) c] w (Tells w) := by
  by_cases hbig : (2147483647 : Int) < ((l.length : Nat) : Int)
  · go_enter Tryz.func22, Tryz.ntmps22
    go_wp2_with fail
    go_ret
    exact ⟨_, rfl, Below.refl _ _⟩
  go_enter Tryz.func22, Tryz.ntmps22
  go_wp2_with fail
  go_loopw [10] (fun i wr => ∃ k : Nat, k ≤ l.length ∧ i = .int .i64 k ∧ Below w.heap.size w wr)
    (fun i _ => l.length - (intOf i).toNat)
  case atStart => exact ⟨0, by omega, rfl, Below.refl _ _⟩
  case round =>
    obtain ⟨k, hk, rfl, hb⟩ := hrel
    have hz := hb.size
    by_cases hlt : k < l.length
    · obtain ⟨b, off, rfl, hbB⟩ := hr.addr (by omega) (by omega)
      have hrw := (hr.more hB).below hb
      obtain ⟨r, hrk⟩ : ∃ r, r = l[k] := ⟨_, rfl⟩
      have e0 := hrw.at2 (blo_cells_len l) k 0 hlt (by omega) (v := .int .u32 r.media) (by rw [hrk]; rfl)
      have e1 := hrw.at2 (blo_cells_len l) k 1 hlt (by omega) (v := .int .u16 r.first) (by rw [hrk]; rfl)
      have e2 := hrw.at2 (blo_cells_len l) k 2 hlt (by omega) (v := .slice r.mets.A (r.mets.l.length : Nat) r.mets.c) (by rw [hrk]; rfl)
      simp only [Nat.add_zero] at e0
      have Hrk : Hid (r ∈ l) := by show r ∈ l; rw [hrk]; exact List.getElem_mem hlt
      clear hrk
      go_wp2_with fail
      refine (zzFits7_any r _).mono ?_
      rintro e w1 ⟨t, rfl, hb1⟩
      have hbn : Below w.heap.size w w1 := (hb.alloc hz _).trans (hb1.mono (by simp; omega))
      clear e0 e1 e2
      cases t
      · go_wp2_with fail
        go_ret
        exact ⟨_, rfl, hbn⟩
      · go_wp2_with fail
        exact ⟨⟨k + 1, by omega, by go_num, hbn⟩, by simp [intOf]; omega⟩
    · obtain rfl : k = l.length := by omega
      go_wp2_with fail
      go_ret
      exact ⟨_, rfl, hb⟩

theorem sta_cells_len : ∀ (l : List Sta), ∀ x ∈ l, (Sta.cells x).length = 5 := fun _ _ _ => rfl
set_option maxHeartbeats 400000 in
theorem zzFits9_any (x : Sta) (w : World) : Calls Tryz.prog 51 #[.agg #[.bool x.vec, .int .u16 x.sym, .int .u16 x.size, .int .u16 x.run, x.list.val]] w (Tells w) := by
  by_cases hb : (2147483647 : Int) < ((x.list.l.length : Nat) : Int)
  · unfold Sl.val; go_enter Tryz.func51, Tryz.ntmps51
    go_wp2_with fail
    go_ret
    exact ⟨_, rfl, (Below.refl _ _).alloc (Nat.le_refl _) _⟩
  · unfold Sl.val; go_enter Tryz.func51, Tryz.ntmps51
    go_wp2_with fail
    go_ret
    exact ⟨_, rfl, (Below.refl _ _).alloc (Nat.le_refl _) _⟩

set_option maxHeartbeats 1000000 in
theorem zzFits8_any (B : Nat) (A : Option Addr) (c : Nat) (l : List Sta) (w : World) (hr : Reads w B 5 A l.length (l.flatMap Sta.cells)) (hB : B ≤ w.heap.size) :
    Calls Tryz.prog 23 #[.slice A (l.length : Nat) c] w (Tells w) := by
  by_cases hbig : (2147483647 : Int) < ((l.length : Nat) : Int)
  · go_enter Tryz.func23, Tryz.ntmps23
    go_wp2_with fail
    go_ret
    exact ⟨_, rfl, Below.refl _ _⟩
  go_enter Tryz.func23, Tryz.ntmps23
  go_wp2_with fail
  go_loopw [10] (fun i wr => ∃ k : Nat, k ≤ l.length ∧ i = .int .i64 k ∧ Below w.heap.size w wr)
    (fun i _ => l.length - (intOf i).toNat)
  case atStart => exact ⟨0, by omega, rfl, Below.refl _ _⟩
  case round =>
    obtain ⟨k, hk, rfl, hb⟩ := hrel
    have hz := hb.size
    by_cases hlt : k < l.length
    · obtain ⟨b, off, rfl, hbB⟩ := hr.addr (by omega) (by omega)
      have hrw := (hr.more hB).below hb
      obtain ⟨r, hrk⟩ : ∃ r, r = l[k] := ⟨_, rfl⟩
      have e0 := hrw.at2 (sta_cells_len l) k 0 hlt (by omega) (v := .bool r.vec) (by rw [hrk]; rfl)
      have e1 := hrw.at2 (sta_cells_len l) k 1 hlt (by omega) (v := .int .u16 r.sym) (by rw [hrk]; rfl)
      have e2 := hrw.at2 (sta_cells_len l) k 2 hlt (by omega) (v := .int .u16 r.size) (by rw [hrk]; rfl)
      have e3 := hrw.at2 (sta_cells_len l) k 3 hlt (by omega) (v := .int .u16 r.run) (by rw [hrk]; rfl)
      have e4 := hrw.at2 (sta_cells_len l) k 4 hlt (by omega) (v := .slice r.list.A (r.list.l.length : Nat) r.list.c) (by rw [hrk]; rfl)
      simp only [Nat.add_zero] at e0
      have Hrk : Hid (r ∈ l) := by show r ∈ l; rw [hrk]; exact List.getElem_mem hlt
      clear hrk
      go_wp2_with fail
      refine (zzFits9_any r _).mono ?_
      rintro e w1 ⟨t, rfl, hb1⟩
      have hbn : Below w.heap.size w w1 := (hb.alloc hz _).trans (hb1.mono (by simp; omega))
      clear e0 e1 e2 e3 e4
      cases t
      · go_wp2_with fail
        go_ret
        exact ⟨_, rfl, hbn⟩
      · go_wp2_with fail
        exact ⟨⟨k + 1, by omega, by go_num, hbn⟩, by simp [intOf]; omega⟩
    · obtain rfl : k = l.length := by omega
      go_wp2_with fail
      go_ret
      exact ⟨_, rfl, hb⟩
end Go.Proofs.YtmmfpgoodfgkbaaGreat
/-
  THE WALK of the test on a packet's lengths. Condition: the packet's slices read as lists.
-/
namespace Go.Proofs.YtmmfpgoodfgkbaaGreat
open Go Go.RowKit
set_option linter.unusedVariables false

/-- A truth value is handed back; yes: the two lists are not too long; nothing has turned. -/
def Fits (p : Pkt) (w : World) (e : Ending) (w' : World) : Prop := ∃ b, e = .returned (.bool b) ∧ (b = true → p.pairs.l.length ≤ 2147483647 ∧ p.slices.l.length ≤ 2147483647) ∧ Below w.heap.size w w'
theorem Fits.no {p : Pkt} {w w' : World} (h : Below w.heap.size w w') : Fits p w (.returned (.bool false)) w' := ⟨false, rfl, by simp, h⟩

set_option maxHeartbeats 1000000 in
theorem zzFits1_any (p : Pkt) (w : World) (h : p.Lies w w.heap.size) :
    Calls Tryz.prog 7 #[.agg p.cells] w (Fits p w) := by
  have hp7 : p.cells[7]? = some (.slice p.reports.A (p.reports.l.length : Nat) p.reports.c) := rfl
  have hp8 : p.cells[8]? = some (.slice p.ext.A (p.ext.l.length : Nat) p.ext.c) := rfl
  have hp9 : p.cells[9]? = some (.slice p.chunks.A (p.chunks.l.length : Nat) p.chunks.c) := rfl
  have hb0 : Below w.heap.size w (w.alloc (.cells p.cells 38)) := (Below.refl _ _).alloc (Nat.le_refl _) _
  go_enter Tryz.func7, Tryz.ntmps7
  go_wp2_with fail
  all_goals try (go_ret; exact Fits.no hb0)
  refine (zzFits2_any w.heap.size p.chunks.A p.chunks.c p.chunks.l _ (h.chunks.below hb0) (fun x hx => (h.items x hx).below hb0) (by simp)).mono ?_
  rintro e w1 ⟨b1, rfl, hb1⟩
  have hx1 : Blk w1 w.heap.size 38 p.cells := (blk_new w _ _ rfl).below hb1 (by simp)
  have hb : Below w.heap.size w w1 := hb0.trans (hb1.mono (by simp))
  clear hp7 hp8 hp9 hb0
  have hz1 := hb.size
  have c10 : w1.cell? ⟨w.heap.size, 10, none⟩ = some (.slice p.sources.A (p.sources.l.length : Nat) p.sources.c) := hx1.cell 10
  have c11 : w1.cell? ⟨w.heap.size, 11, none⟩ = some (.string p.text) := hx1.cell 11
  have c13 : w1.cell? ⟨w.heap.size, 13, none⟩ = some (.slice p.data.A (p.data.l.length : Nat) p.data.c) := hx1.cell 13
  have c14 : w1.cell? ⟨w.heap.size, 14, none⟩ = some (.slice p.pairs.A (p.pairs.l.length : Nat) p.pairs.c) := hx1.cell 14
  have c15 : w1.cell? ⟨w.heap.size, 15, none⟩ = some (.slice p.slices.A (p.slices.l.length : Nat) p.slices.c) := hx1.cell 15
  have c16 : w1.cell? ⟨w.heap.size, 16, none⟩ = some (.slice p.entries.A (p.entries.l.length : Nat) p.entries.c) := hx1.cell 16
  have c18 : w1.cell? ⟨w.heap.size, 18, none⟩ = some (.slice p.blocks.A (p.blocks.l.length : Nat) p.blocks.c) := hx1.cell 18
  cases b1
  · go_wp2_with fail
    go_ret
    exact Fits.no hb
  by_cases hpl : (2147483647 : Int) < ((p.pairs.l.length : Nat) : Int)
  · go_wp2_with fail
    all_goals (go_ret; exact Fits.no hb)
  by_cases hsl : (2147483647 : Int) < ((p.slices.l.length : Nat) : Int)
  · go_wp2_with fail
    all_goals (go_ret; exact Fits.no hb)
  go_wp2_with fail
  all_goals try (go_ret; exact Fits.no hb)
  refine (zzFits6_any w.heap.size p.blocks.A p.blocks.c p.blocks.l _ (h.blocks.below hb) hz1).mono ?_
  rintro e w2 ⟨b2, rfl, hb2⟩
  have hx2 := hx1.below hb2 hx1.lt
  have hbb : Below w.heap.size w w2 := hb.trans (hb2.mono hz1)
  have hz2 := hbb.size
  have c24 : w2.cell? ⟨w.heap.size, 24, none⟩ = some (.slice p.stats.A (p.stats.l.length : Nat) p.stats.c) := hx2.cell 24
  clear c10 c11 c13 c14 c15 c16 c18
  cases b2
  · go_wp2_with fail
    go_ret
    exact Fits.no hbb
  go_wp2_with fail
  refine (zzFits8_any w.heap.size p.stats.A p.stats.c p.stats.l _ (h.stats.below hbb) hz2).mono ?_
  rintro e w3 ⟨b3, rfl, hb3⟩
  have hx3 := hx2.below hb3 hx2.lt
  have hb' : Below w.heap.size w w3 := hbb.trans (hb3.mono hz2)
  have c25 : w3.cell? ⟨w.heap.size, 25, none⟩ = some (.slice p.deltas.A (p.deltas.l.length : Nat) p.deltas.c) := hx3.cell 25
  clear c24
  cases b3
  · go_wp2_with fail
    go_ret
    exact Fits.no hb'
  go_wp2_with fail
  · go_ret
    exact Fits.no hb'
  · go_ret
    exact ⟨true, rfl, fun _ => ⟨by omega, by omega⟩, hb'⟩
end Go.Proofs.YtmmfpgoodfgkbaaGreat
