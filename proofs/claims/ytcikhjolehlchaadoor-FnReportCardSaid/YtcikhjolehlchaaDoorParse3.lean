/-
  READING A REPORT BLOCK by the thin package. Condition: the slice reads as twenty-four bytes.
-/
import Derived.Test.YtcikhjolehlchaaDoorParse2
namespace Go.Proofs.YtcikhjolehlchaaDoor
open Go Go.RowKit
set_option linter.unusedVariables false

set_option maxHeartbeats 1000000 in
theorem plainReport_any (r : Rep) (w : World) :
    Calls Tryd.prog 17 #[r.val] w fun e w' => e = .returned r.val ∧ Below w.heap.size w w' := by
  obtain ⟨x0, x1, x2, x3, x4, x5, x6⟩ := r
  unfold Rep.val
  go_enter Tryd.func17, Tryd.ntmps17
  go_wp2_with fail
  refine bodyPost_ret (v := .agg #[.int .u32 x0, .int .u8 x1, .int .u32 x2, .int .u32 x3, .int .u32 x4, .int .u32 x5, .int .u32 x6]) ?_ rfl ⟨rfl, ?_⟩
  · simp [results, Tryd.results17, go_sem]
  · exact ((Below.refl _ _).alloc (Nat.le_refl _) _).alloc (by simp) _

def Rep.cells7 (r : Rep) : Array Value := #[.int .u32 r.ssrc, .int .u8 r.frac, .int .u32 r.lost, .int .u32 r.seq, .int .u32 r.jit, .int .u32 r.last, .int .u32 r.dly]

set_option maxHeartbeats 2000000 in
theorem parseClo_any (Bd Bo B c : Nat) (ad : Addr) (zs : List Int) (w : World) (h : Reads w B 1 (some ad) 24 (u8s zs)) (hB : B ≤ w.heap.size) (hz : Byts zs) (hd : Blk w Bd 25 #[.slice (some ad) 24 c])
    (ho : Blk w Bo 29 #[.int .u32 0, .int .u8 0, .int .u32 0, .int .u32 0, .int .u32 0, .int .u32 0, .int .u32 0]) :
    Calls Tryd.prog 14 #[.pointer (some ⟨Bd, 0, none⟩), .pointer (some ⟨Bo, 0, none⟩)] w fun e w' =>
      e = .returned (.bool true) ∧ Blk w' Bo 29 (Rep.parse zs).cells7 ∧ w.grownBy w' (some Bo) := by
  have c0 : w.cell? ⟨Bd, 0, none⟩ = some (.slice (some ad) 24 c) := hd.cell 0
  have hdl := hd.lt
  have hol := ho.lt
  have hb0 : Below w.heap.size w (w.alloc (.cells #[.int .u32 0, .int .u8 0, .int .u32 0, .int .u32 0, .int .u32 0, .int .u32 0, .int .u32 0] 42)) := (Below.refl _ _).alloc (Nat.le_refl _) _
  go_enter Tryd.func14, Tryd.ntmps14
  go_wp2_with fail
  refine (clone8 B (some ad) 24 c (u8s zs) _ (h.alloc hB _) (u8s_one zs) (by simp; omega) (by omega)).mono ?_
  rintro e w1 ⟨v1, rfl, hown1, hb1⟩
  rcases hown1.2 with ⟨_, hx⟩ | ⟨g, cap, cur, rfl, hg, _, hcap, _⟩
  · exact absurd hx (by omega)
  simp only [World.size_alloc] at hg
  have hR : Blk w1 w.heap.size 42 #[.int .u32 0, .int .u8 0, .int .u32 0, .int .u32 0, .int .u32 0, .int .u32 0, .int .u32 0] := (blk_new w _ _ rfl).below hb1 (by simp)
  have hz1 : w.heap.size + 1 ≤ w1.heap.size := by have := hb1.size; simpa using this
  go_wp2_with fail
  refine (unmarshal_any (B := w1.heap.size) (zs := zs) (reads_of_own hown1) hz hcap (by show w.heap.size ≠ g; omega) hR).mono ?_
  rintro e w2 ⟨rfl, u2⟩
  have k0 : w2.cell? ⟨w.heap.size, 0, none⟩ = some (.int .u32 (rd32 zs 0)) := u2.blk.cell 0
  have k1 : w2.cell? ⟨w.heap.size, 1, none⟩ = some (.int .u8 (gi zs 4)) := u2.blk.cell 1
  have k2 : w2.cell? ⟨w.heap.size, 2, none⟩ = some (.int .u32 (rd24 zs 5)) := u2.blk.cell 2
  have k3 : w2.cell? ⟨w.heap.size, 3, none⟩ = some (.int .u32 (rd32 zs 8)) := u2.blk.cell 3
  have k4 : w2.cell? ⟨w.heap.size, 4, none⟩ = some (.int .u32 (rd32 zs 12)) := u2.blk.cell 4
  have k5 : w2.cell? ⟨w.heap.size, 5, none⟩ = some (.int .u32 (rd32 zs 16)) := u2.blk.cell 5
  have k6 : w2.cell? ⟨w.heap.size, 6, none⟩ = some (.int .u32 (rd32 zs 20)) := u2.blk.cell 6
  go_wp2_with fail
  refine (plainReport_any (Rep.parse zs) w2).mono ?_
  rintro e w3 ⟨rfl, hb3⟩
  have hgr : w.grownBy w3 none := grownBy_trans (grownBy_trans (grownBy_of_below (hb0.trans (hb1.mono (by simp))) none) u2.grown (.inr fun k hk => by simp at hk; omega)) (grownBy_of_below hb3 none) (.inl rfl)
  have ho3 := ho.grown hgr (by simp)
  have f0 := ho3.frozen 0
  have f1 := ho3.frozen 1
  have f2 := ho3.frozen 2
  have f3 := ho3.frozen 3
  have f4 := ho3.frozen 4
  have f5 := ho3.frozen 5
  have f6 := ho3.frozen 6
  have q0 : w3.cell? ⟨Bo, 0, none⟩ = some (.int .u32 0) := ho3.cell 0
  have q1 : w3.cell? ⟨Bo, 1, none⟩ = some (.int .u8 0) := ho3.cell 1
  have q2 : w3.cell? ⟨Bo, 2, none⟩ = some (.int .u32 0) := ho3.cell 2
  have q3 : w3.cell? ⟨Bo, 3, none⟩ = some (.int .u32 0) := ho3.cell 3
  have q4 : w3.cell? ⟨Bo, 4, none⟩ = some (.int .u32 0) := ho3.cell 4
  have q5 : w3.cell? ⟨Bo, 5, none⟩ = some (.int .u32 0) := ho3.cell 5
  have q6 : w3.cell? ⟨Bo, 6, none⟩ = some (.int .u32 0) := ho3.cell 6
  have qT : ∀ w : World, (binOp .eql 39 .nilIface .nilIface).run Tryd.prog w = .ok (.bool true) w := fun w => by kernel_rfl
  unfold Rep.val Rep.parse
  go_wp2_with fail
  go_ret
  refine ⟨rfl, ((((((ho3.set_ 0 _).set_ 1 _).set_ 2 _).set_ 3 _).set_ 4 _).set_ 5 _).set_ 6 _, ?_⟩
  have g7 : ∀ v0 v1 v2 v3 v4 v5 v6, w3.grownBy (((((((w3.setCell ⟨Bo, 0, none⟩ v0).setCell ⟨Bo, 1, none⟩ v1).setCell ⟨Bo, 2, none⟩ v2).setCell ⟨Bo, 3, none⟩ v3).setCell ⟨Bo, 4, none⟩ v4).setCell ⟨Bo, 5, none⟩ v5).setCell ⟨Bo, 6, none⟩ v6) (some Bo) := fun v0 v1 v2 v3 v4 v5 v6 =>
    grownBy_trans (grownBy_trans (grownBy_trans (grownBy_trans (grownBy_trans (grownBy_trans (grownBy_setCell _ _ _) (grownBy_setCell _ _ _) (.inl rfl)) (grownBy_setCell _ _ _) (.inl rfl)) (grownBy_setCell _ _ _) (.inl rfl)) (grownBy_setCell _ _ _) (.inl rfl)) (grownBy_setCell _ _ _) (.inl rfl)) (grownBy_setCell _ _ _) (.inl rfl)
  exact grownBy_trans (grownBy_weak hgr) (g7 _ _ _ _ _ _ _) (.inl rfl)

theorem conv_reads {w : World} {B n c : Nat} {ad : Addr} {zs : List Int} (h : Reads w B 1 (some ad) n (u8s zs)) : (convert 25 9 (.slice (some ad) n c)).run Tryd.prog w = .ok (.string (strOfNums zs)) w := by
  have hlen : zs.length = n := by have := h.1; rw [u8s_len] at this; omega
  have hl : (loadCells ad n).run Tryd.prog w = .ok (zs.map (Value.int .u8)).toArray w := by
    have := run_loadCells_list (P := Tryd.prog) w ad (zs.map (Value.int .u8)) (fun j v hj => by
      have hjl : j < zs.length := by simpa using (List.getElem?_eq_some_iff.1 hj).1
      rw [h.byte (by omega)]
      simp [List.getElem?_eq_getElem hjl] at hj
      subst hj
      simp [gi, hjl])
    simpa [hlen] using this
  rw [run_convert_bytes_string w 25 9 5 _ n c Tryd.underlying25 Tryd.underlying5 Tryd.underlying9, run_bytesToString w _ n c zs hl, foldl_push_bytes]
  simp [strOfNums, ByteArray.empty, ByteArray.emptyWithCapacity]
  rfl

def ParseQ (W : World) (Bo : Nat) (r : Rep) (b : Bool) (w' : World) : Prop :=
  b = true ∧ Blk w' Bo 29 r.cells7 ∧ W.grownBy w' (some Bo)

set_option maxHeartbeats 1000000 in
theorem implParse_any (B c : Nat) (ad : Addr) (zs : List Int) (w : World) (h : Reads w B 1 (some ad) 24 (u8s zs)) (hB : B ≤ w.heap.size) (hz : Byts zs) :
    Calls Tryd.prog 7 #[.slice (some ad) 24 c] w fun e w' =>
      e = .returned (.tuple #[(Rep.parse zs).val, .bool true]) ∧ Below w.heap.size w w' := by
  have hmf : ∀ (fn : Fn) (first cap : Array Value) (w : World), (Instr.makeFunc fn first cap).run Tryd.prog w = .ok (.func fn first cap) w := fun _ _ _ _ => rfl
  obtain ⟨r, hr⟩ : ∃ r, r = Rep.parse zs := ⟨_, rfl⟩
  rw [← hr]
  obtain ⟨x0, x1, x2, x3, x4, x5, x6⟩ := r
  go_enter Tryd.func7, Tryd.ntmps7
  go_wp2_with fail
  refine (try_any 14 _ _ (ParseQ (((w.alloc (.cells #[.slice (some ad) 24 c] 25)).alloc (.cells #[.int .u32 0, .int .u8 0, .int .u32 0, .int .u32 0, .int .u32 0, .int .u32 0, .int .u32 0] 29)).alloc (.cells #[.bool false] 4)) (w.heap.size + 1) ⟨x0, x1, x2, x3, x4, x5, x6⟩) (fun _ => by kernel_rfl)
    ((parseClo_any w.heap.size (w.heap.size + 1) B c ad zs _ (((h.alloc hB _).alloc (by simp; omega) _).alloc (by simp; omega) _) (by simp; omega) hz (((blk_new w _ _ rfl).alloc _).alloc _) ((blk_new _ _ _ (by simp)).alloc _)).mono ?_)).mono ?_
  · rintro e w1 ⟨rfl, ho, hgr⟩
    rw [← hr] at ho
    exact ⟨true, rfl, ⟨rfl, ho, hgr⟩, (blk_new _ _ _ rfl).grown hgr (by simp)⟩
  · rintro e w2 ⟨b, w1, rfl, ⟨rfl, ho, hgr⟩, hgt, hzt⟩
    simp only [World.size_alloc] at hgt
    have hz1 := hgr.size
    simp only [World.size_alloc] at hz1
    have ho2 := ho.grown hgt (by simp)
    have hbl : Below w.heap.size w w2 := ((((Below.refl _ _).alloc (Nat.le_refl _) _).alloc (by simp) _).alloc (by simp; omega) _ |>.grown hgr (by simp; omega) (by intro k hk; simp at hk; omega)).grown hgt (by omega) (by intro k hk; simp at hk; omega)
    clear hgr hgt
    clear ho
    have ho2' : Blk w2 (w.heap.size + 1) 29 #[.int .u32 x0, .int .u8 x1, .int .u32 x2, .int .u32 x3, .int .u32 x4, .int .u32 x5, .int .u32 x6] := ho2
    have f0 := ho2.frozen 0
    have f1 := ho2.frozen 1
    have f2 := ho2.frozen 2
    have f3 := ho2.frozen 3
    have f4 := ho2.frozen 4
    have f5 := ho2.frozen 5
    have f6 := ho2.frozen 6
    have q0 : w2.cell? ⟨w.heap.size + 1, 0, none⟩ = some (.int .u32 x0) := ho2'.cell 0
    have q1 : w2.cell? ⟨w.heap.size + 1, 1, none⟩ = some (.int .u8 x1) := ho2'.cell 1
    have q2 : w2.cell? ⟨w.heap.size + 1, 2, none⟩ = some (.int .u32 x2) := ho2'.cell 2
    have q3 : w2.cell? ⟨w.heap.size + 1, 3, none⟩ = some (.int .u32 x3) := ho2'.cell 3
    have q4 : w2.cell? ⟨w.heap.size + 1, 4, none⟩ = some (.int .u32 x4) := ho2'.cell 4
    have q5 : w2.cell? ⟨w.heap.size + 1, 5, none⟩ = some (.int .u32 x5) := ho2'.cell 5
    have q6 : w2.cell? ⟨w.heap.size + 1, 6, none⟩ = some (.int .u32 x6) := ho2'.cell 6
    go_wp2_with fail
    refine bodyPost_ret (v := .tuple #[.agg #[.int .u32 x0, .int .u8 x1, .int .u32 x2, .int .u32 x3, .int .u32 x4, .int .u32 x5, .int .u32 x6], .bool true]) ?_ rfl ⟨rfl, ?_⟩
    · simp [results, Tryd.results7, go_sem, q0, q1, q2, q3, q4, q5, q6]
    · exact ((((((hbl.setCell (p := ⟨w.heap.size + 1, 0, none⟩) (by show w.heap.size ≤ w.heap.size + 1; omega) _).setCell (p := ⟨w.heap.size + 1, 1, none⟩) (by show w.heap.size ≤ w.heap.size + 1; omega) _).setCell (p := ⟨w.heap.size + 1, 2, none⟩) (by show w.heap.size ≤ w.heap.size + 1; omega) _).setCell (p := ⟨w.heap.size + 1, 3, none⟩) (by show w.heap.size ≤ w.heap.size + 1; omega) _).setCell (p := ⟨w.heap.size + 1, 4, none⟩) (by show w.heap.size ≤ w.heap.size + 1; omega) _).setCell (p := ⟨w.heap.size + 1, 5, none⟩) (by show w.heap.size ≤ w.heap.size + 1; omega) _).setCell (p := ⟨w.heap.size + 1, 6, none⟩) (by show w.heap.size ≤ w.heap.size + 1; omega) _
end Go.Proofs.YtcikhjolehlchaaDoor
