/-
  THE HEAD of the reference's body of a packet: its kind's number and count are looked up. Condition: the kind is in the table.
-/
import Derived.Test.YtmmfpgoodfgkbaaGreatHead
import Derived.Test.YtmmfpgoodfgkbaaGreatInv
namespace Go.Proofs.YtmmfpgoodfgkbaaGreat
open Go Go.RowKit
set_option linter.unusedVariables false

/-- A region of a function's code, by its number. -/
def regionNo (n : Nat) : Code → Option Code
  | .region i ops d => if i = n then some (.region i ops d) else none
  | .seq a b => match regionNo n a with
    | some c => some c
    | none => regionNo n b
  | .block _ c => regionNo n c
  | .scope c => regionNo n c
  | .loop c => regionNo n c
  | .cond _ a b => match regionNo n a with
    | some c => some c
    | none => regionNo n b
  | _ => none
noncomputable def formR (n : Nat) : Code := (Tryz.f52.body.bind (regionNo n)).getD .skip

/-- A region's operations. -/
def opsOf : Code → List Oper
  | .region _ ops _ => ops.toList
  | _ => []

def tblT : List Int := [0, 200, 201, 202, 203, 204, 205, 205, 205, 206, 206, 206, 206, 205]
def tblC : List Int := [0, 0, 0, 0, 0, 0, 1, 5, 11, 1, 2, 4, 15, 15]

theorem Head.cellH {p : Pkt} {w wx : World} {c t : Int} {b : Bool} (h : Head p w c t b wx) :
    wx.cell? ⟨w.heap.size + 1, 0, none⟩ = some (.bool false) ∧ wx.cell? ⟨w.heap.size + 1, 1, none⟩ = some (.int .u8 c) ∧ wx.cell? ⟨w.heap.size + 1, 2, none⟩ = some (.int .u8 t) ∧ wx.cell? ⟨w.heap.size + 1, 3, none⟩ = some (.int .u16 0) ∧
    wx.frozen? ⟨w.heap.size + 1, 0, none⟩ = false ∧ wx.frozen? ⟨w.heap.size + 1, 1, none⟩ = false ∧ wx.frozen? ⟨w.heap.size + 1, 2, none⟩ = false ∧ wx.frozen? ⟨w.heap.size + 1, 3, none⟩ = false :=
  ⟨h.hd.cell 0, h.hd.cell 1, h.hd.cell 2, h.hd.cell 3, h.hd.frozen 0, h.hd.frozen 1, h.hd.frozen 2, h.hd.frozen 3⟩
/-- The header's four cells written anew. -/
theorem Head.four {p : Pkt} {w wx : World} {c t : Int} {b : Bool} (h : Head p w c t b wx) (c' t' : Int) :
    Head p w c' t' b ((((wx.setCell ⟨w.heap.size + 1, 0, none⟩ (.bool false)).setCell ⟨w.heap.size + 1, 1, none⟩ (.int .u8 c')).setCell ⟨w.heap.size + 1, 2, none⟩ (.int .u8 t')).setCell ⟨w.heap.size + 1, 3, none⟩ (.int .u16 0)) := by
  refine ⟨?_, ?_, ?_, ?_⟩
  · exact (((h.pk.far (p := ⟨w.heap.size + 1, 0, none⟩) (by simp) _).far (p := ⟨w.heap.size + 1, 1, none⟩) (by simp) _).far (p := ⟨w.heap.size + 1, 2, none⟩) (by simp) _).far (p := ⟨w.heap.size + 1, 3, none⟩) (by simp) _
  · exact (((h.hd.set_ 0 (.bool false)).set_ 1 (.int .u8 c')).set_ 2 (.int .u8 t')).set_ 3 (.int .u16 0)
  · exact (((h.ok.far (p := ⟨w.heap.size + 1, 0, none⟩) (by simp) _).far (p := ⟨w.heap.size + 1, 1, none⟩) (by simp) _).far (p := ⟨w.heap.size + 1, 2, none⟩) (by simp) _).far (p := ⟨w.heap.size + 1, 3, none⟩) (by simp) _
  · exact (((h.below.setCell (p := ⟨w.heap.size + 1, 0, none⟩) (show w.heap.size ≤ w.heap.size + 1 by omega) _).setCell (p := ⟨w.heap.size + 1, 1, none⟩) (show w.heap.size ≤ w.heap.size + 1 by omega) _).setCell (p := ⟨w.heap.size + 1, 2, none⟩) (show w.heap.size ≤ w.heap.size + 1 by omega) _).setCell (p := ⟨w.heap.size + 1, 3, none⟩) (show w.heap.size ≤ w.heap.size + 1 by omega) _
theorem kept_four (wx : World) (h : Nat) (a b c d : Value) : Kept (fun g => g = h) wx ((((wx.setCell ⟨h, 0, none⟩ a).setCell ⟨h, 1, none⟩ b).setCell ⟨h, 2, none⟩ c).setCell ⟨h, 3, none⟩ d) :=
  ((((Kept.refl (fun g => g = h) _).set_ ⟨h, 0, none⟩ rfl _).set_ ⟨h, 1, none⟩ rfl _).set_ ⟨h, 2, none⟩ rfl _).set_ ⟨h, 3, none⟩ rfl _
/-- A cell of a table that a literal has laid. -/
theorem tbl_cell {w : World} {g : Nat} {l : List Int} (h : Blk w g 5 (u8s l).toArray) (k : Nat) (hk : k < l.length) : w.cell? ⟨g, k, none⟩ = some (.int .u8 (l.getD k 0)) := by
  rw [h.cell k]
  simp [u8s, hk]

set_option maxHeartbeats 1000000 in
set_option maxRecDepth 100000 in
theorem formR2 (p : Pkt) (w w3 : World) (a : Act) (k : Nat) (hk : p.kind = (k : Nat)) (hk13 : k ≤ 13) (hn : a.tmps.size = 490)
    (h1 : a.tmps[1]? = some (.pointer (some ⟨w.heap.size, 0, none⟩))) (h2 : a.tmps[2]? = some (.pointer (some ⟨w.heap.size + 1, 0, none⟩)))
    (hh : Head p w 0 0 true w3) (Q : Exit → Act → World → Prop)
    (hQ : ∀ vs w', Head p w (tblC.getD k 0) (tblT.getD k 0) true w' → Q .normal (putFrom 0 (opsOf (formR 2)) vs a) w') :
    (formR 2).wp Tryz.prog Q a w3 := by
  have hk0 : p.cells[0]? = some (.int .i64 (k : Nat)) := by rw [← hk]; rfl
  have hlt14 : (k : Int) < 14 := by omega
  have hge : (0 : Int) ≤ (k : Int) := by omega
  revert hQ
  conv => arg 2; arg 2; whnf
  intro hQ
  refine wp_region_inv (n := 490) [] (by kernel_rfl) (by kernel_rfl) (by kernel_rfl) (by kernel_rfl) hn
    [] (fun w' => True)
    (fun w' => ∃ c t, Head p w c t true w')
    (fun i v w' => match i with
      | 0 => ∃ g0, w.heap.size + 3 ≤ g0 ∧ Blk w' g0 5 (u8s tblT).toArray ∧ v = .slice (some ⟨g0, 0, none⟩) 14 14
      | 1 => v = .pointer (some ⟨w.heap.size, 0, none⟩)
      | 2 => v = .int .i64 (k : Nat)
      | 3 => ∃ g3, w.heap.size + 3 ≤ g3 ∧ Blk w' g3 5 (u8s tblT).toArray ∧ v = .pointer (some ⟨g3, k, none⟩)
      | 4 => v = .int .u8 (tblT.getD k 0)
      | 5 => ∃ g5, w.heap.size + 3 ≤ g5 ∧ Blk w' g5 5 (u8s tblC).toArray ∧ v = .slice (some ⟨g5, 0, none⟩) 14 14
      | 6 => v = .pointer (some ⟨w.heap.size, 0, none⟩)
      | 7 => v = .int .i64 (k : Nat)
      | 8 => ∃ g8, w.heap.size + 3 ≤ g8 ∧ Blk w' g8 5 (u8s tblC).toArray ∧ v = .pointer (some ⟨g8, k, none⟩)
      | 9 => v = .int .u8 (tblC.getD k 0)
      | 10 => v = .agg #[.bool false, .int .u8 (tblC.getD k 0), .int .u8 (tblT.getD k 0), .int .u16 0]
      | 11 => Head p w (tblC.getD k 0) (tblT.getD k 0) true w'
      | _ => True)
    (fun i w1 w2 => match i with
      | 0 => ∃ o, w2 = w1.alloc o
      | 5 => ∃ o, w2 = w1.alloc o
      | 11 => Kept (fun g => g = w.heap.size + 1) w1 w2
      | _ => w2 = w1)
    (trivial) ?hC0 ?hKeep ?hKeepI ?hDuty ?hEnd
  case hC0 => exact ⟨0, 0, hh.drew⟩
  case hKeep =>
    intro i k v w1 w2 hne hnd hw hC0 hT hR
    match i, hT with
    | 0, hT =>
      match k, hR with
      | 3, _ => exact waits_no (by kernel_rfl) hw
      | 5, hR =>
        obtain ⟨g, z1, z2, z3⟩ := hR
        obtain ⟨o, rfl⟩ := hT
        exact ⟨g, z1, z2.alloc _, z3⟩
      | 8, hR =>
        obtain ⟨g, z1, z2, z3⟩ := hR
        obtain ⟨o, rfl⟩ := hT
        exact ⟨g, z1, z2.alloc _, z3⟩
      | 11, _ => exact waits_no (by kernel_rfl) hw
      | 0, _ => exact absurd rfl hne
      | 1, hR | 2, hR | 4, hR | 6, hR | 7, hR | 9, hR | 10, hR => exact hR
      | _ + 12, _ => trivial
    | 5, hT =>
      match k, hR with
      | 0, hR =>
        obtain ⟨g, z1, z2, z3⟩ := hR
        obtain ⟨o, rfl⟩ := hT
        exact ⟨g, z1, z2.alloc _, z3⟩
      | 3, hR =>
        obtain ⟨g, z1, z2, z3⟩ := hR
        obtain ⟨o, rfl⟩ := hT
        exact ⟨g, z1, z2.alloc _, z3⟩
      | 8, _ => exact waits_no (by kernel_rfl) hw
      | 11, _ => exact waits_no (by kernel_rfl) hw
      | 5, _ => exact absurd rfl hne
      | 1, hR | 2, hR | 4, hR | 6, hR | 7, hR | 9, hR | 10, hR => exact hR
      | _ + 12, _ => trivial
    | 11, hT =>
      match k, hR with
      | 0, hR =>
        obtain ⟨g, z1, z2, z3⟩ := hR
        exact ⟨g, z1, z2.kept hT (by omega), z3⟩
      | 3, hR =>
        obtain ⟨g, z1, z2, z3⟩ := hR
        exact ⟨g, z1, z2.kept hT (by omega), z3⟩
      | 5, hR =>
        obtain ⟨g, z1, z2, z3⟩ := hR
        exact ⟨g, z1, z2.kept hT (by omega), z3⟩
      | 8, hR =>
        obtain ⟨g, z1, z2, z3⟩ := hR
        exact ⟨g, z1, z2.kept hT (by omega), z3⟩
      | 11, _ => exact absurd rfl hne
      | 1, hR | 2, hR | 4, hR | 6, hR | 7, hR | 9, hR | 10, hR => exact hR
      | _ + 12, _ => trivial
    | 1, hT | 2, hT | 3, hT | 4, hT | 6, hT | 7, hT | 8, hT | 9, hT | 10, hT => subst hT; exact hR
    | _ + 12, hT => subst hT; exact hR
  case hKeepI =>
    exact fun _ _ _ _ _ _ h => h
  case hDuty =>
    refine ⟨?_, ?_, ?_, ?_, ?_, ?_, ?_, ?_, ?_, ?_, ?_, ?_, trivial⟩
    · refine duty_plain rfl fun vs a w4 hO hI0 hC0 hD K hK => ?_
      obtain ⟨c, t, hC⟩ := (show ∃ c t, Head p w c t true w4 from hC0)
      have c0 : w4.cell? ⟨w.heap.size, 0, none⟩ = some (.int .i64 (k : Nat)) := (hC.pk.cell 0).trans hk0
      have hz0 : w.heap.size < w4.heap.size := by have := hC.lt; omega
      have hz1 : w.heap.size + 1 < w4.heap.size := by have := hC.lt; omega
      clear hk0
      clear hD hO hI0
      go_simp
      exact hK _ _ ⟨c, t, hC.alloc _⟩ ⟨_, hC.lt, blk_new _ _ _ rfl, rfl⟩ ⟨_, rfl⟩
    · refine duty_plain rfl fun vs a w4 hO hI0 hC0 hD K hK => ?_
      obtain ⟨c, t, hC⟩ := (show ∃ c t, Head p w c t true w4 from hC0)
      have c0 : w4.cell? ⟨w.heap.size, 0, none⟩ = some (.int .i64 (k : Nat)) := (hC.pk.cell 0).trans hk0
      have hz0 : w.heap.size < w4.heap.size := by have := hC.lt; omega
      have hz1 : w.heap.size + 1 < w4.heap.size := by have := hC.lt; omega
      clear hk0
      have e1 : a.tmps[1]? = some (.pointer (some ⟨w.heap.size, 0, none⟩)) := (hO 1 (by kernel_rfl)).trans (h1)
      clear hD hO hI0
      go_simp
      exact hK _ _ hC0 rfl rfl
    · refine duty_plain rfl fun vs a w4 hO hI0 hC0 hD K hK => ?_
      obtain ⟨c, t, hC⟩ := (show ∃ c t, Head p w c t true w4 from hC0)
      have c0 : w4.cell? ⟨w.heap.size, 0, none⟩ = some (.int .i64 (k : Nat)) := (hC.pk.cell 0).trans hk0
      have hz0 : w.heap.size < w4.heap.size := by have := hC.lt; omega
      have hz1 : w.heap.size + 1 < w4.heap.size := by have := hC.lt; omega
      clear hk0
      have s33 : a.tmps[33]? = some (vs 1) := (hD.1 rfl).1
      have r1 : vs 1 = .pointer (some ⟨w.heap.size, 0, none⟩) := (hD.1 rfl).2
      rw [r1] at s33
      clear r1
      clear hD hO hI0
      go_simp
      exact hK _ _ hC0 rfl rfl
    · refine duty_plain rfl fun vs a w4 hO hI0 hC0 hD K hK => ?_
      obtain ⟨c, t, hC⟩ := (show ∃ c t, Head p w c t true w4 from hC0)
      have c0 : w4.cell? ⟨w.heap.size, 0, none⟩ = some (.int .i64 (k : Nat)) := (hC.pk.cell 0).trans hk0
      have hz0 : w.heap.size < w4.heap.size := by have := hC.lt; omega
      have hz1 : w.heap.size + 1 < w4.heap.size := by have := hC.lt; omega
      clear hk0
      have s32 : a.tmps[32]? = some (vs 0) := (hD.1 rfl).1
      have q0 : ∃ g0, w.heap.size + 3 ≤ g0 ∧ Blk w4 g0 5 (u8s tblT).toArray ∧ vs 0 = .slice (some ⟨g0, 0, none⟩) 14 14 := (hD.1 rfl).2
      obtain ⟨g0, p0_0, p0_1, r0⟩ := q0
      rw [r0] at s32
      clear r0
      have s34 : a.tmps[34]? = some (vs 2) := (hD.2.1 rfl).1
      have r2 : vs 2 = .int .i64 (k : Nat) := (hD.2.1 rfl).2
      rw [r2] at s34
      clear r2
      clear hD hO hI0
      go_simp
      exact hK _ _ hC0 ⟨_, p0_0, p0_1, rfl⟩ rfl
    · refine duty_plain rfl fun vs a w4 hO hI0 hC0 hD K hK => ?_
      obtain ⟨c, t, hC⟩ := (show ∃ c t, Head p w c t true w4 from hC0)
      have c0 : w4.cell? ⟨w.heap.size, 0, none⟩ = some (.int .i64 (k : Nat)) := (hC.pk.cell 0).trans hk0
      have hz0 : w.heap.size < w4.heap.size := by have := hC.lt; omega
      have hz1 : w.heap.size + 1 < w4.heap.size := by have := hC.lt; omega
      clear hk0
      have s35 : a.tmps[35]? = some (vs 3) := (hD.1 rfl).1
      have q3 : ∃ g3, w.heap.size + 3 ≤ g3 ∧ Blk w4 g3 5 (u8s tblT).toArray ∧ vs 3 = .pointer (some ⟨g3, k, none⟩) := (hD.1 rfl).2
      obtain ⟨g3, p3_0, p3_1, r3⟩ := q3
      rw [r3] at s35
      clear r3
      clear hD hO hI0
      have ct : w4.cell? ⟨g3, k, none⟩ = some (.int .u8 (tblT.getD k 0)) := tbl_cell p3_1 k (by simp [tblT]; omega)
      have hg : g3 < w4.heap.size := p3_1.lt
      go_simp
      exact hK _ _ hC0 rfl rfl
    · refine duty_plain rfl fun vs a w4 hO hI0 hC0 hD K hK => ?_
      obtain ⟨c, t, hC⟩ := (show ∃ c t, Head p w c t true w4 from hC0)
      have c0 : w4.cell? ⟨w.heap.size, 0, none⟩ = some (.int .i64 (k : Nat)) := (hC.pk.cell 0).trans hk0
      have hz0 : w.heap.size < w4.heap.size := by have := hC.lt; omega
      have hz1 : w.heap.size + 1 < w4.heap.size := by have := hC.lt; omega
      clear hk0
      clear hD hO hI0
      go_simp
      exact hK _ _ ⟨c, t, hC.alloc _⟩ ⟨_, hC.lt, blk_new _ _ _ rfl, rfl⟩ ⟨_, rfl⟩
    · refine duty_plain rfl fun vs a w4 hO hI0 hC0 hD K hK => ?_
      obtain ⟨c, t, hC⟩ := (show ∃ c t, Head p w c t true w4 from hC0)
      have c0 : w4.cell? ⟨w.heap.size, 0, none⟩ = some (.int .i64 (k : Nat)) := (hC.pk.cell 0).trans hk0
      have hz0 : w.heap.size < w4.heap.size := by have := hC.lt; omega
      have hz1 : w.heap.size + 1 < w4.heap.size := by have := hC.lt; omega
      clear hk0
      have e1 : a.tmps[1]? = some (.pointer (some ⟨w.heap.size, 0, none⟩)) := (hO 1 (by kernel_rfl)).trans (h1)
      clear hD hO hI0
      go_simp
      exact hK _ _ hC0 rfl rfl
    · refine duty_plain rfl fun vs a w4 hO hI0 hC0 hD K hK => ?_
      obtain ⟨c, t, hC⟩ := (show ∃ c t, Head p w c t true w4 from hC0)
      have c0 : w4.cell? ⟨w.heap.size, 0, none⟩ = some (.int .i64 (k : Nat)) := (hC.pk.cell 0).trans hk0
      have hz0 : w.heap.size < w4.heap.size := by have := hC.lt; omega
      have hz1 : w.heap.size + 1 < w4.heap.size := by have := hC.lt; omega
      clear hk0
      have s38 : a.tmps[38]? = some (vs 6) := (hD.1 rfl).1
      have r6 : vs 6 = .pointer (some ⟨w.heap.size, 0, none⟩) := (hD.1 rfl).2
      rw [r6] at s38
      clear r6
      clear hD hO hI0
      go_simp
      exact hK _ _ hC0 rfl rfl
    · refine duty_plain rfl fun vs a w4 hO hI0 hC0 hD K hK => ?_
      obtain ⟨c, t, hC⟩ := (show ∃ c t, Head p w c t true w4 from hC0)
      have c0 : w4.cell? ⟨w.heap.size, 0, none⟩ = some (.int .i64 (k : Nat)) := (hC.pk.cell 0).trans hk0
      have hz0 : w.heap.size < w4.heap.size := by have := hC.lt; omega
      have hz1 : w.heap.size + 1 < w4.heap.size := by have := hC.lt; omega
      clear hk0
      have s37 : a.tmps[37]? = some (vs 5) := (hD.1 rfl).1
      have q5 : ∃ g5, w.heap.size + 3 ≤ g5 ∧ Blk w4 g5 5 (u8s tblC).toArray ∧ vs 5 = .slice (some ⟨g5, 0, none⟩) 14 14 := (hD.1 rfl).2
      obtain ⟨g5, p5_0, p5_1, r5⟩ := q5
      rw [r5] at s37
      clear r5
      have s39 : a.tmps[39]? = some (vs 7) := (hD.2.1 rfl).1
      have r7 : vs 7 = .int .i64 (k : Nat) := (hD.2.1 rfl).2
      rw [r7] at s39
      clear r7
      clear hD hO hI0
      go_simp
      exact hK _ _ hC0 ⟨_, p5_0, p5_1, rfl⟩ rfl
    · refine duty_plain rfl fun vs a w4 hO hI0 hC0 hD K hK => ?_
      obtain ⟨c, t, hC⟩ := (show ∃ c t, Head p w c t true w4 from hC0)
      have c0 : w4.cell? ⟨w.heap.size, 0, none⟩ = some (.int .i64 (k : Nat)) := (hC.pk.cell 0).trans hk0
      have hz0 : w.heap.size < w4.heap.size := by have := hC.lt; omega
      have hz1 : w.heap.size + 1 < w4.heap.size := by have := hC.lt; omega
      clear hk0
      have s40 : a.tmps[40]? = some (vs 8) := (hD.1 rfl).1
      have q8 : ∃ g8, w.heap.size + 3 ≤ g8 ∧ Blk w4 g8 5 (u8s tblC).toArray ∧ vs 8 = .pointer (some ⟨g8, k, none⟩) := (hD.1 rfl).2
      obtain ⟨g8, p8_0, p8_1, r8⟩ := q8
      rw [r8] at s40
      clear r8
      clear hD hO hI0
      have ct : w4.cell? ⟨g8, k, none⟩ = some (.int .u8 (tblC.getD k 0)) := tbl_cell p8_1 k (by simp [tblC]; omega)
      have hg : g8 < w4.heap.size := p8_1.lt
      go_simp
      exact hK _ _ hC0 rfl rfl
    · refine duty_plain rfl fun vs a w4 hO hI0 hC0 hD K hK => ?_
      obtain ⟨c, t, hC⟩ := (show ∃ c t, Head p w c t true w4 from hC0)
      have c0 : w4.cell? ⟨w.heap.size, 0, none⟩ = some (.int .i64 (k : Nat)) := (hC.pk.cell 0).trans hk0
      have hz0 : w.heap.size < w4.heap.size := by have := hC.lt; omega
      have hz1 : w.heap.size + 1 < w4.heap.size := by have := hC.lt; omega
      clear hk0
      have s36 : a.tmps[36]? = some (vs 4) := (hD.1 rfl).1
      have r4 : vs 4 = .int .u8 (tblT.getD k 0) := (hD.1 rfl).2
      rw [r4] at s36
      clear r4
      have s41 : a.tmps[41]? = some (vs 9) := (hD.2.1 rfl).1
      have r9 : vs 9 = .int .u8 (tblC.getD k 0) := (hD.2.1 rfl).2
      rw [r9] at s41
      clear r9
      clear hD hO hI0
      go_simp
      exact hK _ _ hC0 rfl rfl
    · refine duty_plain rfl fun vs a w4 hO hI0 hC0 hD K hK => ?_
      obtain ⟨c, t, hC⟩ := (show ∃ c t, Head p w c t true w4 from hC0)
      have c0 : w4.cell? ⟨w.heap.size, 0, none⟩ = some (.int .i64 (k : Nat)) := (hC.pk.cell 0).trans hk0
      have hz0 : w.heap.size < w4.heap.size := by have := hC.lt; omega
      have hz1 : w.heap.size + 1 < w4.heap.size := by have := hC.lt; omega
      clear hk0
      have s42 : a.tmps[42]? = some (vs 10) := (hD.1 rfl).1
      have r10 : vs 10 = .agg #[.bool false, .int .u8 (tblC.getD k 0), .int .u8 (tblT.getD k 0), .int .u16 0] := (hD.1 rfl).2
      rw [r10] at s42
      clear r10
      have e2 : a.tmps[2]? = some (.pointer (some ⟨w.heap.size + 1, 0, none⟩)) := (hO 2 (by kernel_rfl)).trans (h2)
      clear hD hO hI0
      obtain ⟨d0, d1, d2, d3, f0, f1, f2, f3⟩ := hC.cellH
      go_simp
      exact hK undef _ ⟨_, _, hC.four _ _⟩ (hC.four _ _) (kept_four _ _ _ _ _ _)
  case hEnd =>
    intro vs w' hC hR
    exact hQ vs w' (hR 11 (by decide) (by simp))
end Go.Proofs.YtmmfpgoodfgkbaaGreat
