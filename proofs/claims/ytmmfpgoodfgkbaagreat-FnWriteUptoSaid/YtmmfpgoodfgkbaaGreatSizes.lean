/-
  THE WALKS of the sizes of packets. Condition: what the packet's slices read as; fewer than 2^31 elements; sums below 2^40.
-/
import Derived.Test.YtmmfpgoodfgkbaaGreatMPkt
import Derived.Test.YtmmfpgoodfgkbaaGreatMSep
import Derived.Test.YtmmfpgoodfgkbaaGreatNested
namespace Go.Proofs.YtmmfpgoodfgkbaaGreat
open Go Go.RowKit
set_option linter.unusedVariables false

/-- The bytes up to a whole word. -/
def pad4 (n : Nat) : Nat := (4 - n % 4) % 4
theorem pad4_le (n : Nat) : pad4 n ≤ 3 := by unfold pad4; omega
theorem padded_4 (n : Nat) : (n + pad4 n) % 4 = 0 := by unfold pad4; omega

set_option maxHeartbeats 1000000 in
theorem padding_any (n : Nat) (w : World) (hn : n ≤ 1099511627776) : Calls Tryz.prog 108 #[.int .i64 (n : Nat)] w fun e w' => e = .returned (.int .i64 (pad4 n : Nat)) ∧ w' = w := by
  go_enter Tryz.func108, Tryz.ntmps108
  by_cases h : n % 4 = 0
  · have h' : (n : Int) % 4 = 0 := by omega
    go_wp2_with fail
    go_ret
    have : pad4 n = 0 := by unfold pad4; omega
    simp [this]
  · have h' : ¬ (n : Int) % 4 = 0 := by omega
    go_wp2_with fail
    go_ret
    have : ((pad4 n : Nat) : Int) = 4 - (n : Int) % 4 := by unfold pad4; omega
    simp [this]
theorem padding_int {x : Int} (n : Nat) (hx : x = n) (w : World) (hn : n ≤ 1099511627776) : Calls Tryz.prog 108 #[.int .i64 x] w fun e w' => e = .returned (.int .i64 (pad4 n : Nat)) ∧ w' = w := by
  subst hx
  exact padding_any n w hn
set_option maxHeartbeats 2000000 in
theorem replen_any (g : Nat) (w : World) :
    Calls Tryz.prog 107 #[.pointer (some ⟨g, 0, none⟩)] w fun e w' => e = .returned (.int .i64 24) ∧ w' = w := by
  go_enter Tryz.func107, Tryz.ntmps107
  go_wp2_with fail
  go_ret
  simp
set_option maxHeartbeats 2000000 in
theorem nacksize_any (g : Nat) (w : World) (A : Option Addr) (n : Nat) (c : Nat) (T : TypeId) (x y : Value) (hb : Blk w g T #[x, y, .slice A n c]) (hn : n ≤ 2147483647) :
    Calls Tryz.prog 142 #[.pointer (some ⟨g, 0, none⟩)] w fun e w' => e = .returned (.int .i64 (12 + 4 * n : Nat)) ∧ w' = w := by
  have c2 : w.cell? ⟨g, 2, none⟩ = some (.slice A n c) := hb.cell 2
  go_enter Tryz.func142, Tryz.ntmps142
  go_wp2_with fail
  go_ret
  refine ⟨?_, rfl⟩
  simp
  omega
set_option maxHeartbeats 2000000 in
theorem slisize_any (g : Nat) (w : World) (A : Option Addr) (n : Nat) (c : Nat) (T : TypeId) (x y : Value) (hb : Blk w g T #[x, y, .slice A n c]) (hn : n ≤ 2147483647) :
    Calls Tryz.prog 168 #[.pointer (some ⟨g, 0, none⟩)] w fun e w' => e = .returned (.int .i64 (12 + 4 * n : Nat)) ∧ w' = w := by
  have c2 : w.cell? ⟨g, 2, none⟩ = some (.slice A n c) := hb.cell 2
  go_enter Tryz.func168, Tryz.ntmps168
  go_wp2_with fail
  go_ret
  refine ⟨?_, rfl⟩
  simp
  omega
set_option maxHeartbeats 2000000 in
theorem firsize_any (g : Nat) (w : World) (A : Option Addr) (n : Nat) (c : Nat) (T : TypeId) (x y : Value) (hb : Blk w g T #[x, y, .slice A n c]) (hn : n ≤ 2147483647) :
    Calls Tryz.prog 173 #[.pointer (some ⟨g, 0, none⟩)] w fun e w' => e = .returned (.int .i64 (12 + 8 * n : Nat)) ∧ w' = w := by
  have c2 : w.cell? ⟨g, 2, none⟩ = some (.slice A n c) := hb.cell 2
  go_enter Tryz.func173, Tryz.ntmps173
  go_wp2_with fail
  go_ret
  refine ⟨?_, rfl⟩
  simp
  omega
set_option maxHeartbeats 2000000 in
theorem rembsize_any  (w : World) (A : Option Addr) (n : Nat) (c : Nat) (x y : Value) (hx : x.oneCell' = true) (hy : y.oneCell' = true) (hn : n ≤ 2147483647) :
    Calls Tryz.prog 178 #[.agg #[x, y, .slice A n c]] w fun e w' => e = .returned (.int .i64 (20 + 4 * n : Nat)) ∧ Below w.heap.size w w' := by
  go_enter Tryz.func178, Tryz.ntmps178
  go_wp2_with fail
  go_ret
  refine ⟨by simp, ?_⟩
  exact (Below.refl _ _).alloc (Nat.le_refl _) _
def byeLen (n m : Nat) : Nat := 4 + 4 * n + (if m = 0 then 0 else m + 1)
set_option maxHeartbeats 2000000 in
theorem byesize_any (g : Nat) (w : World) (A : Option Addr) (n : Nat) (c : Nat) (T : TypeId) (s : ByteArray) (hb : Blk w g T #[.slice A n c, .string s]) (hn : n ≤ 2147483647) (hs : s.size ≤ 2147483647) :
    Calls Tryz.prog 133 #[.pointer (some ⟨g, 0, none⟩)] w fun e w' => e = .returned (.int .i64 (byeLen n s.size + pad4 (byeLen n s.size) : Nat)) ∧ w' = w := by
  have c0 : w.cell? ⟨g, 0, none⟩ = some (.slice A n c) := hb.cell 0
  have c1 : w.cell? ⟨g, 1, none⟩ = some (.string s) := hb.cell 1
  go_enter Tryz.func133, Tryz.ntmps133
  have hle : byeLen n s.size ≤ 1099511627776 := by unfold byeLen; split <;> omega
  have hp := pad4_le (byeLen n s.size)
  by_cases h : s.size = 0
  · have h' : ¬ (0 : Int) < (s.size : Int) := by omega
    obtain ⟨B, hB0⟩ : ∃ B, B = byeLen n s.size := ⟨_, rfl⟩
    have he : B = 4 + 4 * n + s.size := by rw [hB0]; unfold byeLen; rw [if_pos h, h]
    rw [← hB0] at hle hp ⊢
    have He := Lib.hid he
    clear he hB0 h
    go_wp2_with fail
    refine (padding_int B (by rw [He.out]; omega) _ hle).mono ?_
    rintro e w1 ⟨rfl, rfl⟩
    go_wp2_with fail
    go_ret
    refine ⟨?_, rfl⟩
    simp
    have := He.out
    omega
  · have h' : (0 : Int) < (s.size : Int) := by omega
    obtain ⟨B, hB0⟩ : ∃ B, B = byeLen n s.size := ⟨_, rfl⟩
    have he : B = 4 + 4 * n + (s.size + 1) := by rw [hB0]; unfold byeLen; rw [if_neg h]
    rw [← hB0] at hle hp ⊢
    have He := Lib.hid he
    clear he hB0 h
    go_wp2_with fail
    refine (padding_int B (by rw [He.out]; omega) _ hle).mono ?_
    rintro e w1 ⟨rfl, rfl⟩
    go_wp2_with fail
    go_ret
    refine ⟨?_, rfl⟩
    simp
    have := He.out
    omega
set_option maxHeartbeats 2000000 in
theorem srsize_any (g : Nat) (w : World) (A A2 : Option Addr) (l : List Rep) (c m c2 : Nat) (T : TypeId) (x0 x1 x2 x3 x4 : Value) (hb : Blk w g T #[x0, x1, x2, x3, x4, .slice A (l.length : Nat) c, .slice A2 m c2]) (hr : Reads w w.heap.size 7 A l.length (repsC l)) (hn : l.length ≤ 2147483647) (hm : m ≤ 2147483647) :
    Calls Tryz.prog 100 #[.pointer (some ⟨g, 0, none⟩)] w fun e w' => e = .returned (.int .i64 (28 + 24 * l.length + m + pad4 m : Nat)) ∧ Below w.heap.size w w' := by
  have cr : w.cell? ⟨g, 5, none⟩ = some (.slice A (l.length : Nat) c) := hb.cell 5
  have hg := hb.lt
  have hp := pad4_le m
  go_enter Tryz.func100, Tryz.ntmps100
  go_wp2_with fail
  go_loopw [3, 12] (fun v i wr => ∃ k : Nat, k ≤ l.length ∧ i = .int .i64 k ∧ v = .int .i64 (24 * k : Nat) ∧ Below w.heap.size w wr)
    (fun _ i _ => l.length - (intOf i).toNat)
  case atStart => exact ⟨0, by omega, rfl, rfl, Below.refl _ _⟩
  case round =>
    obtain ⟨k, hk, rfl, rfl, hB⟩ := hrel
    have hz := hB.size
    by_cases hlt : k < l.length
    · obtain ⟨b, off, rfl, hbB⟩ := hr.addr (by omega) (by omega)
      have hrw := hr.below hB
      obtain ⟨r, hrk⟩ : ∃ r, r = l[k] := ⟨_, rfl⟩
      have e0 := hrw.at2 (rep_cells_len l) k 0 hlt (by omega) (v := .int .u32 r.ssrc) (by rw [hrk]; rfl)
      have e1 := hrw.at2 (rep_cells_len l) k 1 hlt (by omega) (v := .int .u8 r.frac) (by rw [hrk]; rfl)
      have e2 := hrw.at2 (rep_cells_len l) k 2 hlt (by omega) (v := .int .u32 r.lost) (by rw [hrk]; rfl)
      have e3 := hrw.at2 (rep_cells_len l) k 3 hlt (by omega) (v := .int .u32 r.seq) (by rw [hrk]; rfl)
      have e4 := hrw.at2 (rep_cells_len l) k 4 hlt (by omega) (v := .int .u32 r.jit) (by rw [hrk]; rfl)
      have e5 := hrw.at2 (rep_cells_len l) k 5 hlt (by omega) (v := .int .u32 r.last) (by rw [hrk]; rfl)
      have e6 := hrw.at2 (rep_cells_len l) k 6 hlt (by omega) (v := .int .u32 r.dly) (by rw [hrk]; rfl)
      simp only [Nat.add_zero] at e0
      clear hrk
      obtain ⟨y0, y1, y2, y3, y4, y5, y6⟩ := r
      simp only at e0 e1 e2 e3 e4 e5 e6
      go_wp2_with fail
      refine (replen_any _ _).mono ?_
      rintro e w1 ⟨rfl, rfl⟩
      go_wp2_with fail
      exact ⟨⟨k + 1, by omega, by go_num, by go_num, hB.alloc hz _⟩, by simp [intOf]; omega⟩
    · obtain rfl : k = l.length := by omega
      have ce : wr.cell? ⟨g, 6, none⟩ = some (.slice A2 m c2) := (hb.below hB hg).cell 6
      go_wp2_with fail
      refine (padding_any m _ (by omega)).mono ?_
      rintro e w1 ⟨rfl, rfl⟩
      go_wp2_with fail
      go_ret
      exact ⟨by simp, hB⟩
set_option maxHeartbeats 2000000 in
theorem rrsize_any (g : Nat) (w : World) (A A2 : Option Addr) (l : List Rep) (c m c2 : Nat) (T : TypeId) (x0 : Value) (hb : Blk w g T #[x0, .slice A (l.length : Nat) c, .slice A2 m c2]) (hr : Reads w w.heap.size 7 A l.length (repsC l)) (hn : l.length ≤ 2147483647) (hm : m ≤ 2147483647) :
    Calls Tryz.prog 117 #[.pointer (some ⟨g, 0, none⟩)] w fun e w' => e = .returned (.int .i64 (8 + 24 * l.length + m + pad4 m : Nat)) ∧ Below w.heap.size w w' := by
  have cr : w.cell? ⟨g, 1, none⟩ = some (.slice A (l.length : Nat) c) := hb.cell 1
  have hg := hb.lt
  have hp := pad4_le m
  go_enter Tryz.func117, Tryz.ntmps117
  go_wp2_with fail
  go_loopw [3, 12] (fun v i wr => ∃ k : Nat, k ≤ l.length ∧ i = .int .i64 k ∧ v = .int .i64 (24 * k : Nat) ∧ Below w.heap.size w wr)
    (fun _ i _ => l.length - (intOf i).toNat)
  case atStart => exact ⟨0, by omega, rfl, rfl, Below.refl _ _⟩
  case round =>
    obtain ⟨k, hk, rfl, rfl, hB⟩ := hrel
    have hz := hB.size
    by_cases hlt : k < l.length
    · obtain ⟨b, off, rfl, hbB⟩ := hr.addr (by omega) (by omega)
      have hrw := hr.below hB
      obtain ⟨r, hrk⟩ : ∃ r, r = l[k] := ⟨_, rfl⟩
      have e0 := hrw.at2 (rep_cells_len l) k 0 hlt (by omega) (v := .int .u32 r.ssrc) (by rw [hrk]; rfl)
      have e1 := hrw.at2 (rep_cells_len l) k 1 hlt (by omega) (v := .int .u8 r.frac) (by rw [hrk]; rfl)
      have e2 := hrw.at2 (rep_cells_len l) k 2 hlt (by omega) (v := .int .u32 r.lost) (by rw [hrk]; rfl)
      have e3 := hrw.at2 (rep_cells_len l) k 3 hlt (by omega) (v := .int .u32 r.seq) (by rw [hrk]; rfl)
      have e4 := hrw.at2 (rep_cells_len l) k 4 hlt (by omega) (v := .int .u32 r.jit) (by rw [hrk]; rfl)
      have e5 := hrw.at2 (rep_cells_len l) k 5 hlt (by omega) (v := .int .u32 r.last) (by rw [hrk]; rfl)
      have e6 := hrw.at2 (rep_cells_len l) k 6 hlt (by omega) (v := .int .u32 r.dly) (by rw [hrk]; rfl)
      simp only [Nat.add_zero] at e0
      clear hrk
      obtain ⟨y0, y1, y2, y3, y4, y5, y6⟩ := r
      simp only at e0 e1 e2 e3 e4 e5 e6
      go_wp2_with fail
      refine (replen_any _ _).mono ?_
      rintro e w1 ⟨rfl, rfl⟩
      go_wp2_with fail
      exact ⟨⟨k + 1, by omega, by go_num, by go_num, hB.alloc hz _⟩, by simp [intOf]; omega⟩
    · obtain rfl : k = l.length := by omega
      have ce : wr.cell? ⟨g, 2, none⟩ = some (.slice A2 m c2) := (hb.below hB hg).cell 2
      go_wp2_with fail
      refine (padding_any m _ (by omega)).mono ?_
      rintro e w1 ⟨rfl, rfl⟩
      go_wp2_with fail
      go_ret
      exact ⟨by simp, hB⟩
set_option maxRecDepth 100000 in
set_option maxHeartbeats 2000000 in
theorem itemlen_any (ty : Int) (w : World) (s : ByteArray) (hs : s.size ≤ 1099511627776) :
    Calls Tryz.prog 129 #[.agg #[.int .u8 ty, .string s]] w fun e w' => e = .returned (.int .i64 (2 + s.size : Nat)) ∧ Below w.heap.size w w' := by
  go_enter Tryz.func129, Tryz.ntmps129
  go_wp2_with fail
  have hB1 : Below w.heap.size w (w.alloc (.cells #[.int .u8 ty, .string s] 230)) := (Below.refl _ _).alloc (Nat.le_refl _) _
  have hz1 := hB1.size
  generalize (w.alloc (.cells #[.int .u8 ty, .string s] 230)) = w1 at *
  rw [run_bytes_of_string w1 9 25 5 s Tryz.underlying9 Tryz.underlying25 Tryz.underlying5]
  have hB2 := hB1.drew.alloc (by exact hz1) (.cells (bytesRow s (grownCap w1 s.size 0 5)) 5 ((bytesRow s (grownCap w1 s.size 0 5)).size, (bytesRow s (grownCap w1 s.size 0 5)).size + 1))
  generalize World.alloc w1.drew _ = w2 at *
  generalize grownCap w1 s.size 0 5 = cp
  go_wp2_with fail
  go_ret
  exact ⟨by simp, hB2⟩
def bloLen (n : Nat) : Nat := 8 + 2 * (n + n % 2)
set_option maxHeartbeats 2000000 in
theorem blolen_any (g : Nat) (w : World) (A : Option Addr) (n : Nat) (c : Nat) (T : TypeId) (x y : Value) (hb : Blk w g T #[x, y, .slice A n c]) (hn : n ≤ 2147483647) :
    Calls Tryz.prog 157 #[.pointer (some ⟨g, 0, none⟩)] w fun e w' => e = .returned (.int .i64 (bloLen n : Nat)) ∧ w' = w := by
  have c2 : w.cell? ⟨g, 2, none⟩ = some (.slice A n c) := hb.cell 2
  obtain ⟨B, hB0⟩ : ∃ B, B = bloLen n := ⟨_, rfl⟩
  have he : B = 8 + 2 * (n + n % 2) := hB0
  rw [← hB0]
  have He := Lib.hid he
  clear he hB0
  go_enter Tryz.func157, Tryz.ntmps157
  by_cases h : n % 2 = 0
  · have h' : (n : Int) % 2 = 0 := by omega
    go_wp2_with fail
    go_ret
    refine ⟨?_, rfl⟩
    simp
    have := He.out
    omega
  · have h' : ¬ (n : Int) % 2 = 0 := by omega
    go_wp2_with fail
    go_ret
    refine ⟨?_, rfl⟩
    simp
    have := He.out
    omega
/-- The bytes of blocks. -/
def blosLen (l : List Blo) : Nat := (l.map fun x => bloLen x.mets.l.length).sum
theorem blosLen_succ (l : List Blo) (k : Nat) (h : k < l.length) : blosLen (l.take (k + 1)) = blosLen (l.take k) + bloLen l[k].mets.l.length := by
  unfold blosLen
  rw [List.take_add_one, List.getElem?_eq_getElem h, List.map_append, List.sum_append]
  rfl
theorem blosLen_le (l : List Blo) (k : Nat) : blosLen (l.take k) ≤ blosLen l := by
  conv => rhs; rw [← List.take_append_drop k l]
  simp only [blosLen, List.map_append, List.sum_append]
  omega
set_option maxHeartbeats 2000000 in
theorem ccsize_any (g : Nat) (w : World) (A : Option Addr) (l : List Blo) (c : Nat) (T : TypeId) (x y : Value) (hb : Blk w g T #[x, .slice A (l.length : Nat) c, y]) (hr : Reads w w.heap.size 3 A l.length (l.flatMap Blo.cells)) (hn : l.length ≤ 2147483647) (hm : ∀ x ∈ l, x.mets.l.length ≤ 2147483647) (hsum : blosLen l ≤ 1099511627776) :
    Calls Tryz.prog 153 #[.pointer (some ⟨g, 0, none⟩)] w fun e w' => e = .returned (.int .i64 (12 + blosLen l : Nat)) ∧ Below w.heap.size w w' := by
  have cr : w.cell? ⟨g, 1, none⟩ = some (.slice A (l.length : Nat) c) := hb.cell 1
  go_enter Tryz.func153, Tryz.ntmps153
  go_wp2_with fail
  go_loopw [3, 11] (fun v i wr => ∃ k : Nat, k ≤ l.length ∧ i = .int .i64 k ∧ v = .int .i64 (blosLen (l.take k) : Nat) ∧ Below w.heap.size w wr)
    (fun _ i _ => l.length - (intOf i).toNat)
  case atStart => exact ⟨0, by omega, rfl, rfl, Below.refl _ _⟩
  case round =>
    obtain ⟨k, hk, rfl, rfl, hB⟩ := hrel
    have hz := hB.size
    by_cases hlt : k < l.length
    · obtain ⟨b, off, rfl, hbB⟩ := hr.addr (by omega) (by omega)
      have hrw := hr.below hB
      have hl1 := blosLen_le l (k + 1)
      rw [blosLen_succ l k hlt] at hl1
      have hk1 := blosLen_succ l k hlt
      have hm1 := hm _ (List.getElem_mem hlt)
      obtain ⟨r, hrk⟩ : ∃ r, r = l[k] := ⟨_, rfl⟩
      have e0 := hrw.at2 (blo_cells_len l) k 0 hlt (by omega) (v := .int .u32 r.media) (by rw [hrk]; rfl)
      have e1 := hrw.at2 (blo_cells_len l) k 1 hlt (by omega) (v := .int .u16 r.first) (by rw [hrk]; rfl)
      have e2 := hrw.at2 (blo_cells_len l) k 2 hlt (by omega) (v := r.mets.val) (by rw [hrk]; rfl)
      simp only [Nat.add_zero] at e0
      rw [← hrk] at hl1 hk1 hm1
      clear hrk
      have Hk1 := Lib.hid hk1
      clear hk1
      obtain ⟨y0, y1, y2⟩ := r
      simp only [Sl.val] at e0 e1 e2 hl1 hm1
      go_wp2_with fail
      refine (blolen_any _ _ _ _ _ _ _ _ (Blk.new _ _ _) (by omega)).mono ?_
      rintro e w1 ⟨rfl, rfl⟩
      go_wp2_with fail
      exact ⟨⟨k + 1, by omega, by go_num, by rw [Hk1.out]; go_num, hB.alloc hz _⟩, by simp [intOf]; omega⟩
    · obtain rfl : k = l.length := by omega
      rw [List.take_length]
      go_wp2_with fail
      go_ret
      refine ⟨?_, hB⟩
      simp
      omega
/-- The bytes of items. -/
def itsLen (l : List Item) : Nat := (l.map fun x => 2 + x.text.size).sum
theorem itsLen_succ (l : List Item) (k : Nat) (h : k < l.length) : itsLen (l.take (k + 1)) = itsLen (l.take k) + (2 + l[k].text.size) := by
  unfold itsLen
  rw [List.take_add_one, List.getElem?_eq_getElem h, List.map_append, List.sum_append]
  rfl
theorem itsLen_le (l : List Item) (k : Nat) : itsLen (l.take k) ≤ itsLen l := by
  conv => rhs; rw [← List.take_append_drop k l]
  simp only [itsLen, List.map_append, List.sum_append]
  omega
def chunkLen (l : List Item) : Nat := 5 + itsLen l + pad4 (5 + itsLen l)
set_option maxHeartbeats 2000000 in
theorem chunklen_any (x : Value) (w : World) (A : Option Addr) (l : List Item) (c : Nat) (hx : x.oneCell' = true) (hr : Reads w w.heap.size 2 A l.length (l.flatMap Item.cells)) (hn : l.length ≤ 2147483647) (hsum : itsLen l ≤ 549755813888) :
    Calls Tryz.prog 126 #[.agg #[x, .slice A (l.length : Nat) c]] w fun e w' => e = .returned (.int .i64 (chunkLen l : Nat)) ∧ Below w.heap.size w w' := by
  go_enter Tryz.func126, Tryz.ntmps126
  have hp := pad4_le (5 + itsLen l)
  obtain ⟨CL, hCL⟩ : ∃ CL, CL = chunkLen l := ⟨_, rfl⟩
  have he : CL = 5 + itsLen l + pad4 (5 + itsLen l) := hCL
  rw [← hCL]
  have He := Lib.hid he
  clear he hCL
  go_wp2_with fail
  go_loopw [3, 9] (fun v i wr => ∃ k : Nat, k ≤ l.length ∧ i = .int .i64 k ∧ v = .int .i64 (4 + itsLen (l.take k) : Nat) ∧ Below w.heap.size w wr)
    (fun _ i _ => l.length - (intOf i).toNat)
  case atStart => exact ⟨0, by omega, rfl, rfl, (Below.refl _ _).alloc (Nat.le_refl _) _⟩
  case round =>
    obtain ⟨k, hk, rfl, rfl, hB⟩ := hrel
    have hz := hB.size
    by_cases hlt : k < l.length
    · obtain ⟨b, off, rfl, hbB⟩ := hr.addr (by omega) (by omega)
      have hrw := hr.below hB
      have hl1 := itsLen_le l (k + 1)
      rw [itsLen_succ l k hlt] at hl1
      have hk1 := itsLen_succ l k hlt
      obtain ⟨r, hrk⟩ : ∃ r, r = l[k] := ⟨_, rfl⟩
      have e0 := hrw.at2 (item_cells_len l) k 0 hlt (by omega) (v := .int .u8 r.ty) (by rw [hrk]; rfl)
      have e1 := hrw.at2 (item_cells_len l) k 1 hlt (by omega) (v := .string r.text) (by rw [hrk]; rfl)
      simp only [Nat.add_zero] at e0
      rw [← hrk] at hl1 hk1
      clear hrk
      have Hk1 := Lib.hid hk1
      clear hk1
      obtain ⟨y0, y1⟩ := r
      simp only at e0 e1 hl1
      go_wp2_with fail
      have hB1 := hB.alloc hz (.cells #[.int .u8 y0, .string y1] 230)
      have hz1 := hB1.size
      generalize (wr.alloc (.cells #[.int .u8 y0, .string y1] 230)) = w1 at *
      refine (itemlen_any _ _ _ (by omega)).mono ?_
      rintro e w2 ⟨rfl, hB2⟩
      go_wp2_with fail
      exact ⟨⟨k + 1, by omega, by go_num, by rw [Hk1.out]; go_num, hB1.trans (hB2.mono hz1)⟩, by simp [intOf]; omega⟩
    · obtain rfl : k = l.length := by omega
      rw [List.take_length]
      go_wp2_with fail
      refine (padding_int (5 + itsLen l) (by omega) _ (by omega)).mono ?_
      rintro e w1 ⟨rfl, rfl⟩
      go_wp2_with fail
      go_ret
      refine ⟨?_, hB⟩
      simp
      have := He.out
      omega
/-- The bytes of chunks. -/
def chunksLen (l : List Chunk) : Nat := (l.map fun x => chunkLen x.items.l).sum
theorem chunksLen_succ (l : List Chunk) (k : Nat) (h : k < l.length) : chunksLen (l.take (k + 1)) = chunksLen (l.take k) + chunkLen l[k].items.l := by
  unfold chunksLen
  rw [List.take_add_one, List.getElem?_eq_getElem h, List.map_append, List.sum_append]
  rfl
theorem chunksLen_le (l : List Chunk) (k : Nat) : chunksLen (l.take k) ≤ chunksLen l := by
  conv => rhs; rw [← List.take_append_drop k l]
  simp only [chunksLen, List.map_append, List.sum_append]
  omega
set_option maxHeartbeats 2000000 in
theorem sdsize_any (g : Nat) (w : World) (A : Option Addr) (l : List Chunk) (c : Nat) (T : TypeId) (hb : Blk w g T #[.slice A (l.length : Nat) c]) (hr : Reads w w.heap.size 2 A l.length (l.flatMap Chunk.cells)) (hri : ∀ x ∈ l, x.items.Lies w w.heap.size 2 Item.cells) (hn : l.length ≤ 2147483647) (hm : ∀ x ∈ l, x.items.l.length ≤ 2147483647) (hsum : chunksLen l ≤ 549755813888) :
    Calls Tryz.prog 122 #[.pointer (some ⟨g, 0, none⟩)] w fun e w' => e = .returned (.int .i64 (4 + chunksLen l : Nat)) ∧ Below w.heap.size w w' := by
  have cr : w.cell? ⟨g, 0, none⟩ = some (.slice A (l.length : Nat) c) := hb.cell 0
  go_enter Tryz.func122, Tryz.ntmps122
  go_wp2_with fail
  go_loopw [3, 11] (fun v i wr => ∃ k : Nat, k ≤ l.length ∧ i = .int .i64 k ∧ v = .int .i64 (chunksLen (l.take k) : Nat) ∧ Below w.heap.size w wr)
    (fun _ i _ => l.length - (intOf i).toNat)
  case atStart => exact ⟨0, by omega, rfl, rfl, Below.refl _ _⟩
  case round =>
    obtain ⟨k, hk, rfl, rfl, hB⟩ := hrel
    have hz := hB.size
    by_cases hlt : k < l.length
    · obtain ⟨b, off, rfl, hbB⟩ := hr.addr (by omega) (by omega)
      have hrw := hr.below hB
      have hl1 := chunksLen_le l (k + 1)
      rw [chunksLen_succ l k hlt] at hl1
      have hk1 := chunksLen_succ l k hlt
      have hm1 := hm _ (List.getElem_mem hlt)
      have hri1 := hri _ (List.getElem_mem hlt)
      obtain ⟨r, hrk⟩ : ∃ r, r = l[k] := ⟨_, rfl⟩
      have e0 := hrw.at2 (chunk_cells_len l) k 0 hlt (by omega) (v := .int .u32 r.src) (by rw [hrk]; rfl)
      have e1 := hrw.at2 (chunk_cells_len l) k 1 hlt (by omega) (v := r.items.val) (by rw [hrk]; rfl)
      simp only [Nat.add_zero] at e0
      rw [← hrk] at hl1 hk1 hm1 hri1
      clear hrk
      have Hk1 := Lib.hid hk1
      clear hk1
      obtain ⟨y0, yA, yc, yl⟩ := r
      simp only [Sl.val] at e0 e1 hl1 hm1
      simp only [Sl.Lies] at hri1
      have hc1 : itsLen yl ≤ chunkLen yl := by unfold chunkLen; omega
      go_wp2_with fail
      have hB1 := hB.alloc hz (.cells #[.int .u32 y0, .slice yA (yl.length : Nat) yc] 227)
      have hz1 := hB1.size
      generalize (wr.alloc (.cells #[.int .u32 y0, .slice yA (yl.length : Nat) yc] 227)) = w1 at *
      refine (chunklen_any _ _ _ _ _ rfl ((hri1.below hB1).more hz1) hm1 (by omega)).mono ?_
      rintro e w2 ⟨rfl, hB2⟩
      go_wp2_with fail
      exact ⟨⟨k + 1, by omega, by go_num, by rw [Hk1.out]; go_num, hB1.trans (hB2.mono hz1)⟩, by simp [intOf]; omega⟩
    · obtain rfl : k = l.length := by omega
      rw [List.take_length]
      go_wp2_with fail
      go_ret
      exact ⟨by simp, hB⟩
end Go.Proofs.YtmmfpgoodfgkbaaGreat
