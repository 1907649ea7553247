/-
  PACKETS THAT CAME IN, OPENED: whatever reads as a packet of the reference is one in memory: its numbers fit their kinds, its slices read as lists, what lies within them, too. No condition.
-/
import Derived.Test.YtmmfpgoodfgkbaaGreatLegalAny
import Derived.Test.YtmmfpgoodfgkbaaGreatSizes
import Derived.Test.YtmmfpgoodfgkbaaGreatRows
import Derived.ProofKit
import Derived.OpenShut
import Derived.ChangeOld
import Derived.Lib.SmallJoins
import Derived.Deep.Fields
import Derived.Deep.Slices
namespace Go.Proofs.YtmmfpgoodfgkbaaGreat
open Go Go.Joins Go.ChangeShapes Go.WideShapes Go.RowKit Go.Deep
set_option linter.unusedVariables false

section
variable {H : Type} {enc : TypeId × Value → H} {P : Program} {w : World} {spare : Nat → Bool} {held : Bool}
/-- Whatever reads as a type's data is the cells of something that is good. -/
def Opens (enc : TypeId × Value → H) (P : Program) (w : World) (spare : Nat → Bool) (held : Bool) (t : TypeId) {α : Type} (f : α → List Value) (G : α → Prop) (M : α → Nat) : Prop :=
  ∀ (fuel : Nat) (cs : List Value) (x : DataW H × List MemPlace), DataW.trod enc P w 0 spare held fuel t cs = some x → ∃ a : α, cs = f a ∧ G a ∧ M a ≤ Rows.uptoBulk x.1
theorem one_le (d : DataW H) : 1 ≤ Rows.uptoBulk d := by
  cases d with
  | lit l => cases l <;> simp [Rows.uptoBulk]
  | nil => simp [Rows.uptoBulk]
  | ptr d => simp [Rows.uptoBulk]
  | slice elems spare => simp [Rows.uptoBulk]
  | agg parts => simp [Rows.uptoBulk]
  | iface t d => simp [Rows.uptoBulk]
  | map entries => simp [Rows.uptoBulk]
  | held h => simp [Rows.uptoBulk]
theorem sum_bulk {α : Type} (M : α → Nat) : ∀ (l : List α) (D : Nat → DataW H), (∀ i (h : i < l.length), M l[i] ≤ Rows.uptoBulk (D i)) → (l.map M).sum ≤ Rows.uptoBulkAll ((List.range l.length).map D)
  | [], _, _ => by simp
  | x :: l, D, h => by
    have h0 := h 0 (by simp)
    have ih := sum_bulk M l (fun i => D (i + 1)) fun i hi => h (i + 1) (by simp; omega)
    rw [List.length_cons, List.range_succ_eq_map, List.map_cons, List.map_cons, List.sum_cons, List.map_map]
    simp only [Rows.uptoBulkAll]
    have e : ((List.range l.length).map (D ∘ Nat.succ)) = (List.range l.length).map fun i => D (i + 1) := rfl
    rw [e]
    have h0' : M x ≤ Rows.uptoBulk (D 0) := h0
    omega
theorem bulk_drop {ys : List (DataW H)} {i : Nat} {d : DataW H} (j : Nat) (h : ys[i]? = some d) (hj : j = i + 1) : Rows.uptoBulkAll (ys.drop i) = Rows.uptoBulk d + Rows.uptoBulkAll (ys.drop j) := by
  subst hj
  obtain ⟨hi, rfl⟩ := List.getElem?_eq_some_iff.1 h
  rw [List.drop_eq_getElem_cons hi]
  rfl
/-- A slice that reads as its list, the elements good. -/
def SlG {α : Type} (w : World) (size : Nat) (f : α → List Value) (G : α → Prop) (s : Sl α) : Prop := s.Lies w w.heap.size size f ∧ (∀ x ∈ s.l, G x) ∧ s.l.length ≤ s.c

theorem list_of {α : Type} {q : Nat → α → Prop} : ∀ n, (∀ i, i < n → ∃ a, q i a) → ∃ l : List α, l.length = n ∧ ∀ i (h : i < l.length), q i l[i]
  | 0, _ => ⟨[], rfl, fun i h => by simp at h⟩
  | n + 1, h => by
    obtain ⟨l, hl, hq⟩ := list_of n fun i hi => h i (by omega)
    obtain ⟨a, ha⟩ := h n (by omega)
    refine ⟨l ++ [a], by simp [hl], fun i hi => ?_⟩
    by_cases hin : i < l.length
    · rw [List.getElem_append_left hin]; exact hq i hin
    · have : i = n := by simp at hi; omega
      subst this
      rw [List.getElem_append_right (by omega)]
      simpa [hl] using ha

theorem opens_slice {α : Type} {t e : TypeId} {f : α → List Value} {G : α → Prop} {M : α → Nat} {size : Nat} (ht : P.underlying t = some (.slice e)) (hc : P.cellsOf e = size) (hs : 0 < size) (hf : ∀ a, (f a).length = size) (he : Opens enc P w spare held e f G M) :
    Opens enc P w spare held t (fun s : Sl α => [s.val]) (SlG w size f G) (fun s => (s.l.map M).sum) := by
  intro fuel cs x h
  rcases open_slice ht h with ⟨rfl, _⟩ | ⟨a, len, cap, m, n, D, Pl, rfl, _, hl, _, hm, rfl, hx⟩
  · exact ⟨⟨none, 0, []⟩, rfl, ⟨Reads.none_, ⟨(fun x hx => by cases hx), Nat.le_refl _⟩⟩, Nat.zero_le _⟩
  · have hlm : len ≤ m := by rw [hm]; split <;> omega
    obtain ⟨l, hll, hq⟩ := list_of (q := fun i y => w.cells? 0 (a.add (i * P.cellsOf e)) (P.cellsOf e) = some (f y) ∧ G y ∧ M y ≤ Rows.uptoBulk (D i)) len fun i hi => by
      obtain ⟨cs', h1, h2⟩ := hx i (by omega)
      obtain ⟨y, rfl, hy, hym⟩ := he _ _ _ h2
      exact ⟨y, h1, hy, hym⟩
    subst hll
    refine ⟨⟨some a, cap, l⟩, rfl, ⟨⟨flat_len f size l fun x _ => hf x, fun hn => ?_⟩, (fun x hx => ?_), hl⟩, ?_⟩
    · have hcell : ∀ i (h : i < l.length) j, j < size → w.cell? (a.add (i * size + j)) = (f l[i])[j]? := by
        intro i hi j hj
        have h1 := (hq i hi).1
        rw [hc] at h1
        obtain ⟨_, _, hat⟩ := World.cells?_some h1
        have := hat j hj
        rwa [Go.Deep.add_add] at this
      refine ⟨a, rfl, ?_, fun j u hu => ?_⟩
      · have h1 := hcell 0 hn 0 hs
        have h2 : (f l[0])[0]? = some ((f l[0])[0]'(by rw [hf]; exact hs)) := List.getElem?_eq_getElem _
        rw [h2] at h1
        have := World.block_lt_of_cell? w _ h1
        rwa [block_of_add] at this
      · have hjl : j < l.length * size := by
          rw [← flat_len f size l fun x _ => hf x]
          exact (List.getElem?_eq_some_iff.1 hu).1
        have hdm : j = (j / size) * size + j % size := by rw [Nat.mul_comm]; exact (Nat.div_add_mod j size).symm
        have hq' : j / size < l.length := Nat.div_lt_of_lt_mul (by rw [Nat.mul_comm]; exact hjl)
        have hr' : j % size < size := Nat.mod_lt _ hs
        have h3 := flat_at f size l (fun x _ => hf x) (j / size) (j % size) hq' hr'
        rw [← hdm, hu] at h3
        rw [hdm, hcell _ hq' _ hr', ← h3]
    · obtain ⟨i, hi, rfl⟩ := List.mem_iff_getElem.1 hx
      exact (hq i hi).2.1
    · have := sum_bulk M l D fun i hi => (hq i hi).2.2
      simp only [Rows.uptoBulk]
      omega

theorem struct_field {t : TypeId} {fs : Array Field} {fuel : Nat} {cs : List Value} {x : DataW H × List MemPlace} (hs : P.underlying t = some (.struct fs)) (h : DataW.trod enc P w 0 spare held fuel t cs = some x) :
    cs.length = P.cellsOf t ∧ ∃ ys, x.1 = .agg ys ∧ ∀ (i : Nat) (u : TypeId) (off k : Nat), (fs[i]?).map (fun f => (f.type, f.offset)) = some (u, off) → P.cellsOf u = k → ∃ n y, DataW.trod enc P w 0 spare held n u ((cs.drop off).take k) = some y ∧ ys[i]? = some y.1 := by
  obtain ⟨xs, n, _, rfl, hl, hxl, hg⟩ := DataW.trod_struct hs h
  refine ⟨hl, _, rfl, fun i u off k hu hk => ?_⟩
  subst hk
  rcases hf : fs[i]? with _ | f
  · rw [hf] at hu; cases hu
  rw [hf] at hu
  simp only [Option.map_some, Option.some.injEq, Prod.mk.injEq] at hu
  obtain ⟨rfl, rfl⟩ := hu
  have hi : i < fs.size := (Array.getElem?_eq_some_iff.1 hf).1
  exact ⟨n, xs[i]'(by omega), by rw [hg i f hf]; exact List.getElem?_eq_getElem _, by rw [List.getElem?_map, List.getElem?_eq_getElem (by omega)]; rfl⟩
theorem opens_int {t : TypeId} (k : IntKind) (ht : P.underlying t = some (.int k)) : Opens enc P w spare held t (fun n : Int => [.int k n]) (fun n => k.min ≤ n ∧ n ≤ k.max) (fun _ => 1) := fun fuel cs x h => by
  obtain ⟨n, rfl, _, hw⟩ := DataW.trod_int ht h
  refine ⟨n, rfl, ?_, one_le _⟩
  simpa [Lit.wf] using hw
theorem opens_bool {t : TypeId} (ht : P.underlying t = some .bool) : Opens enc P w spare held t (fun b : Bool => [.bool b]) (fun _ => True) (fun _ => 1) := fun fuel cs x h => by
  obtain ⟨b, rfl, _⟩ := DataW.trod_bool ht h
  exact ⟨b, rfl, trivial, one_le _⟩
theorem opens_string {t : TypeId} (ht : P.underlying t = some .string) : Opens enc P w spare held t (fun s : ByteArray => [.string s]) (fun s => s.size ≤ maxLen) (fun s => s.size) := fun fuel cs x h => by
  obtain ⟨s, rfl, hxe, hs⟩ := DataW.trod_string ht h
  refine ⟨s, rfl, hs, ?_⟩
  rw [hxe]
  simp [Rows.uptoBulk]
theorem Opens.mono {α : Type} {t : TypeId} {f : α → List Value} {G G' : α → Prop} {M : α → Nat} (h : Opens enc P w spare held t f G M) (hg : ∀ a, G a → G' a) : Opens enc P w spare held t f G' M := fun fuel cs x hx => by
  obtain ⟨a, ha, hga, hm⟩ := h fuel cs x hx
  exact ⟨a, ha, hg a hga, hm⟩
end

theorem opens_u8 {H : Type} {enc : TypeId × Value → H} {w : World} {spare : Nat → Bool} {held : Bool} : Opens enc Tryz.prog w spare held 5 (fun n : Int => [.int .u8 n]) (fun n => 0 ≤ n ∧ n < 256) (fun _ => 1) :=
  (opens_int .u8 Tryz.underlying5).mono fun n h => by
    have hmin : IntKind.u8.min = 0 := rfl
    have hmax : IntKind.u8.max = 256 - 1 := rfl
    omega
theorem opens_u16 {H : Type} {enc : TypeId × Value → H} {w : World} {spare : Nat → Bool} {held : Bool} : Opens enc Tryz.prog w spare held 32 (fun n : Int => [.int .u16 n]) (fun n => 0 ≤ n ∧ n < 65536) (fun _ => 1) :=
  (opens_int .u16 Tryz.underlying32).mono fun n h => by
    have hmin : IntKind.u16.min = 0 := rfl
    have hmax : IntKind.u16.max = 65536 - 1 := rfl
    omega
theorem opens_u32 {H : Type} {enc : TypeId × Value → H} {w : World} {spare : Nat → Bool} {held : Bool} : Opens enc Tryz.prog w spare held 22 (fun n : Int => [.int .u32 n]) (fun n => 0 ≤ n ∧ n < 4294967296) (fun _ => 1) :=
  (opens_int .u32 Tryz.underlying22).mono fun n h => by
    have hmin : IntKind.u32.min = 0 := rfl
    have hmax : IntKind.u32.max = 4294967296 - 1 := rfl
    omega
theorem opens_u64 {H : Type} {enc : TypeId × Value → H} {w : World} {spare : Nat → Bool} {held : Bool} : Opens enc Tryz.prog w spare held 23 (fun n : Int => [.int .u64 n]) (fun n => 0 ≤ n ∧ n < 18446744073709551616) (fun _ => 1) :=
  (opens_int .u64 Tryz.underlying23).mono fun n h => by
    have hmin : IntKind.u64.min = 0 := rfl
    have hmax : IntKind.u64.max = 18446744073709551616 - 1 := rfl
    omega
theorem opens_i64 {H : Type} {enc : TypeId × Value → H} {w : World} {spare : Nat → Bool} {held : Bool} : Opens enc Tryz.prog w spare held 3 (fun n : Int => [.int .i64 n]) (fun n => -9223372036854775808 ≤ n ∧ n < 9223372036854775808) (fun _ => 1) :=
  (opens_int .i64 Tryz.underlying3).mono fun n h => by
    have hmin : IntKind.i64.min = -9223372036854775808 := rfl
    have hmax : IntKind.i64.max = 9223372036854775808 - 1 := rfl
    omega
theorem opens_j64 {H : Type} {enc : TypeId × Value → H} {w : World} {spare : Nat → Bool} {held : Bool} : Opens enc Tryz.prog w spare held 2 (fun n : Int => [.int .i64 n]) (fun n => -9223372036854775808 ≤ n ∧ n < 9223372036854775808) (fun _ => 1) :=
  (opens_int .i64 Tryz.underlying2).mono fun n h => by
    have hmin : IntKind.i64.min = -9223372036854775808 := rfl
    have hmax : IntKind.i64.max = 9223372036854775808 - 1 := rfl
    omega
/-- The numbers fit their kinds, the slices read as lists. -/
structure RepG (w : World) (x : Rep) : Prop where
  h0 : 0 ≤ x.ssrc ∧ x.ssrc < 4294967296
  h1 : 0 ≤ x.frac ∧ x.frac < 256
  h2 : 0 ≤ x.lost ∧ x.lost < 4294967296
  h3 : 0 ≤ x.seq ∧ x.seq < 4294967296
  h4 : 0 ≤ x.jit ∧ x.jit < 4294967296
  h5 : 0 ≤ x.last ∧ x.last < 4294967296
  h6 : 0 ≤ x.dly ∧ x.dly < 4294967296
set_option maxRecDepth 100000 in
theorem opens_Rep {H : Type} {enc : TypeId × Value → H} {w : World} {spare : Nat → Bool} {held : Bool} : Opens enc Tryz.prog w spare held 85 Rep.cells (RepG w) (fun _ => 1) := by
  intro fuel cs x h
  obtain ⟨hl, ys, hxe, hf⟩ := struct_field Tryz.underlying85 h
  have hl2 : cs.length = 7 := hl.trans (by kernel_rfl)
  match cs, hl2 with
  | [c0, c1, c2, c3, c4, c5, c6], _ =>
    have k0 : Tryz.prog.cellsOf 22 = 1 := by kernel_rfl
    have k1 : Tryz.prog.cellsOf 5 = 1 := by kernel_rfl
    obtain ⟨n0, y0, h0, b0⟩ : ∃ n y, DataW.trod enc Tryz.prog w 0 spare held n 22 [c0] = some y ∧ ys[0]? = some y.1 := hf 0 22 0 1 rfl k0
    obtain ⟨a0, e0, g0, m0⟩ := opens_u32 _ _ _ h0
    injection e0 with e0 _; subst e0
    clear h0
    obtain ⟨n1, y1, h1, b1⟩ : ∃ n y, DataW.trod enc Tryz.prog w 0 spare held n 5 [c1] = some y ∧ ys[1]? = some y.1 := hf 1 5 1 1 rfl k1
    obtain ⟨a1, e1, g1, m1⟩ := opens_u8 _ _ _ h1
    injection e1 with e1 _; subst e1
    clear h1
    obtain ⟨n2, y2, h2, b2⟩ : ∃ n y, DataW.trod enc Tryz.prog w 0 spare held n 22 [c2] = some y ∧ ys[2]? = some y.1 := hf 2 22 2 1 rfl k0
    obtain ⟨a2, e2, g2, m2⟩ := opens_u32 _ _ _ h2
    injection e2 with e2 _; subst e2
    clear h2
    obtain ⟨n3, y3, h3, b3⟩ : ∃ n y, DataW.trod enc Tryz.prog w 0 spare held n 22 [c3] = some y ∧ ys[3]? = some y.1 := hf 3 22 3 1 rfl k0
    obtain ⟨a3, e3, g3, m3⟩ := opens_u32 _ _ _ h3
    injection e3 with e3 _; subst e3
    clear h3
    obtain ⟨n4, y4, h4, b4⟩ : ∃ n y, DataW.trod enc Tryz.prog w 0 spare held n 22 [c4] = some y ∧ ys[4]? = some y.1 := hf 4 22 4 1 rfl k0
    obtain ⟨a4, e4, g4, m4⟩ := opens_u32 _ _ _ h4
    injection e4 with e4 _; subst e4
    clear h4
    obtain ⟨n5, y5, h5, b5⟩ : ∃ n y, DataW.trod enc Tryz.prog w 0 spare held n 22 [c5] = some y ∧ ys[5]? = some y.1 := hf 5 22 5 1 rfl k0
    obtain ⟨a5, e5, g5, m5⟩ := opens_u32 _ _ _ h5
    injection e5 with e5 _; subst e5
    clear h5
    obtain ⟨n6, y6, h6, b6⟩ : ∃ n y, DataW.trod enc Tryz.prog w 0 spare held n 22 [c6] = some y ∧ ys[6]? = some y.1 := hf 6 22 6 1 rfl k0
    obtain ⟨a6, e6, g6, m6⟩ := opens_u32 _ _ _ h6
    injection e6 with e6 _; subst e6
    clear h6
    exact ⟨⟨a0, a1, a2, a3, a4, a5, a6⟩, rfl, ⟨g0, g1, g2, g3, g4, g5, g6⟩, one_le _⟩

/-- The numbers fit their kinds, the slices read as lists. -/
structure ItemG (w : World) (x : Item) : Prop where
  h0 : 0 ≤ x.ty ∧ x.ty < 256
  h1 : x.text.size ≤ maxLen
set_option maxRecDepth 100000 in
theorem opens_Item {H : Type} {enc : TypeId × Value → H} {w : World} {spare : Nat → Bool} {held : Bool} : Opens enc Tryz.prog w spare held 94 Item.cells (ItemG w) (fun x => 2 + x.text.size) := by
  intro fuel cs x h
  obtain ⟨hl, ys, hxe, hf⟩ := struct_field Tryz.underlying94 h
  have hl2 : cs.length = 2 := hl.trans (by kernel_rfl)
  match cs, hl2 with
  | [c0, c1], _ =>
    have k0 : Tryz.prog.cellsOf 9 = 1 := by kernel_rfl
    have k1 : Tryz.prog.cellsOf 5 = 1 := by kernel_rfl
    obtain ⟨n0, y0, h0, b0⟩ : ∃ n y, DataW.trod enc Tryz.prog w 0 spare held n 5 [c0] = some y ∧ ys[0]? = some y.1 := hf 0 5 0 1 rfl k1
    obtain ⟨a0, e0, g0, m0⟩ := opens_u8 _ _ _ h0
    injection e0 with e0 _; subst e0
    clear h0
    obtain ⟨n1, y1, h1, b1⟩ : ∃ n y, DataW.trod enc Tryz.prog w 0 spare held n 9 [c1] = some y ∧ ys[1]? = some y.1 := hf 1 9 1 1 rfl k0
    obtain ⟨a1, e1, g1, m1⟩ := (opens_string Tryz.underlying9) _ _ _ h1
    injection e1 with e1 _; subst e1
    clear h1
    refine ⟨⟨a0, a1⟩, rfl, ⟨g0, g1⟩, ?_⟩
    rw [hxe]
    simp only [Rows.uptoBulk]
    have d0 := bulk_drop 1 b0 rfl
    have d1 := bulk_drop 2 b1 rfl
    rw [List.drop_zero] at d0
    dsimp only at m0 m1
    omega

/-- The numbers fit their kinds, the slices read as lists. -/
structure ChunkG (w : World) (x : Chunk) : Prop where
  h0 : 0 ≤ x.src ∧ x.src < 4294967296
  h1 : SlG w 2 Item.cells (ItemG w) x.items
set_option maxRecDepth 100000 in
theorem opens_Chunk {H : Type} {enc : TypeId × Value → H} {w : World} {spare : Nat → Bool} {held : Bool} : Opens enc Tryz.prog w spare held 89 Chunk.cells (ChunkG w) (fun x => 2 + (x.items.l.map fun x : Item => 2 + x.text.size).sum) := by
  intro fuel cs x h
  obtain ⟨hl, ys, hxe, hf⟩ := struct_field Tryz.underlying89 h
  have hl2 : cs.length = 2 := hl.trans (by kernel_rfl)
  match cs, hl2 with
  | [c0, c1], _ =>
    have k0 : Tryz.prog.cellsOf 87 = 1 := by kernel_rfl
    have k1 : Tryz.prog.cellsOf 22 = 1 := by kernel_rfl
    obtain ⟨n0, y0, h0, b0⟩ : ∃ n y, DataW.trod enc Tryz.prog w 0 spare held n 22 [c0] = some y ∧ ys[0]? = some y.1 := hf 0 22 0 1 rfl k1
    obtain ⟨a0, e0, g0, m0⟩ := opens_u32 _ _ _ h0
    injection e0 with e0 _; subst e0
    clear h0
    obtain ⟨n1, y1, h1, b1⟩ : ∃ n y, DataW.trod enc Tryz.prog w 0 spare held n 87 [c1] = some y ∧ ys[1]? = some y.1 := hf 1 87 1 1 rfl k0
    obtain ⟨a1, e1, g1, m1⟩ := (opens_slice (f := Item.cells) (G := (ItemG w)) (size := 2) Tryz.underlying87 (by kernel_rfl) (by decide) (fun _ => rfl) opens_Item) _ _ _ h1
    injection e1 with e1 _; subst e1
    clear h1
    refine ⟨⟨a0, a1⟩, rfl, ⟨g0, g1⟩, ?_⟩
    rw [hxe]
    simp only [Rows.uptoBulk]
    have d0 := bulk_drop 1 b0 rfl
    have d1 := bulk_drop 2 b1 rfl
    rw [List.drop_zero] at d0
    dsimp only at m0 m1
    omega

/-- The numbers fit their kinds, the slices read as lists. -/
structure PairG (w : World) (x : Pair) : Prop where
  h0 : 0 ≤ x.id ∧ x.id < 65536
  h1 : 0 ≤ x.mask ∧ x.mask < 65536
set_option maxRecDepth 100000 in
theorem opens_Pair {H : Type} {enc : TypeId × Value → H} {w : World} {spare : Nat → Bool} {held : Bool} : Opens enc Tryz.prog w spare held 97 Pair.cells (PairG w) (fun _ => 1) := by
  intro fuel cs x h
  obtain ⟨hl, ys, hxe, hf⟩ := struct_field Tryz.underlying97 h
  have hl2 : cs.length = 2 := hl.trans (by kernel_rfl)
  match cs, hl2 with
  | [c0, c1], _ =>
    have k0 : Tryz.prog.cellsOf 32 = 1 := by kernel_rfl
    obtain ⟨n0, y0, h0, b0⟩ : ∃ n y, DataW.trod enc Tryz.prog w 0 spare held n 32 [c0] = some y ∧ ys[0]? = some y.1 := hf 0 32 0 1 rfl k0
    obtain ⟨a0, e0, g0, m0⟩ := opens_u16 _ _ _ h0
    injection e0 with e0 _; subst e0
    clear h0
    obtain ⟨n1, y1, h1, b1⟩ : ∃ n y, DataW.trod enc Tryz.prog w 0 spare held n 32 [c1] = some y ∧ ys[1]? = some y.1 := hf 1 32 1 1 rfl k0
    obtain ⟨a1, e1, g1, m1⟩ := opens_u16 _ _ _ h1
    injection e1 with e1 _; subst e1
    clear h1
    exact ⟨⟨a0, a1⟩, rfl, ⟨g0, g1⟩, one_le _⟩

/-- The numbers fit their kinds, the slices read as lists. -/
structure SlcG (w : World) (x : Slc) : Prop where
  h0 : 0 ≤ x.first ∧ x.first < 65536
  h1 : 0 ≤ x.number ∧ x.number < 65536
  h2 : 0 ≤ x.pic ∧ x.pic < 256
set_option maxRecDepth 100000 in
theorem opens_Slc {H : Type} {enc : TypeId × Value → H} {w : World} {spare : Nat → Bool} {held : Bool} : Opens enc Tryz.prog w spare held 100 Slc.cells (SlcG w) (fun _ => 1) := by
  intro fuel cs x h
  obtain ⟨hl, ys, hxe, hf⟩ := struct_field Tryz.underlying100 h
  have hl2 : cs.length = 3 := hl.trans (by kernel_rfl)
  match cs, hl2 with
  | [c0, c1, c2], _ =>
    have k0 : Tryz.prog.cellsOf 32 = 1 := by kernel_rfl
    have k1 : Tryz.prog.cellsOf 5 = 1 := by kernel_rfl
    obtain ⟨n0, y0, h0, b0⟩ : ∃ n y, DataW.trod enc Tryz.prog w 0 spare held n 32 [c0] = some y ∧ ys[0]? = some y.1 := hf 0 32 0 1 rfl k0
    obtain ⟨a0, e0, g0, m0⟩ := opens_u16 _ _ _ h0
    injection e0 with e0 _; subst e0
    clear h0
    obtain ⟨n1, y1, h1, b1⟩ : ∃ n y, DataW.trod enc Tryz.prog w 0 spare held n 32 [c1] = some y ∧ ys[1]? = some y.1 := hf 1 32 1 1 rfl k0
    obtain ⟨a1, e1, g1, m1⟩ := opens_u16 _ _ _ h1
    injection e1 with e1 _; subst e1
    clear h1
    obtain ⟨n2, y2, h2, b2⟩ : ∃ n y, DataW.trod enc Tryz.prog w 0 spare held n 5 [c2] = some y ∧ ys[2]? = some y.1 := hf 2 5 2 1 rfl k1
    obtain ⟨a2, e2, g2, m2⟩ := opens_u8 _ _ _ h2
    injection e2 with e2 _; subst e2
    clear h2
    exact ⟨⟨a0, a1, a2⟩, rfl, ⟨g0, g1, g2⟩, one_le _⟩

/-- The numbers fit their kinds, the slices read as lists. -/
structure EntG (w : World) (x : Ent) : Prop where
  h0 : 0 ≤ x.ssrc ∧ x.ssrc < 4294967296
  h1 : 0 ≤ x.n ∧ x.n < 256
set_option maxRecDepth 100000 in
theorem opens_Ent {H : Type} {enc : TypeId × Value → H} {w : World} {spare : Nat → Bool} {held : Bool} : Opens enc Tryz.prog w spare held 103 Ent.cells (EntG w) (fun _ => 1) := by
  intro fuel cs x h
  obtain ⟨hl, ys, hxe, hf⟩ := struct_field Tryz.underlying103 h
  have hl2 : cs.length = 2 := hl.trans (by kernel_rfl)
  match cs, hl2 with
  | [c0, c1], _ =>
    have k0 : Tryz.prog.cellsOf 22 = 1 := by kernel_rfl
    have k1 : Tryz.prog.cellsOf 5 = 1 := by kernel_rfl
    obtain ⟨n0, y0, h0, b0⟩ : ∃ n y, DataW.trod enc Tryz.prog w 0 spare held n 22 [c0] = some y ∧ ys[0]? = some y.1 := hf 0 22 0 1 rfl k0
    obtain ⟨a0, e0, g0, m0⟩ := opens_u32 _ _ _ h0
    injection e0 with e0 _; subst e0
    clear h0
    obtain ⟨n1, y1, h1, b1⟩ : ∃ n y, DataW.trod enc Tryz.prog w 0 spare held n 5 [c1] = some y ∧ ys[1]? = some y.1 := hf 1 5 1 1 rfl k1
    obtain ⟨a1, e1, g1, m1⟩ := opens_u8 _ _ _ h1
    injection e1 with e1 _; subst e1
    clear h1
    exact ⟨⟨a0, a1⟩, rfl, ⟨g0, g1⟩, one_le _⟩

/-- The numbers fit their kinds, the slices read as lists. -/
structure MetG (w : World) (x : Met) : Prop where
  h0 : 0 ≤ x.ecn ∧ x.ecn < 256
  h1 : 0 ≤ x.off ∧ x.off < 65536
set_option maxRecDepth 100000 in
theorem opens_Met {H : Type} {enc : TypeId × Value → H} {w : World} {spare : Nat → Bool} {held : Bool} : Opens enc Tryz.prog w spare held 112 Met.cells (MetG w) (fun _ => 1) := by
  intro fuel cs x h
  obtain ⟨hl, ys, hxe, hf⟩ := struct_field Tryz.underlying112 h
  have hl2 : cs.length = 3 := hl.trans (by kernel_rfl)
  match cs, hl2 with
  | [c0, c1, c2], _ =>
    have k0 : Tryz.prog.cellsOf 4 = 1 := by kernel_rfl
    have k1 : Tryz.prog.cellsOf 32 = 1 := by kernel_rfl
    have k2 : Tryz.prog.cellsOf 5 = 1 := by kernel_rfl
    obtain ⟨n0, y0, h0, b0⟩ : ∃ n y, DataW.trod enc Tryz.prog w 0 spare held n 4 [c0] = some y ∧ ys[0]? = some y.1 := hf 0 4 0 1 rfl k0
    obtain ⟨a0, e0, g0, m0⟩ := (opens_bool Tryz.underlying4) _ _ _ h0
    injection e0 with e0 _; subst e0
    clear h0
    obtain ⟨n1, y1, h1, b1⟩ : ∃ n y, DataW.trod enc Tryz.prog w 0 spare held n 5 [c1] = some y ∧ ys[1]? = some y.1 := hf 1 5 1 1 rfl k2
    obtain ⟨a1, e1, g1, m1⟩ := opens_u8 _ _ _ h1
    injection e1 with e1 _; subst e1
    clear h1
    obtain ⟨n2, y2, h2, b2⟩ : ∃ n y, DataW.trod enc Tryz.prog w 0 spare held n 32 [c2] = some y ∧ ys[2]? = some y.1 := hf 2 32 2 1 rfl k1
    obtain ⟨a2, e2, g2, m2⟩ := opens_u16 _ _ _ h2
    injection e2 with e2 _; subst e2
    clear h2
    exact ⟨⟨a0, a1, a2⟩, rfl, ⟨g1, g2⟩, one_le _⟩

/-- The numbers fit their kinds, the slices read as lists. -/
structure BloG (w : World) (x : Blo) : Prop where
  h0 : 0 ≤ x.media ∧ x.media < 4294967296
  h1 : 0 ≤ x.first ∧ x.first < 65536
  h2 : SlG w 3 Met.cells (MetG w) x.mets
set_option maxRecDepth 100000 in
theorem opens_Blo {H : Type} {enc : TypeId × Value → H} {w : World} {spare : Nat → Bool} {held : Bool} : Opens enc Tryz.prog w spare held 107 Blo.cells (BloG w) (fun x => 3 + (x.mets.l.map fun _ => 1).sum) := by
  intro fuel cs x h
  obtain ⟨hl, ys, hxe, hf⟩ := struct_field Tryz.underlying107 h
  have hl2 : cs.length = 3 := hl.trans (by kernel_rfl)
  match cs, hl2 with
  | [c0, c1, c2], _ =>
    have k0 : Tryz.prog.cellsOf 105 = 1 := by kernel_rfl
    have k1 : Tryz.prog.cellsOf 32 = 1 := by kernel_rfl
    have k2 : Tryz.prog.cellsOf 22 = 1 := by kernel_rfl
    obtain ⟨n0, y0, h0, b0⟩ : ∃ n y, DataW.trod enc Tryz.prog w 0 spare held n 22 [c0] = some y ∧ ys[0]? = some y.1 := hf 0 22 0 1 rfl k2
    obtain ⟨a0, e0, g0, m0⟩ := opens_u32 _ _ _ h0
    injection e0 with e0 _; subst e0
    clear h0
    obtain ⟨n1, y1, h1, b1⟩ : ∃ n y, DataW.trod enc Tryz.prog w 0 spare held n 32 [c1] = some y ∧ ys[1]? = some y.1 := hf 1 32 1 1 rfl k1
    obtain ⟨a1, e1, g1, m1⟩ := opens_u16 _ _ _ h1
    injection e1 with e1 _; subst e1
    clear h1
    obtain ⟨n2, y2, h2, b2⟩ : ∃ n y, DataW.trod enc Tryz.prog w 0 spare held n 105 [c2] = some y ∧ ys[2]? = some y.1 := hf 2 105 2 1 rfl k0
    obtain ⟨a2, e2, g2, m2⟩ := (opens_slice (f := Met.cells) (G := (MetG w)) (size := 3) Tryz.underlying105 (by kernel_rfl) (by decide) (fun _ => rfl) opens_Met) _ _ _ h2
    injection e2 with e2 _; subst e2
    clear h2
    refine ⟨⟨a0, a1, a2⟩, rfl, ⟨g0, g1, g2⟩, ?_⟩
    rw [hxe]
    simp only [Rows.uptoBulk]
    have d0 := bulk_drop 1 b0 rfl
    have d1 := bulk_drop 2 b1 rfl
    have d2 := bulk_drop 3 b2 rfl
    rw [List.drop_zero] at d0
    dsimp only at m0 m1 m2
    omega

/-- The numbers fit their kinds, the slices read as lists. -/
structure StaG (w : World) (x : Sta) : Prop where
  h0 : 0 ≤ x.sym ∧ x.sym < 65536
  h1 : 0 ≤ x.size ∧ x.size < 65536
  h2 : 0 ≤ x.run ∧ x.run < 65536
  h3 : SlG w 1 u16c (fun n => 0 ≤ n ∧ n < 65536) x.list
set_option maxRecDepth 100000 in
theorem opens_Sta {H : Type} {enc : TypeId × Value → H} {w : World} {spare : Nat → Bool} {held : Bool} : Opens enc Tryz.prog w spare held 116 Sta.cells (StaG w) (fun _ => 1) := by
  intro fuel cs x h
  obtain ⟨hl, ys, hxe, hf⟩ := struct_field Tryz.underlying116 h
  have hl2 : cs.length = 5 := hl.trans (by kernel_rfl)
  match cs, hl2 with
  | [c0, c1, c2, c3, c4], _ =>
    have k0 : Tryz.prog.cellsOf 114 = 1 := by kernel_rfl
    have k1 : Tryz.prog.cellsOf 4 = 1 := by kernel_rfl
    have k2 : Tryz.prog.cellsOf 32 = 1 := by kernel_rfl
    obtain ⟨n0, y0, h0, b0⟩ : ∃ n y, DataW.trod enc Tryz.prog w 0 spare held n 4 [c0] = some y ∧ ys[0]? = some y.1 := hf 0 4 0 1 rfl k1
    obtain ⟨a0, e0, g0, m0⟩ := (opens_bool Tryz.underlying4) _ _ _ h0
    injection e0 with e0 _; subst e0
    clear h0
    obtain ⟨n1, y1, h1, b1⟩ : ∃ n y, DataW.trod enc Tryz.prog w 0 spare held n 32 [c1] = some y ∧ ys[1]? = some y.1 := hf 1 32 1 1 rfl k2
    obtain ⟨a1, e1, g1, m1⟩ := opens_u16 _ _ _ h1
    injection e1 with e1 _; subst e1
    clear h1
    obtain ⟨n2, y2, h2, b2⟩ : ∃ n y, DataW.trod enc Tryz.prog w 0 spare held n 32 [c2] = some y ∧ ys[2]? = some y.1 := hf 2 32 2 1 rfl k2
    obtain ⟨a2, e2, g2, m2⟩ := opens_u16 _ _ _ h2
    injection e2 with e2 _; subst e2
    clear h2
    obtain ⟨n3, y3, h3, b3⟩ : ∃ n y, DataW.trod enc Tryz.prog w 0 spare held n 32 [c3] = some y ∧ ys[3]? = some y.1 := hf 3 32 3 1 rfl k2
    obtain ⟨a3, e3, g3, m3⟩ := opens_u16 _ _ _ h3
    injection e3 with e3 _; subst e3
    clear h3
    obtain ⟨n4, y4, h4, b4⟩ : ∃ n y, DataW.trod enc Tryz.prog w 0 spare held n 114 [c4] = some y ∧ ys[4]? = some y.1 := hf 4 114 4 1 rfl k0
    obtain ⟨a4, e4, g4, m4⟩ := (opens_slice (f := u16c) (G := (fun n => 0 ≤ n ∧ n < 65536)) (size := 1) Tryz.underlying114 (by kernel_rfl) (by decide) (fun _ => rfl) opens_u16) _ _ _ h4
    injection e4 with e4 _; subst e4
    clear h4
    exact ⟨⟨a0, a1, a2, a3, a4⟩, rfl, ⟨g1, g2, g3, g4⟩, one_le _⟩

/-- The numbers fit their kinds, the slices read as lists. -/
structure DltG (w : World) (x : Dlt) : Prop where
  h0 : 0 ≤ x.ty ∧ x.ty < 65536
  h1 : -9223372036854775808 ≤ x.d ∧ x.d < 9223372036854775808
set_option maxRecDepth 100000 in
theorem opens_Dlt {H : Type} {enc : TypeId × Value → H} {w : World} {spare : Nat → Bool} {held : Bool} : Opens enc Tryz.prog w spare held 119 Dlt.cells (DltG w) (fun _ => 1) := by
  intro fuel cs x h
  obtain ⟨hl, ys, hxe, hf⟩ := struct_field Tryz.underlying119 h
  have hl2 : cs.length = 2 := hl.trans (by kernel_rfl)
  match cs, hl2 with
  | [c0, c1], _ =>
    have k0 : Tryz.prog.cellsOf 2 = 1 := by kernel_rfl
    have k1 : Tryz.prog.cellsOf 32 = 1 := by kernel_rfl
    obtain ⟨n0, y0, h0, b0⟩ : ∃ n y, DataW.trod enc Tryz.prog w 0 spare held n 32 [c0] = some y ∧ ys[0]? = some y.1 := hf 0 32 0 1 rfl k1
    obtain ⟨a0, e0, g0, m0⟩ := opens_u16 _ _ _ h0
    injection e0 with e0 _; subst e0
    clear h0
    obtain ⟨n1, y1, h1, b1⟩ : ∃ n y, DataW.trod enc Tryz.prog w 0 spare held n 2 [c1] = some y ∧ ys[1]? = some y.1 := hf 1 2 1 1 rfl k0
    obtain ⟨a1, e1, g1, m1⟩ := opens_j64 _ _ _ h1
    injection e1 with e1 _; subst e1
    clear h1
    exact ⟨⟨a0, a1⟩, rfl, ⟨g0, g1⟩, one_le _⟩

/-- A packet in memory: the numbers fit their kinds, the slices read as lists. -/
structure PktG (w : World) (x : Pkt) : Prop where
  kind : -9223372036854775808 ≤ x.kind ∧ x.kind < 9223372036854775808
  sender : 0 ≤ x.sender ∧ x.sender < 4294967296
  media : 0 ≤ x.media ∧ x.media < 4294967296
  ntp : 0 ≤ x.ntp ∧ x.ntp < 18446744073709551616
  rtp : 0 ≤ x.rtp ∧ x.rtp < 4294967296
  packets : 0 ≤ x.packets ∧ x.packets < 4294967296
  octets : 0 ≤ x.octets ∧ x.octets < 4294967296
  reports : SlG w 7 Rep.cells (RepG w) x.reports
  ext : SlG w 1 u8c (fun n => 0 ≤ n ∧ n < 256) x.ext
  chunks : SlG w 2 Chunk.cells (ChunkG w) x.chunks
  sources : SlG w 1 u32c (fun n => 0 ≤ n ∧ n < 4294967296) x.sources
  text : x.text.size ≤ maxLen
  sub : 0 ≤ x.sub ∧ x.sub < 256
  data : SlG w 1 u8c (fun n => 0 ≤ n ∧ n < 256) x.data
  pairs : SlG w 2 Pair.cells (PairG w) x.pairs
  slices : SlG w 3 Slc.cells (SlcG w) x.slices
  entries : SlG w 2 Ent.cells (EntG w) x.entries
  bits : 0 ≤ x.bits ∧ x.bits < 4294967296
  blocks : SlG w 3 Blo.cells (BloG w) x.blocks
  time : 0 ≤ x.time ∧ x.time < 4294967296
  base : 0 ≤ x.base ∧ x.base < 65536
  count : 0 ≤ x.count ∧ x.count < 65536
  ref : 0 ≤ x.ref ∧ x.ref < 4294967296
  fb : 0 ≤ x.fb ∧ x.fb < 256
  stats : SlG w 5 Sta.cells (StaG w) x.stats
  deltas : SlG w 2 Dlt.cells (DltG w) x.deltas
  hcount : 0 ≤ x.hcount ∧ x.hcount < 256
  htype : 0 ≤ x.htype ∧ x.htype < 256
  hlen : 0 ≤ x.hlen ∧ x.hlen < 65536
/-- How much a packet is, at the least. -/
def pktM (p : Pkt) : Nat := (p.reports.l.map fun _ => 1).sum + (p.ext.l.map fun _ => 1).sum + (p.chunks.l.map fun x => 2 + (x.items.l.map fun x : Item => 2 + x.text.size).sum).sum + (p.sources.l.map fun _ => 1).sum + p.text.size + (p.data.l.map fun _ => 1).sum + (p.pairs.l.map fun _ => 1).sum + (p.slices.l.map fun _ => 1).sum + (p.entries.l.map fun _ => 1).sum + (p.blocks.l.map fun x => 3 + (x.mets.l.map fun _ => 1).sum).sum + (p.stats.l.map fun _ => 1).sum + (p.deltas.l.map fun _ => 1).sum
set_option maxHeartbeats 2000000 in
set_option maxRecDepth 100000 in
theorem opens_pkt {H : Type} {enc : TypeId × Value → H} {w : World} {spare : Nat → Bool} {held : Bool} : Opens enc Tryz.prog w spare held 38 (fun p : Pkt => p.cells.toList) (PktG w) pktM := by
  intro fuel cs x h
  obtain ⟨hl, ys, hxe, hf⟩ := struct_field Tryz.underlying38 h
  have hl2 : cs.length = 30 := hl.trans (by kernel_rfl)
  match cs, hl2 with
  | [c0, c1, c2, c3, c4, c5, c6, c7, c8, c9, c10, c11, c12, c13, c14, c15, c16, c17, c18, c19, c20, c21, c22, c23, c24, c25, c26, c27, c28, c29], _ =>
    have k0 : Tryz.prog.cellsOf 31 = 1 := by kernel_rfl
    have k1 : Tryz.prog.cellsOf 26 = 1 := by kernel_rfl
    have k2 : Tryz.prog.cellsOf 34 = 1 := by kernel_rfl
    have k3 : Tryz.prog.cellsOf 30 = 1 := by kernel_rfl
    have k4 : Tryz.prog.cellsOf 28 = 1 := by kernel_rfl
    have k5 : Tryz.prog.cellsOf 24 = 1 := by kernel_rfl
    have k6 : Tryz.prog.cellsOf 29 = 1 := by kernel_rfl
    have k7 : Tryz.prog.cellsOf 33 = 1 := by kernel_rfl
    have k8 : Tryz.prog.cellsOf 27 = 1 := by kernel_rfl
    have k9 : Tryz.prog.cellsOf 25 = 1 := by kernel_rfl
    have k10 : Tryz.prog.cellsOf 4 = 1 := by kernel_rfl
    have k11 : Tryz.prog.cellsOf 3 = 1 := by kernel_rfl
    have k12 : Tryz.prog.cellsOf 9 = 1 := by kernel_rfl
    have k13 : Tryz.prog.cellsOf 32 = 1 := by kernel_rfl
    have k14 : Tryz.prog.cellsOf 22 = 1 := by kernel_rfl
    have k15 : Tryz.prog.cellsOf 23 = 1 := by kernel_rfl
    have k16 : Tryz.prog.cellsOf 5 = 1 := by kernel_rfl
    have kh : Tryz.prog.cellsOf 36 = 4 := by kernel_rfl
    obtain ⟨n0, y0, h0, b0⟩ : ∃ n y, DataW.trod enc Tryz.prog w 0 spare held n 3 [c0] = some y ∧ ys[0]? = some y.1 := hf 0 3 0 1 rfl k11
    obtain ⟨a0, e0, g0, m0⟩ := opens_i64 _ _ _ h0
    injection e0 with e0 _; subst e0
    clear h0
    obtain ⟨n1, y1, h1, b1⟩ : ∃ n y, DataW.trod enc Tryz.prog w 0 spare held n 22 [c1] = some y ∧ ys[1]? = some y.1 := hf 1 22 1 1 rfl k14
    obtain ⟨a1, e1, g1, m1⟩ := opens_u32 _ _ _ h1
    injection e1 with e1 _; subst e1
    clear h1
    obtain ⟨n2, y2, h2, b2⟩ : ∃ n y, DataW.trod enc Tryz.prog w 0 spare held n 22 [c2] = some y ∧ ys[2]? = some y.1 := hf 2 22 2 1 rfl k14
    obtain ⟨a2, e2, g2, m2⟩ := opens_u32 _ _ _ h2
    injection e2 with e2 _; subst e2
    clear h2
    obtain ⟨n3, y3, h3, b3⟩ : ∃ n y, DataW.trod enc Tryz.prog w 0 spare held n 23 [c3] = some y ∧ ys[3]? = some y.1 := hf 3 23 3 1 rfl k15
    obtain ⟨a3, e3, g3, m3⟩ := opens_u64 _ _ _ h3
    injection e3 with e3 _; subst e3
    clear h3
    obtain ⟨n4, y4, h4, b4⟩ : ∃ n y, DataW.trod enc Tryz.prog w 0 spare held n 22 [c4] = some y ∧ ys[4]? = some y.1 := hf 4 22 4 1 rfl k14
    obtain ⟨a4, e4, g4, m4⟩ := opens_u32 _ _ _ h4
    injection e4 with e4 _; subst e4
    clear h4
    obtain ⟨n5, y5, h5, b5⟩ : ∃ n y, DataW.trod enc Tryz.prog w 0 spare held n 22 [c5] = some y ∧ ys[5]? = some y.1 := hf 5 22 5 1 rfl k14
    obtain ⟨a5, e5, g5, m5⟩ := opens_u32 _ _ _ h5
    injection e5 with e5 _; subst e5
    clear h5
    obtain ⟨n6, y6, h6, b6⟩ : ∃ n y, DataW.trod enc Tryz.prog w 0 spare held n 22 [c6] = some y ∧ ys[6]? = some y.1 := hf 6 22 6 1 rfl k14
    obtain ⟨a6, e6, g6, m6⟩ := opens_u32 _ _ _ h6
    injection e6 with e6 _; subst e6
    clear h6
    obtain ⟨n7, y7, h7, b7⟩ : ∃ n y, DataW.trod enc Tryz.prog w 0 spare held n 24 [c7] = some y ∧ ys[7]? = some y.1 := hf 7 24 7 1 rfl k5
    obtain ⟨a7, e7, g7, m7⟩ := (opens_slice (f := Rep.cells) (G := (RepG w)) (size := 7) Tryz.underlying24 (by kernel_rfl) (by decide) (fun _ => rfl) opens_Rep) _ _ _ h7
    injection e7 with e7 _; subst e7
    clear h7
    obtain ⟨n8, y8, h8, b8⟩ : ∃ n y, DataW.trod enc Tryz.prog w 0 spare held n 25 [c8] = some y ∧ ys[8]? = some y.1 := hf 8 25 8 1 rfl k9
    obtain ⟨a8, e8, g8, m8⟩ := (opens_slice (f := u8c) (G := (fun n => 0 ≤ n ∧ n < 256)) (size := 1) Tryz.underlying25 (by kernel_rfl) (by decide) (fun _ => rfl) opens_u8) _ _ _ h8
    injection e8 with e8 _; subst e8
    clear h8
    obtain ⟨n9, y9, h9, b9⟩ : ∃ n y, DataW.trod enc Tryz.prog w 0 spare held n 26 [c9] = some y ∧ ys[9]? = some y.1 := hf 9 26 9 1 rfl k1
    obtain ⟨a9, e9, g9, m9⟩ := (opens_slice (f := Chunk.cells) (G := (ChunkG w)) (size := 2) Tryz.underlying26 (by kernel_rfl) (by decide) (fun _ => rfl) opens_Chunk) _ _ _ h9
    injection e9 with e9 _; subst e9
    clear h9
    obtain ⟨n10, y10, h10, b10⟩ : ∃ n y, DataW.trod enc Tryz.prog w 0 spare held n 27 [c10] = some y ∧ ys[10]? = some y.1 := hf 10 27 10 1 rfl k8
    obtain ⟨a10, e10, g10, m10⟩ := (opens_slice (f := u32c) (G := (fun n => 0 ≤ n ∧ n < 4294967296)) (size := 1) Tryz.underlying27 (by kernel_rfl) (by decide) (fun _ => rfl) opens_u32) _ _ _ h10
    injection e10 with e10 _; subst e10
    clear h10
    obtain ⟨n11, y11, h11, b11⟩ : ∃ n y, DataW.trod enc Tryz.prog w 0 spare held n 9 [c11] = some y ∧ ys[11]? = some y.1 := hf 11 9 11 1 rfl k12
    obtain ⟨a11, e11, g11, m11⟩ := (opens_string Tryz.underlying9) _ _ _ h11
    injection e11 with e11 _; subst e11
    clear h11
    obtain ⟨n12, y12, h12, b12⟩ : ∃ n y, DataW.trod enc Tryz.prog w 0 spare held n 5 [c12] = some y ∧ ys[12]? = some y.1 := hf 12 5 12 1 rfl k16
    obtain ⟨a12, e12, g12, m12⟩ := opens_u8 _ _ _ h12
    injection e12 with e12 _; subst e12
    clear h12
    obtain ⟨n13, y13, h13, b13⟩ : ∃ n y, DataW.trod enc Tryz.prog w 0 spare held n 25 [c13] = some y ∧ ys[13]? = some y.1 := hf 13 25 13 1 rfl k9
    obtain ⟨a13, e13, g13, m13⟩ := (opens_slice (f := u8c) (G := (fun n => 0 ≤ n ∧ n < 256)) (size := 1) Tryz.underlying25 (by kernel_rfl) (by decide) (fun _ => rfl) opens_u8) _ _ _ h13
    injection e13 with e13 _; subst e13
    clear h13
    obtain ⟨n14, y14, h14, b14⟩ : ∃ n y, DataW.trod enc Tryz.prog w 0 spare held n 28 [c14] = some y ∧ ys[14]? = some y.1 := hf 14 28 14 1 rfl k4
    obtain ⟨a14, e14, g14, m14⟩ := (opens_slice (f := Pair.cells) (G := (PairG w)) (size := 2) Tryz.underlying28 (by kernel_rfl) (by decide) (fun _ => rfl) opens_Pair) _ _ _ h14
    injection e14 with e14 _; subst e14
    clear h14
    obtain ⟨n15, y15, h15, b15⟩ : ∃ n y, DataW.trod enc Tryz.prog w 0 spare held n 29 [c15] = some y ∧ ys[15]? = some y.1 := hf 15 29 15 1 rfl k6
    obtain ⟨a15, e15, g15, m15⟩ := (opens_slice (f := Slc.cells) (G := (SlcG w)) (size := 3) Tryz.underlying29 (by kernel_rfl) (by decide) (fun _ => rfl) opens_Slc) _ _ _ h15
    injection e15 with e15 _; subst e15
    clear h15
    obtain ⟨n16, y16, h16, b16⟩ : ∃ n y, DataW.trod enc Tryz.prog w 0 spare held n 30 [c16] = some y ∧ ys[16]? = some y.1 := hf 16 30 16 1 rfl k3
    obtain ⟨a16, e16, g16, m16⟩ := (opens_slice (f := Ent.cells) (G := (EntG w)) (size := 2) Tryz.underlying30 (by kernel_rfl) (by decide) (fun _ => rfl) opens_Ent) _ _ _ h16
    injection e16 with e16 _; subst e16
    clear h16
    obtain ⟨n17, y17, h17, b17⟩ : ∃ n y, DataW.trod enc Tryz.prog w 0 spare held n 22 [c17] = some y ∧ ys[17]? = some y.1 := hf 17 22 17 1 rfl k14
    obtain ⟨a17, e17, g17, m17⟩ := opens_u32 _ _ _ h17
    injection e17 with e17 _; subst e17
    clear h17
    obtain ⟨n18, y18, h18, b18⟩ : ∃ n y, DataW.trod enc Tryz.prog w 0 spare held n 31 [c18] = some y ∧ ys[18]? = some y.1 := hf 18 31 18 1 rfl k0
    obtain ⟨a18, e18, g18, m18⟩ := (opens_slice (f := Blo.cells) (G := (BloG w)) (size := 3) Tryz.underlying31 (by kernel_rfl) (by decide) (fun _ => rfl) opens_Blo) _ _ _ h18
    injection e18 with e18 _; subst e18
    clear h18
    obtain ⟨n19, y19, h19, b19⟩ : ∃ n y, DataW.trod enc Tryz.prog w 0 spare held n 22 [c19] = some y ∧ ys[19]? = some y.1 := hf 19 22 19 1 rfl k14
    obtain ⟨a19, e19, g19, m19⟩ := opens_u32 _ _ _ h19
    injection e19 with e19 _; subst e19
    clear h19
    obtain ⟨n20, y20, h20, b20⟩ : ∃ n y, DataW.trod enc Tryz.prog w 0 spare held n 32 [c20] = some y ∧ ys[20]? = some y.1 := hf 20 32 20 1 rfl k13
    obtain ⟨a20, e20, g20, m20⟩ := opens_u16 _ _ _ h20
    injection e20 with e20 _; subst e20
    clear h20
    obtain ⟨n21, y21, h21, b21⟩ : ∃ n y, DataW.trod enc Tryz.prog w 0 spare held n 32 [c21] = some y ∧ ys[21]? = some y.1 := hf 21 32 21 1 rfl k13
    obtain ⟨a21, e21, g21, m21⟩ := opens_u16 _ _ _ h21
    injection e21 with e21 _; subst e21
    clear h21
    obtain ⟨n22, y22, h22, b22⟩ : ∃ n y, DataW.trod enc Tryz.prog w 0 spare held n 22 [c22] = some y ∧ ys[22]? = some y.1 := hf 22 22 22 1 rfl k14
    obtain ⟨a22, e22, g22, m22⟩ := opens_u32 _ _ _ h22
    injection e22 with e22 _; subst e22
    clear h22
    obtain ⟨n23, y23, h23, b23⟩ : ∃ n y, DataW.trod enc Tryz.prog w 0 spare held n 5 [c23] = some y ∧ ys[23]? = some y.1 := hf 23 5 23 1 rfl k16
    obtain ⟨a23, e23, g23, m23⟩ := opens_u8 _ _ _ h23
    injection e23 with e23 _; subst e23
    clear h23
    obtain ⟨n24, y24, h24, b24⟩ : ∃ n y, DataW.trod enc Tryz.prog w 0 spare held n 33 [c24] = some y ∧ ys[24]? = some y.1 := hf 24 33 24 1 rfl k7
    obtain ⟨a24, e24, g24, m24⟩ := (opens_slice (f := Sta.cells) (G := (StaG w)) (size := 5) Tryz.underlying33 (by kernel_rfl) (by decide) (fun _ => rfl) opens_Sta) _ _ _ h24
    injection e24 with e24 _; subst e24
    clear h24
    obtain ⟨n25, y25, h25, b25⟩ : ∃ n y, DataW.trod enc Tryz.prog w 0 spare held n 34 [c25] = some y ∧ ys[25]? = some y.1 := hf 25 34 25 1 rfl k2
    obtain ⟨a25, e25, g25, m25⟩ := (opens_slice (f := Dlt.cells) (G := (DltG w)) (size := 2) Tryz.underlying34 (by kernel_rfl) (by decide) (fun _ => rfl) opens_Dlt) _ _ _ h25
    injection e25 with e25 _; subst e25
    clear h25
    obtain ⟨n26, y26, h26, _⟩ : ∃ n y, DataW.trod enc Tryz.prog w 0 spare held n 36 [c26, c27, c28, c29] = some y ∧ ys[26]? = some y.1 := hf 26 36 26 4 rfl kh
    obtain ⟨_, zs, _, hq⟩ := struct_field Tryz.underlying36 h26
    obtain ⟨m26, z26, q26, _⟩ : ∃ n y, DataW.trod enc Tryz.prog w 0 spare held n 4 [c26] = some y ∧ zs[0]? = some y.1 := hq 0 4 0 1 rfl k10
    obtain ⟨a26, e26, g26, _⟩ := (opens_bool Tryz.underlying4) _ _ _ q26
    injection e26 with e26 _; subst e26
    clear q26
    obtain ⟨m27, z27, q27, _⟩ : ∃ n y, DataW.trod enc Tryz.prog w 0 spare held n 5 [c27] = some y ∧ zs[1]? = some y.1 := hq 1 5 1 1 rfl k16
    obtain ⟨a27, e27, g27, _⟩ := opens_u8 _ _ _ q27
    injection e27 with e27 _; subst e27
    clear q27
    obtain ⟨m28, z28, q28, _⟩ : ∃ n y, DataW.trod enc Tryz.prog w 0 spare held n 5 [c28] = some y ∧ zs[2]? = some y.1 := hq 2 5 2 1 rfl k16
    obtain ⟨a28, e28, g28, _⟩ := opens_u8 _ _ _ q28
    injection e28 with e28 _; subst e28
    clear q28
    obtain ⟨m29, z29, q29, _⟩ : ∃ n y, DataW.trod enc Tryz.prog w 0 spare held n 32 [c29] = some y ∧ zs[3]? = some y.1 := hq 3 32 3 1 rfl k13
    obtain ⟨a29, e29, g29, _⟩ := opens_u16 _ _ _ q29
    injection e29 with e29 _; subst e29
    clear q29
    refine ⟨⟨a0, a1, a2, a3, a4, a5, a6, a7, a8, a9, a10, a11, a12, a13, a14, a15, a16, a17, a18, a19, a20, a21, a22, a23, a24, a25, a26, a27, a28, a29⟩, rfl, ⟨g0, g1, g2, g3, g4, g5, g6, g7, g8, g9, g10, g11, g12, g13, g14, g15, g16, g17, g18, g19, g20, g21, g22, g23, g24, g25, g27, g28, g29⟩, ?_⟩
    rw [hxe]
    simp only [Rows.uptoBulk, pktM]
    have d0 := bulk_drop 1 b0 rfl
    have d1 := bulk_drop 2 b1 rfl
    have d2 := bulk_drop 3 b2 rfl
    have d3 := bulk_drop 4 b3 rfl
    have d4 := bulk_drop 5 b4 rfl
    have d5 := bulk_drop 6 b5 rfl
    have d6 := bulk_drop 7 b6 rfl
    have d7 := bulk_drop 8 b7 rfl
    have d8 := bulk_drop 9 b8 rfl
    have d9 := bulk_drop 10 b9 rfl
    have d10 := bulk_drop 11 b10 rfl
    have d11 := bulk_drop 12 b11 rfl
    have d12 := bulk_drop 13 b12 rfl
    have d13 := bulk_drop 14 b13 rfl
    have d14 := bulk_drop 15 b14 rfl
    have d15 := bulk_drop 16 b15 rfl
    have d16 := bulk_drop 17 b16 rfl
    have d17 := bulk_drop 18 b17 rfl
    have d18 := bulk_drop 19 b18 rfl
    have d19 := bulk_drop 20 b19 rfl
    have d20 := bulk_drop 21 b20 rfl
    have d21 := bulk_drop 22 b21 rfl
    have d22 := bulk_drop 23 b22 rfl
    have d23 := bulk_drop 24 b23 rfl
    have d24 := bulk_drop 25 b24 rfl
    have d25 := bulk_drop 26 b25 rfl
    rw [List.drop_zero] at d0
    dsimp only at m0 m1 m2 m3 m4 m5 m6 m7 m8 m9 m10 m11 m12 m13 m14 m15 m16 m17 m18 m19 m20 m21 m22 m23 m24 m25
    clear g0 g1 g2 g3 g4 g5 g6 g7 g8 g9 g10 g11 g12 g13 g14 g15 g16 g17 g18 g19 g20 g21 g22 g23 g24 g25 g27 g28 g29
    omega
theorem PktG.lies {w : World} {p : Pkt} (h : PktG w p) : p.Lies w w.heap.size :=
  ⟨h.reports.1, h.ext.1, h.chunks.1, fun x hx => (h.chunks.2.1 x hx).h1.1, h.sources.1, h.data.1, h.pairs.1, h.slices.1, h.entries.1, h.blocks.1, fun x hx => (h.blocks.2.1 x hx).h2.1, h.stats.1, fun x hx => (h.stats.2.1 x hx).h3.1, h.deltas.1⟩
theorem PktG.ok2 {w : World} {p : Pkt} (h : PktG w p) : p.Ok2 :=
  ⟨h.sender.1, h.sender.2, h.media.1, h.media.2, fun x hx => ⟨(h.pairs.2.1 x hx).h0.1, (h.pairs.2.1 x hx).h0.2, (h.pairs.2.1 x hx).h1.1, (h.pairs.2.1 x hx).h1.2⟩, fun x hx => ⟨(h.slices.2.1 x hx).h0.1, (h.slices.2.1 x hx).h0.2, (h.slices.2.1 x hx).h1.1, (h.slices.2.1 x hx).h1.2, (h.slices.2.1 x hx).h2.1, (h.slices.2.1 x hx).h2.2⟩⟩
theorem PktG.ok3 {w : World} {p : Pkt} (h : PktG w p) : p.Ok3 :=
  ⟨h.ok2, h.ntp, h.rtp, h.packets, h.octets, h.time, h.bits, h.sub, fun x hx => by
    have g := h.reports.2.1 x hx
    exact ⟨g.h0.1, g.h0.2, g.h1.1, g.h1.2, g.h2.1, g.h2.2, g.h3.1, g.h3.2, g.h4.1, g.h4.2, g.h5.1, g.h5.2, g.h6.1, g.h6.2⟩, h.sources.2.1, h.ext.2.1, h.data.2.1, h.data.2.2,
    fun x hx => by have g := h.entries.2.1 x hx; exact ⟨g.h0.1, g.h0.2, g.h1.1, g.h1.2⟩,
    fun x hx => by have g := h.chunks.2.1 x hx; exact ⟨g.h0.1, g.h0.2, fun i hi => (g.h1.2.1 i hi).h0⟩,
    fun x hx => by have g := h.blocks.2.1 x hx; exact ⟨g.h0.1, g.h0.2, g.h1.1, g.h1.2, fun i hi => by have m := g.h2.2.1 i hi; exact ⟨m.h0.1, m.h0.2, m.h1.1, m.h1.2⟩⟩⟩
end Go.Proofs.YtmmfpgoodfgkbaaGreat
