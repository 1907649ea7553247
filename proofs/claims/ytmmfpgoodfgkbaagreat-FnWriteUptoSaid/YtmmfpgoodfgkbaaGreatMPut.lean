/-
  THE WALK of the write of a number into bytes. Condition: room.
-/
import Derived.Test.YtmmfpgoodfgkbaaGreatMPkt
import Derived.Test.YtmmfpgoodfgkbaaGreatMStep
import Derived.Test.YtmmfpgoodfgkbaaGreatFormatHeader
namespace Go.Proofs.YtmmfpgoodfgkbaaGreat
open Go Go.RowKit
set_option linter.unusedVariables false
set_option maxHeartbeats 1000000 in
theorem put32_any (g off len cap : Nat) (bs : List Int) (x : Int) (w : World) (hb : Buf w g bs) (hl : 4 ≤ len) (ho : off + 4 ≤ bs.length) (h0 : 0 ≤ x) (h1 : x < 4294967296) :
    Calls Tryz.prog 102 #[.slice (some ⟨g, off, none⟩) len cap, .int .u32 x] w (PutIn w g bs off (be32 x)) := by
  have c0 := hb.cell (i := off) (by omega)
  have c1 := hb.cell (i := off + 1) (by omega)
  have c2 := hb.cell (i := off + 2) (by omega)
  have c3 := hb.cell (i := off + 3) (by omega)
  have f0 := hb.frozen off
  have f1 := hb.frozen (off + 1)
  have f2 := hb.frozen (off + 2)
  have f3 := hb.frozen (off + 3)
  have hl' : (3 : Int) < (len : Int) := by omega
  go_enter Tryz.func102, Tryz.ntmps102
  go_wp2
  go_end0
  refine ⟨rfl, ?_, ?_, by simp only [size_set]⟩
  · rw [be32_eq x h0]
    rw [put_cons _ _ _ _ (by omega), put_cons _ _ _ _ (by simp; omega), put_cons _ _ _ _ (by simp; omega), put_cons _ _ _ _ (by simp; omega), put_nil]
    exact (((hb.set off _).set (off + 1) _).set (off + 2) _).set (off + 3) _
  · exact grownBy_trans (grownBy_trans (grownBy_trans (grownBy_set _ _ _ _) (grownBy_set _ _ _ _) (.inl rfl)) (grownBy_set _ _ _ _) (.inl rfl)) (grownBy_set _ _ _ _) (.inl rfl)

end Go.Proofs.YtmmfpgoodfgkbaaGreat
/-
  THE WALK of the write of a report block. Condition: its numbers in range.
-/
namespace Go.Proofs.YtmmfpgoodfgkbaaGreat
open Go Go.RowKit
set_option linter.unusedVariables false
set_option maxHeartbeats 2000000 in
theorem repMarshal_any (r : Rep) (w : World) (h : r.Ok) (hl : r.lost < 16777216) :
    Calls Tryz.prog 104 #[.agg #[.int .u32 r.ssrc, .int .u8 r.frac, .int .u32 r.lost, .int .u32 r.seq, .int .u32 r.jit, .int .u32 r.last, .int .u32 r.dly]] w fun e w' =>
      ∃ g, e = .returned (.tuple #[.slice (some ⟨g, 0, none⟩) 24 24, .nilIface]) ∧ Buf w' g r.bytes ∧ w.heap.size ≤ g ∧ Below w.heap.size w w' := by
  obtain ⟨x0, x1, x2, x3, x4, x5, x6⟩ := r
  obtain ⟨a0, a1, b0, b1, c0, c1, d0, d1, e0, e1, f0, f1, g0, g1⟩ := h
  simp only at a0 a1 b0 b1 c0 c1 d0 d1 e0 e1 f0 f1 g0 g1 hl
  have hmk : ∀ w : World, (Instr.makeSlice 25 (.int .i64 24) (.int .i64 24)).run Tryz.prog w = .ok (.slice (some ⟨w.heap.size, 0, none⟩) 24 24) (w.alloc (.cells (zeros 24) 5)) := fun _ => by kernel_rfl
  have hsm : ¬ (33554432 : Int) ≤ x2 := by omega
  go_enter Tryz.func104, Tryz.ntmps104
  go_wp2_with fail
  refine (put32_any _ 0 24 24 _ x0 _ (buf_zeros _ 24 (by simp)) (by omega) (by simp) a0 a1).mono ?_
  rintro e w1 ⟨rfl, hb1, hg1, hz1⟩
  have hx1 : Blk w1 w.heap.size 221 #[.int .u32 x0, .int .u8 x1, .int .u32 x2, .int .u32 x3, .int .u32 x4, .int .u32 x5, .int .u32 x6] := ((blk_new w _ _ rfl).alloc _).grown hg1 (by simp)
  have hgr1 : (w.alloc (.cells #[.int .u32 x0, .int .u8 x1, .int .u32 x2, .int .u32 x3, .int .u32 x4, .int .u32 x5, .int .u32 x6] 221)).grownBy w1 none := grownBy_trans (World.grownBy_alloc _ _ none) hg1 (.inr (by intro k hk; simp at hk; subst hk; simp))
  have hbl1 : Below w.heap.size w w1 := (Below.refl _ _).alloc (Nat.le_refl _) _ |>.grown hgr1 (by simp) (by simp)
  obtain ⟨bs1, hbs1⟩ : ∃ bs, bs = put (List.replicate 24 0) 0 (be32 x0) := ⟨_, rfl⟩
  have hln1 : bs1.length = 24 := by rw [hbs1, put_len] <;> simp [be32_len]
  rw [← hbs1] at hb1
  have Hbs1 := Lib.hid hbs1
  have hz1' : w1.heap.size = w.heap.size + 2 := by rw [hz1]; simp
  have Hz1 := Lib.hid hz1'
  have q1 : w1.cell? ⟨w.heap.size, 1, none⟩ = some (.int .u8 x1) := hx1.cell 1
  have q2 : w1.cell? ⟨w.heap.size, 2, none⟩ = some (.int .u32 x2) := hx1.cell 2
  have k4 := hb1.cell (i := 4) (by omega)
  have k5 := hb1.cell (i := 5) (by omega)
  have k6 := hb1.cell (i := 6) (by omega)
  have k7 := hb1.cell (i := 7) (by omega)
  have f4 := hb1.frozen 4
  have f5 := hb1.frozen 5
  have f6 := hb1.frozen 6
  have f7 := hb1.frozen 7
  clear hbs1 hz1 hz1' hg1
  go_wp2_with fail
  clear k4 k5 k6 k7 f4 f5 f6 f7 q1 q2
  have hb2 := (((hb1.set 4 x1).set 5 (x2 / 65536)).set 6 (x2 / 256 % 256)).set 7 (x2 % 256)
  have hx2 := (((hx1.far (p := ⟨w.heap.size + 1, 4, none⟩) (by simp) (.int .u8 x1)).far (p := ⟨w.heap.size + 1, 5, none⟩) (by simp) (.int .u8 (x2 / 65536))).far (p := ⟨w.heap.size + 1, 6, none⟩) (by simp) (.int .u8 (x2 / 256 % 256))).far (p := ⟨w.heap.size + 1, 7, none⟩) (by simp) (.int .u8 (x2 % 256))
  have hbl2 := (((hbl1.setCell (p := ⟨w.heap.size + 1, 4, none⟩) (by simp) (.int .u8 x1)).setCell (p := ⟨w.heap.size + 1, 5, none⟩) (by simp) (.int .u8 (x2 / 65536))).setCell (p := ⟨w.heap.size + 1, 6, none⟩) (by simp) (.int .u8 (x2 / 256 % 256))).setCell (p := ⟨w.heap.size + 1, 7, none⟩) (by simp) (.int .u8 (x2 % 256))
  have hln2 : ((((bs1.set 4 x1).set 5 (x2 / 65536)).set 6 (x2 / 256 % 256)).set 7 (x2 % 256)).length = 24 := by simpa using hln1
  have hgr2 : ∀ u, w1.grownBy ((((w1.setCell ⟨w.heap.size + 1, 4, none⟩ (.int .u8 x1)).setCell ⟨w.heap.size + 1, 5, none⟩ (.int .u8 (x2 / 65536))).setCell ⟨w.heap.size + 1, 6, none⟩ (.int .u8 (x2 / 256 % 256))).setCell ⟨w.heap.size + 1, 7, none⟩ u) (some (w.heap.size + 1)) := fun u =>
    grownBy_trans (grownBy_trans (grownBy_trans (grownBy_set _ _ _ _) (grownBy_set _ _ _ _) (.inl rfl)) (grownBy_set _ _ _ _) (.inl rfl)) (grownBy_set _ _ _ _) (.inl rfl)
  revert hb2 hx2 hbl2
  generalize hbs2 : (((bs1.set 4 x1).set 5 (x2 / 65536)).set 6 (x2 / 256 % 256)).set 7 (x2 % 256) = bs2
  generalize hw2 : (((w1.setCell ⟨w.heap.size + 1, 4, none⟩ (.int .u8 x1)).setCell ⟨w.heap.size + 1, 5, none⟩ (.int .u8 (x2 / 65536))).setCell ⟨w.heap.size + 1, 6, none⟩ (.int .u8 (x2 / 256 % 256))).setCell ⟨w.heap.size + 1, 7, none⟩ (.int .u8 (x2 % 256)) = w2
  intro hb2 hx2 hbl2
  rw [hbs2] at hln2
  have Hbs2 := Lib.hid hbs2
  clear hbs2 hgr2
  have hz2 : Hid (w2.heap.size = w.heap.size + 2) := by show _ = _; rw [← hw2]; simp only [size_set]; exact Hz1.out
  clear hw2
  have q3 : w2.cell? ⟨w.heap.size, 3, none⟩ = some (.int .u32 x3) := hx2.cell 3
  go_region_held3 (fun w' => w'.cell? ⟨w.heap.size, 3, none⟩ = some (.int .u32 x3)) (go_keep)
    (first | (go_at_call 102; refine (put32_any (w.heap.size + 1) 8 16 16 bs2 x3 _ ?_ ?_ ?_ d0 d1).mono ?_; exact hb2; omega; omega; rintro e w3 ⟨rfl, hb3, hg3, hz3⟩; have hx3 := hx2.drew.grown hg3 (by simp); have q3' : w3.cell? ⟨w.heap.size, 3, none⟩ = some (.int .u32 x3) := hx3.cell 3))
  go_wp2_with fail
  have hbl3 : Below w.heap.size w w3 := hbl2.drew.grown hg3 hbl2.size (by intro k hk; simp at hk; omega)
  have hln3 : (put bs2 8 (be32 x3)).length = 24 := by rw [put_len] <;> simp [be32_len, hln2]
  obtain ⟨bs3, hbs3⟩ : ∃ bs, bs = put bs2 8 (be32 x3) := ⟨_, rfl⟩
  rw [← hbs3] at hb3 hln3
  have Hbs3 := Lib.hid hbs3
  have hz3' : Hid (w3.heap.size = w.heap.size + 2) := hz3.trans hz2.out
  clear hbs3 hz3
  have q4 : w3.cell? ⟨w.heap.size, 4, none⟩ = some (.int .u32 x4) := hx3.cell 4
  go_region_held3 (fun w' => w'.cell? ⟨w.heap.size, 4, none⟩ = some (.int .u32 x4)) (go_keep)
    (first | (go_at_call 102; refine (put32_any (w.heap.size + 1) 12 12 12 bs3 x4 _ ?_ ?_ ?_ e0 e1).mono ?_; exact hb3; omega; omega; rintro e w4 ⟨rfl, hb4, hg4, hz4⟩; have hx4 := hx3.drew.grown hg4 (by simp); have q4' : w4.cell? ⟨w.heap.size, 4, none⟩ = some (.int .u32 x4) := hx4.cell 4))
  go_wp2_with fail
  have hbl4 : Below w.heap.size w w4 := hbl3.drew.grown hg4 hbl3.size (by intro k hk; simp at hk; omega)
  have hln4 : (put bs3 12 (be32 x4)).length = 24 := by rw [put_len] <;> simp [be32_len, hln3]
  obtain ⟨bs4, hbs4⟩ : ∃ bs, bs = put bs3 12 (be32 x4) := ⟨_, rfl⟩
  rw [← hbs4] at hb4 hln4
  have Hbs4 := Lib.hid hbs4
  have hz4' : Hid (w4.heap.size = w.heap.size + 2) := hz4.trans hz3'.out
  clear hbs4 hz4
  have q5 : w4.cell? ⟨w.heap.size, 5, none⟩ = some (.int .u32 x5) := hx4.cell 5
  go_region_held3 (fun w' => w'.cell? ⟨w.heap.size, 5, none⟩ = some (.int .u32 x5)) (go_keep)
    (first | (go_at_call 102; refine (put32_any (w.heap.size + 1) 16 8 8 bs4 x5 _ ?_ ?_ ?_ f0 f1).mono ?_; exact hb4; omega; omega; rintro e w5 ⟨rfl, hb5, hg5, hz5⟩; have hx5 := hx4.drew.grown hg5 (by simp); have q5' : w5.cell? ⟨w.heap.size, 5, none⟩ = some (.int .u32 x5) := hx5.cell 5))
  go_wp2_with fail
  have hbl5 : Below w.heap.size w w5 := hbl4.drew.grown hg5 hbl4.size (by intro k hk; simp at hk; omega)
  have hln5 : (put bs4 16 (be32 x5)).length = 24 := by rw [put_len] <;> simp [be32_len, hln4]
  obtain ⟨bs5, hbs5⟩ : ∃ bs, bs = put bs4 16 (be32 x5) := ⟨_, rfl⟩
  rw [← hbs5] at hb5 hln5
  have Hbs5 := Lib.hid hbs5
  have hz5' : Hid (w5.heap.size = w.heap.size + 2) := hz5.trans hz4'.out
  clear hbs5 hz5
  have q6 : w5.cell? ⟨w.heap.size, 6, none⟩ = some (.int .u32 x6) := hx5.cell 6
  go_region_held3 (fun w' => w'.cell? ⟨w.heap.size, 6, none⟩ = some (.int .u32 x6)) (go_keep)
    (first | (go_at_call 102; refine (put32_any (w.heap.size + 1) 20 4 4 bs5 x6 _ ?_ ?_ ?_ g0 g1).mono ?_; exact hb5; omega; omega; rintro e w6 ⟨rfl, hb6, hg6, hz6⟩; have hx6 := hx5.drew.grown hg6 (by simp); have q6' : w6.cell? ⟨w.heap.size, 6, none⟩ = some (.int .u32 x6) := hx6.cell 6))
  go_wp2_with fail
  go_ret2
  refine ⟨_, rfl, ?_, by omega, hbl5.drew.grown hg6 hbl5.size (by intro k hk; simp at hk; omega)⟩
  have e : (⟨x0, x1, x2, x3, x4, x5, x6⟩ : Rep).bytes = put bs5 20 (be32 x6) := by
    rw [Hbs5.out, Hbs4.out, Hbs3.out, ← Hbs2.out, Hbs1.out]
    rfl
  rw [e]
  exact hb6
end Go.Proofs.YtmmfpgoodfgkbaaGreat
/-
  CONTRACTS of the writes of numbers into bytes. Condition: room; the numbers fit.
-/
namespace Go.Proofs.YtmmfpgoodfgkbaaGreat
open Go Go.RowKit
set_option linter.unusedVariables false
set_option maxHeartbeats 1000000 in
theorem put16_any (g off len cap : Nat) (bs : List Int) (x : Int) (w : World) (hb : Buf w g bs) (hl : 2 ≤ len) (ho : off + 2 ≤ bs.length) (h0 : 0 ≤ x) (h1 : x < 65536) :
    Calls Tryz.prog 113 #[.slice (some ⟨g, off, none⟩) len cap, .int .u16 x] w (PutIn w g bs off (be16 x)) := by
  have c0 := hb.cell (i := off) (by omega)
  have c1 := hb.cell (i := off + 1) (by omega)
  have f0 := hb.frozen off
  have f1 := hb.frozen (off + 1)
  have hl' : (1 : Int) < (len : Int) := by omega
  go_enter Tryz.func113, Tryz.ntmps113
  go_wp2
  go_end0
  refine ⟨rfl, ?_, ?_, by simp only [size_set]⟩
  · rw [show be16 x = [x / 256, x % 256] from rfl]
    rw [put_cons _ _ _ _ (by omega), put_cons _ _ _ _ (by simp; omega), put_nil]
    exact ((hb.set off _).set (off + 1) _)
  · exact grownBy_trans (grownBy_set _ _ _ _) (grownBy_set _ _ _ _) (.inl rfl)
/-- A write of bytes as a contract. -/
def ctPut (f : FuncId) (n : Nat) (B : Int → List Int) (kd : IntKind) (lo hi : Int) (hn : ∀ x, (B x).length = n)
    (h : ∀ (g off len cap : Nat) (bs : List Int) (x : Int) (w : World), Buf w g bs → n ≤ len → off + n ≤ bs.length → lo ≤ x → x < hi → Calls Tryz.prog f #[.slice (some ⟨g, off, none⟩) len cap, .int kd x] w (PutIn w g bs off (B x))) : Ct Tryz.prog where
  f := f
  must := true
  nr := 0
  nw := 1
  V _ _ _ := .tuple #[]
  W args ps _ := match args.toList, ps with
    | [s, x], [some (.buf g bs)] => [some (.buf g (put bs (offS s) (B (intOf x))))]
    | _, _ => []
  chk args ps := match args.toList, ps with
    | [s, x], [some (.buf g bs)] => [(.v s, .v (.slice (some ⟨g, offS s, none⟩) (lenOf' s) (capOf s))), (.v x, .v (.int kd (intOf x)))]
    | _, _ => no
  pre _ args ps := match args.toList, ps with
    | [s, x], [some (.buf g bs)] => n ≤ lenOf' s ∧ offS s + n ≤ bs.length ∧ lo ≤ intOf x ∧ intOf x < hi
    | _, _ => True
  ok olds w0 rd wr args ps L w hrd hwr := by
    obtain ⟨k, rfl⟩ := len1 hwr
    have := len0 hrd
    subst this
    split
    · rename_i s x g bs ha
      intro hc hp hL hS
      have h1 := hc _ (List.mem_cons_self ..)
      have h2 := hc _ (List.mem_cons_of_mem _ (List.mem_singleton.2 rfl))
      injection h1 with h1
      injection h2 with h2
      obtain ⟨p1, p2, p3, p4⟩ := hp rfl
      have ha' : args = #[s, x] := by apply Array.ext'; simpa using ha
      subst ha'
      obtain ⟨hl, hr⟩ := one_pc (olds := olds) (w0 := w0) hL
      have hb : Buf w g bs := hS.blk k hr
      rw [h1, h2]
      refine (h g (offS s) (lenOf' s) (capOf s) bs (intOf x) w hb p1 p2 p3 p4).mono fun e w' ⟨he, hb', hg, hz⟩ => ⟨pay0, he, ?_⟩
      exact stp_turn hl hg (fun g' e => by injection e with e; exact e.symm) hb' fun y hy => by
        have : y = g := hy
        subst this
        exact ⟨hb'.lt, .inr rfl⟩
    · intro hc; exact no_false hc
def put16c := ctPut 113 2 be16 .u16 0 65536 (fun _ => rfl) fun g o l c bs x w hb h1 h2 h3 h4 => put16_any g o l c bs x w hb h1 h2 h3 h4
def put32c := ctPut 102 4 be32 .u32 0 4294967296 (fun _ => rfl) fun g o l c bs x w hb h1 h2 h3 h4 => put32_any g o l c bs x w hb h1 h2 h3 h4
end Go.Proofs.YtmmfpgoodfgkbaaGreat
/-
  THE WALK of the writing of a header. Condition: its count has five bits.
-/
namespace Go.Proofs.YtmmfpgoodfgkbaaGreat
open Go Go.RowKit
set_option linter.unusedVariables false

set_option maxRecDepth 100000 in
theorem hdrMar_any (c t l : Int) (w : World) (h0 : 0 ≤ c) (h1 : c ≤ 31) (l0 : 0 ≤ l) (l1 : l < 65536) :
    Calls Tryz.prog 106 #[.agg #[.bool false, .int .u8 c, .int .u8 t, .int .u16 l]] w fun e w' => ∃ g, e = .returned (.tuple #[.slice (some ⟨g, 0, none⟩) 4 4, .nilIface]) ∧ Buf w' g (hdrB c t l) ∧ w.heap.size ≤ g ∧ Below w.heap.size w w' := by
  have ho : bits .or .u8 128 c = 128 + c := u8_or128 c h0 (by omega)
  have hg : decide (c > 31) = false := decide_eq_false (by omega)
  have hs : IntKind.u8.wrap (c * 1) = c := by rw [IntKind.wrap_u8]; omega
  refine go_in Tryz.func106 rfl Tryz.ntmps106 [.agg #[.bool false, .int .u8 c, .int .u8 t, .int .u16 l]] fun a hE => ?_
  have hS := stp_in w
  refine rg hE hS [nw 101, pu, pu] (fun p1 => kp [(1, pt (p1 0).g 0), (2, .slice none 0 0), (3, .nilIface)]) (fun p1 => kP [(101, some (.blk (p1 0).g 239 #[.bool false, .int .u8 c, .int .u8 t, .int .u16 l]))]) fun p1 a u hE hS => ?_
  refine rgp hE hS [mk 1, pu] (fun p2 => kp [(4, sv (p2 0).g 0 4 4)]) (fun p2 => kP [(1, some (.buf (p2 0).g (List.replicate 4 0)))]) (fun _ => ⟨kr (show 4 ≤ 140737488355328 by omega), trivial⟩) fun p2 a u hE hS => ?_
  refine rgp hE hS [pu, ix, lb 1, pu, ix, sbt 1] (fun _ => kp []) (fun _ => kP [(1, some (.buf (p2 0).g ((List.replicate 4 0).set 0 128)))]) (fun _ => ⟨kr (show 0 < 4 by omega), kr (show 0 < 4 by omega), kr (show 0 < 4 by omega), kr (show 0 < 4 by omega), trivial⟩) fun _ a u hE hS => ?_
  refine wp_seq ?_
  refine rg hE hS [pu, ld 101] (fun _ => kp [(12, .bool false)]) (fun _ => kP []) fun _ a u hE hS => ?_
  refine iff hE ?_
  refine wp_skip ?_
  refine wp_seq ?_
  refine rgp hE hS [pu, ld 101, pe (.bool false)] (fun _ => kp [(20, .bool false)]) (fun _ => kP []) (fun _ => ⟨kr (congrArg Value.bool hg), trivial⟩) fun _ a u hE hS => ?_
  refine iff hE ?_
  refine wp_skip ?_
  refine dgp hE hS [pu, ix, lb 1, pu, ld 101, pe (.int .u8 c), pe (.int .u8 (128 + c)), ix, sbt 1] (fun _ => kp []) (fun _ => kP [(1, some (.buf (p2 0).g (((List.replicate 4 0).set 0 128).set 0 (128 + c))))]) (fun _ => ⟨kr (show 0 < 4 by omega), kr (show 0 < 4 by omega), kr (congrArg (Value.int .u8) hs), kr (congrArg (Value.int .u8) ho), kr (show 0 < 4 by omega), kr (show 0 < 4 by omega), trivial⟩) fun _ a u hE hS => ?_
  refine rgp hE hS [pu, pu, ld 101, ix, sbt 1] (fun _ => kp []) (fun _ => kP [(1, some (.buf (p2 0).g ((((List.replicate 4 0).set 0 128).set 0 (128 + c)).set 1 t)))]) (fun _ => ⟨kr (show 1 < 4 by omega), kr (show 1 < 4 by omega), trivial⟩) fun _ a u hE hS => ?_
  refine dgp hE hS [pu, sc, pu, ld 101, cl put16c [] [1]] (fun _ => kp []) (fun _ => kP [(1, some (.buf (p2 0).g (put ((((List.replicate 4 0).set 0 128).set 0 (128 + c)).set 1 t) 2 (be16 l))))]) (fun _ => ⟨kr (show 2 ≤ 4 ∧ 4 ≤ 4 ∧ (2 < 4 ∨ 2 = 0) by omega), kr (show 2 ≤ 4 - 2 ∧ 2 + 2 ≤ 4 ∧ 0 ≤ l ∧ l < 65536 by omega), trivial⟩) fun _ a u hE hS => ?_
  refine rg hE hS [pu, pu, pu] (fun _ => kn [(2, sv (p2 0).g 0 4 4)] [3]) (fun _ => kN [] [1]) fun _ a u hE hS => ?_
  refine wp_ret ?_
  exact ret2 hE Tryz.results106 (sv (p2 0).g 0 4 4) .nilIface ⟨_, rfl, pcF (bs := hdrB c t l) hS 1, pcG (g := (p2 0).g) (bs := hdrB c t l) hS 1, hS.below⟩
end Go.Proofs.YtmmfpgoodfgkbaaGreat
