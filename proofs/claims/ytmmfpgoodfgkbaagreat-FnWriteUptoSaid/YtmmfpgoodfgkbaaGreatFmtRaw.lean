/-
  THE WALKS of the reference's writing of raw packets and of kinds that are none, and of the law's look at what it writes. Condition: what the header is read as.
-/
import Derived.Test.YtmmfpgoodfgkbaaGreatMar
import Derived.Test.YtmmfpgoodfgkbaaGreatLegalAny
import Derived.Test.YtmmfpgoodfgkbaaGreatRdHdr
import Derived.Test.YtmmfpgoodfgkbaaGreatKindOf
namespace Go.Proofs.YtmmfpgoodfgkbaaGreat
open Go Go.RowKit
set_option linter.unusedVariables false
set_option linter.unusedSimpArgs false

theorem cup_below {P : Program} {w0 : World} {ps : List (Option Pc)} (f : FuncId) (args : Array Value) (v : Value)
    (h : ∀ w, Below w0.heap.size w0 w → Calls P f args w fun e w' => e = .returned v ∧ Below w.heap.size w w')
    (L : PL) (w : World) (_ : ps = ([] ++ []).map (lookP L)) (hS : Stp (fun _ => False) w0 w (restr ([] ++ []) (lookM (den (fun _ => False) w0 L)))) :
    Calls P f args w fun e w' => ∃ x : Pay, e = .returned v ∧ Stp (blksOf (lookM (den (fun _ => False) w0 L)) []) w w' (lookM (den (fun _ => False) w0 (zipW [] []))) :=
  (h w hS.below).mono fun e w' ⟨he, hB⟩ => ⟨pay0, he, stp_of_below hB⟩
set_option maxHeartbeats 2000000 in
set_option maxRecDepth 100000 in
theorem formatOne_neg (p : Pkt) (w : World) (hk : p.kind < 0) :
    Calls Tryz.prog 24 #[.agg p.cells] w fun e w' => e = .returned (.tuple #[.slice none 0 0, .bool false]) ∧ Below w.heap.size w w' := by
  have h1 : decide (p.kind < 0) = true := decide_eq_true (by omega)
  have h2 : decide (p.kind > 13) = false := decide_eq_false (by omega)
  refine go_in Tryz.func24 rfl Tryz.ntmps24 [.agg p.cells] fun a hE => ?_
  have hS := stp_in w
  refine rg hE hS [nw 1, pu, pu] (fun p1 => kp [(1, pt (p1 0).g 0), (2, .slice none 0 0), (3, .bool false)]) (fun p1 => kP [(1, some (.blk (p1 0).g 38 p.cells))]) fun p1 a u hE hS => ?_
  refine wp_seq ?_
  refine rgp hE hS [pu, ld 1, pe (.bool true), pu, sk, sk, sk, pu] (fun _ => kp [(18, .bool true)]) (fun _ => kP []) (fun _ => ⟨kr (congrArg Value.bool h1), trivial⟩) fun _ a u hE hS => ?_
  refine ift hE ?_
  refine rg hE hS [pu, pu] (fun _ => kp []) (fun _ => kP []) fun _ a u hE hS => ?_
  refine wp_ret (thR ?_)
  exact ret2 hE Tryz.results24 (.slice none 0 0) (.bool false) ⟨rfl, hS.below⟩
set_option maxHeartbeats 2000000 in
set_option maxRecDepth 100000 in
theorem formatOne_big (p : Pkt) (w : World) (hk : 13 < p.kind) :
    Calls Tryz.prog 24 #[.agg p.cells] w fun e w' => e = .returned (.tuple #[.slice none 0 0, .bool false]) ∧ Below w.heap.size w w' := by
  have h1 : decide (p.kind < 0) = false := decide_eq_false (by omega)
  have h2 : decide (p.kind > 13) = true := decide_eq_true (by omega)
  refine go_in Tryz.func24 rfl Tryz.ntmps24 [.agg p.cells] fun a hE => ?_
  have hS := stp_in w
  refine rg hE hS [nw 1, pu, pu] (fun p1 => kp [(1, pt (p1 0).g 0), (2, .slice none 0 0), (3, .bool false)]) (fun p1 => kP [(1, some (.blk (p1 0).g 38 p.cells))]) fun p1 a u hE hS => ?_
  refine wp_seq ?_
  refine rgp hE hS [pu, ld 1, pe (.bool false), pu, pu, ld 1, pe (.bool true), pu] (fun _ => kp [(18, .bool true)]) (fun _ => kP []) (fun _ => ⟨kr (congrArg Value.bool h1), kr (congrArg Value.bool h2), trivial⟩) fun _ a u hE hS => ?_
  refine ift hE ?_
  refine rg hE hS [pu, pu] (fun _ => kp []) (fun _ => kP []) fun _ a u hE hS => ?_
  refine wp_ret (thR ?_)
  exact ret2 hE Tryz.results24 (.slice none 0 0) (.bool false) ⟨rfl, hS.below⟩
set_option maxHeartbeats 2000000 in
set_option maxRecDepth 100000 in
theorem formatOne_rawD (p : Pkt) (w : World) (b : Bool) (c t l : Int) (ok : Bool) (hk : p.kind = 0) (hrd : ∀ w', Below w.heap.size w w' → Calls Tryz.prog 35 #[.slice p.data.A (p.data.l.length : Nat) p.data.c] w' fun e w'' => e = .returned (.tuple #[.agg #[.bool b, .int .u8 c, .int .u8 t, .int .u16 l], .bool ok]) ∧ Below w'.heap.size w' w'') :
    Calls Tryz.prog 24 #[.agg p.cells] w fun e w' => e = .returned (.tuple #[.slice p.data.A (p.data.l.length : Nat) p.data.c, .bool (ok && (kindOf c t == 0) && (t != 207) && (IntKind.i64.wrap (4 * IntKind.i64.wrap (IntKind.i64.wrap l + 1)) == ((p.data.l.length : Nat) : Int)))]) ∧ Below w.heap.size w w' := by
  generalize hk1 : (kindOf c t == 0) = k1
  generalize hk2 : (t != 207) = k2
  generalize hk3 : (IntKind.i64.wrap (4 * IntKind.i64.wrap (IntKind.i64.wrap l + 1)) == ((p.data.l.length : Nat) : Int)) = k3
  refine go_in Tryz.func24 rfl Tryz.ntmps24 [.agg p.cells] fun a hE => ?_
  have hS := stp_in w
  refine rg hE hS [nw 1, pu, pu] (fun p1 => kp [(1, pt (p1 0).g 0), (2, .slice none 0 0), (3, .bool false)]) (fun p1 => kP [(1, some (.blk (p1 0).g 38 p.cells))]) fun p1 a u hE hS => ?_
  refine wp_seq ?_
  refine rgp hE hS [pu, ov (ld 1) (.int .i64 0), pu, pu, pu, ov (ld 1) (.int .i64 0), pu, pu] (fun _ => kp [(18, .bool false)]) (fun _ => kP []) (fun _ => ⟨fun _ => kr (congrArg (Value.int .i64) hk), fun _ => kr (congrArg (Value.int .i64) hk), trivial⟩) fun _ a u hE hS => ?_
  refine iff hE ?_
  refine wp_skip ?_
  refine wp_seq ?_
  refine rgp hE hS [pu, ov (ld 1) (.int .i64 0), pu] (fun _ => kp [(21, .bool true)]) (fun _ => kP []) (fun _ => ⟨fun _ => kr (congrArg (Value.int .i64) hk), trivial⟩) fun _ a u hE hS => ?_
  refine ift hE ?_
  refine rgp hE hS [pu, ld 1, cu 35 [] [] (fun _ => .tuple #[.agg #[.bool b, .int .u8 c, .int .u8 t, .int .u16 l], .bool ok]) (fun _ => []), pu, pu, pu, nw 2, st 2, pu] (fun p4 => kp [(4, pt (p4 6).g 0), (5, .bool ok)]) (fun p4 => kP [(2, some (.blk (p4 6).g 36 #[.bool b, .int .u8 c, .int .u8 t, .int .u16 l]))]) (fun _ => ⟨kr (cup_below (P := Tryz.prog) (w0 := w) (ps := []) 35 #[.slice p.data.A (p.data.l.length : Nat) p.data.c] (.tuple #[.agg #[.bool b, .int .u8 c, .int .u8 t, .int .u16 l], .bool ok]) (fun w4 hB => hrd w4 hB)), trivial⟩) fun p4 a u hE hS => ?_
  refine dgp (hchk := by intro p; cases ok <;> cases k1 <;> cases k2 <;> kernel_rfl) (hsep := by cases ok <;> cases k1 <;> cases k2 <;> kernel_rfl) hE hS [pu, ld 1, pu, pu, gs (ok) (ld 2), gs (ok) (cu 36 [] [] (fun _ => .int .i64 (kindOf c t)) (fun _ => [])), gs (ok) (pe (.bool k1)), pu, pu, gs (ok && k1) (pu), gs (ok && k1) (ld 2), gs (ok && k1) (pe (.bool k2)), pu, pu, gs (ok && k1 && k2) (pu), gs (ok && k1 && k2) (ld 2), gs (ok && k1 && k2) (pu), gs (ok && k1 && k2) (pu), gs (ok && k1 && k2) (pu), gs (ok && k1 && k2) (pu), gs (ok && k1 && k2) (ld 1), gs (ok && k1 && k2) (pu), gs (ok && k1 && k2) (pe (.bool k3)), pu, pu, pu] (fun _ => kp [(2, .slice p.data.A (p.data.l.length : Nat) p.data.c), (3, .bool (ok && k1 && k2 && k3))]) (fun _ => kP []) (fun _ => ⟨fun hb => by cases hb; exact kr (cup_below (P := Tryz.prog) (w0 := w) (ps := []) 36 #[.agg #[.bool b, .int .u8 c, .int .u8 t, .int .u16 l]] (.int .i64 (kindOf c t)) (fun w4 hB => kindOf_any b c t l w4)), fun hb => by cases hb; exact kr (congrArg Value.bool hk1), fun hb => by simp only [Bool.and_eq_true] at hb; obtain ⟨rfl, rfl⟩ := hb; exact kr (congrArg Value.bool hk2), fun hb => by simp only [Bool.and_eq_true] at hb; obtain ⟨⟨rfl, rfl⟩, rfl⟩ := hb; exact kr (congrArg Value.bool hk3), trivial⟩) fun _ a u hE hS => ?_
  refine wp_ret (thR ?_)
  subst hk1 hk2 hk3
  exact ret2 hE Tryz.results24 (.slice p.data.A (p.data.l.length : Nat) p.data.c) (.bool (ok && (kindOf c t == 0) && (t != 207) && (IntKind.i64.wrap (4 * IntKind.i64.wrap (IntKind.i64.wrap l + 1)) == ((p.data.l.length : Nat) : Int)))) ⟨rfl, hS.below⟩
set_option maxHeartbeats 2000000 in
set_option maxRecDepth 100000 in
theorem legal_y (p c : Pkt) (w : World) (A : Option Addr) (n cap : Nat) (hn : n ≤ 131072) (hfmt : ∀ w', Below w.heap.size w w' → Calls Tryz.prog 24 #[.agg p.cells] w' fun e w'' => e = .returned (.tuple #[.slice A (n : Nat) cap, .bool true]) ∧ Below w'.heap.size w' w'') (hcom : ∀ w', Below w.heap.size w w' → Calls Tryz.prog 25 #[.agg p.cells] w' fun e w'' => e = .returned (.agg c.cells) ∧ Below w'.heap.size w' w'') :
    Calls Tryz.prog 8 #[.agg p.cells] w fun e w' => e = .returned (.tuple #[.agg c.cells, .slice A (n : Nat) cap, .bool true]) ∧ Below w.heap.size w w' := by
  refine go_in Tryz.func8 rfl Tryz.ntmps8 [.agg p.cells] fun a hE => ?_
  have hS := stp_in w
  refine rg hE hS [nw 101, nw 102, pu, pu] (fun p1 => kp [(1, pt (p1 0).g 0), (2, pt (p1 1).g 0), (3, .slice none 0 0), (4, .bool false)]) (fun p1 => kP [(101, some (.blk (p1 0).g 38 p.cells)), (102, some (.blk (p1 1).g 38 #[.int .i64 0, .int .u32 0, .int .u32 0, .int .u64 0, .int .u32 0, .int .u32 0, .int .u32 0, .slice none 0 0, .slice none 0 0, .slice none 0 0, .slice none 0 0, .string ByteArray.empty, .int .u8 0, .slice none 0 0, .slice none 0 0, .slice none 0 0, .slice none 0 0, .int .u32 0, .slice none 0 0, .int .u32 0, .int .u16 0, .int .u16 0, .int .u32 0, .int .u8 0, .slice none 0 0, .slice none 0 0, .bool false, .int .u8 0, .int .u8 0, .int .u16 0]))]) fun p1 a u hE hS => ?_
  refine rgp hE hS [ld 101, cu 24 [] [] (fun _ => .tuple #[.slice A (n : Nat) cap, .bool true]) (fun _ => []), pu, pu, pu, pu, pu] (fun _ => kp [(5, .slice A (n : Nat) cap), (6, .bool true)]) (fun _ => kP []) (fun _ => ⟨kr (cup_below (P := Tryz.prog) (w0 := w) (ps := []) 24 #[.agg p.cells] (.tuple #[.slice A (n : Nat) cap, .bool true]) (fun w4 hB => hfmt w4 hB)), trivial⟩) fun _ a u hE hS => ?_
  refine wp_seq ?_
  refine rgp hE hS [pu, pu, pu, pu, pu, pe (.bool false), pu] (fun _ => kp [(18, .bool false)]) (fun _ => kP []) (fun _ => ⟨kr (congrArg Value.bool (decide_eq_false (show ¬ (((n : Nat) : Int) > 131072) by omega))), trivial⟩) fun _ a u hE hS => ?_
  refine iff hE ?_
  refine wp_skip ?_
  refine rgp hE hS [ld 101, cu 25 [] [] (fun _ => .agg c.cells) (fun _ => []), pu, st 102, pu, pu] (fun _ => kp [(3, .slice A (n : Nat) cap), (4, .bool true)]) (fun _ => kP [(102, some (.blk (p1 1).g 38 c.cells))]) (fun _ => ⟨kr (cup_below (P := Tryz.prog) (w0 := w) (ps := []) 25 #[.agg p.cells] (.agg c.cells) (fun w4 hB => hcom w4 hB)), trivial⟩) fun _ a u hE hS => ?_
  refine wp_ret ?_
  exact retctt hE hS Tryz.results8 102 (p1 1).g 38 c.cells (.agg c.cells) (.slice A (n : Nat) cap) (.bool true) ⟨rfl, hS.below⟩
set_option maxHeartbeats 2000000 in
set_option maxRecDepth 100000 in
theorem legal_n (p : Pkt) (w : World) (A : Option Addr) (n cap : Nat) (r : Bool) (hno : r = false ∨ 131072 < n) (hfmt : ∀ w', Below w.heap.size w w' → Calls Tryz.prog 24 #[.agg p.cells] w' fun e w'' => e = .returned (.tuple #[.slice A (n : Nat) cap, .bool r]) ∧ Below w'.heap.size w' w'') :
    Calls Tryz.prog 8 #[.agg p.cells] w fun e w' => e = .returned (.tuple #[.agg p.cells, .slice none 0 0, .bool false]) ∧ Below w.heap.size w w' := by
  generalize hg : decide (((n : Nat) : Int) > 131072) = g at *
  refine go_in Tryz.func8 rfl Tryz.ntmps8 [.agg p.cells] fun a hE => ?_
  have hS := stp_in w
  refine rg hE hS [nw 101, nw 102, pu, pu] (fun p1 => kp [(1, pt (p1 0).g 0), (2, pt (p1 1).g 0), (3, .slice none 0 0), (4, .bool false)]) (fun p1 => kP [(101, some (.blk (p1 0).g 38 p.cells)), (102, some (.blk (p1 1).g 38 #[.int .i64 0, .int .u32 0, .int .u32 0, .int .u64 0, .int .u32 0, .int .u32 0, .int .u32 0, .slice none 0 0, .slice none 0 0, .slice none 0 0, .slice none 0 0, .string ByteArray.empty, .int .u8 0, .slice none 0 0, .slice none 0 0, .slice none 0 0, .slice none 0 0, .int .u32 0, .slice none 0 0, .int .u32 0, .int .u16 0, .int .u16 0, .int .u32 0, .int .u8 0, .slice none 0 0, .slice none 0 0, .bool false, .int .u8 0, .int .u8 0, .int .u16 0]))]) fun p1 a u hE hS => ?_
  refine rgp hE hS [ld 101, cu 24 [] [] (fun _ => .tuple #[.slice A (n : Nat) cap, .bool r]) (fun _ => []), pu, pu, pu, pu, pu] (fun _ => kp [(5, .slice A (n : Nat) cap), (6, .bool r)]) (fun _ => kP []) (fun _ => ⟨kr (cup_below (P := Tryz.prog) (w0 := w) (ps := []) 24 #[.agg p.cells] (.tuple #[.slice A (n : Nat) cap, .bool r]) (fun w4 hB => hfmt w4 hB)), trivial⟩) fun _ a u hE hS => ?_
  refine wp_seq ?_
  refine rgp (hchk := by intro p; cases r <;> kernel_rfl) hE hS [pu, pu, pu, gs (r) (pu), gs (r) (pu), gs (r) (pe (.bool g)), pu] (fun _ => kn [(18, .bool (!r || g))] [1, 2, 3, 4, 5]) (fun _ => kN [] [101, 102]) (fun _ => ⟨fun hb => by cases hb; exact kr (congrArg Value.bool hg), trivial⟩) fun _ a u hE hS => ?_
  have hx : (!r || g) = true := by
    rcases hno with h | h
    · rw [h]; rfl
    · rw [← hg, decide_eq_true (by omega)]; simp
  rw [hx] at hE
  refine ift hE ?_
  refine rg hE hS [ld 101, st 102, pu, pu] (fun _ => kp []) (fun _ => kP [(102, some (.blk (p1 1).g 38 p.cells))]) fun _ a u hE hS => ?_
  refine wp_ret (thR ?_)
  exact retctt hE hS Tryz.results8 102 (p1 1).g 38 p.cells (.agg p.cells) (.slice none 0 0) (.bool false) ⟨rfl, hS.below⟩
theorem readHeader_det (s : Sl Int) (hz : ∀ x ∈ s.l, 0 ≤ x ∧ x < 256) (hc : s.l.length ≤ s.c) : ∃ b c t l ok, ∀ w, s.Lies w w.heap.size 1 u8c → Calls Tryz.prog 35 #[.slice s.A (s.l.length : Nat) s.c] w fun e w' => e = .returned (.tuple #[.agg #[.bool b, .int .u8 c, .int .u8 t, .int .u16 l], .bool ok]) ∧ Below w.heap.size w w' := by
  by_cases hn : s.l.length < 4
  · exact ⟨false, 0, 0, 0, false, fun w h => (readHeader_short _ _ _ w hn).mono fun e w' ⟨h1, h2⟩ => ⟨h1, h2⟩⟩
  · have key : ∀ w, s.Lies w w.heap.size 1 u8c → ∃ ad, s.A = some ad ∧ Reads w w.heap.size 1 (some ad) s.l.length (u8s s.l) := fun w h => by
      have h' : Reads w w.heap.size 1 s.A s.l.length (u8s s.l) := by have := h; unfold Sl.Lies at this; rwa [u8c_flat] at this
      obtain ⟨ad, hA, _⟩ := h'.2 (by omega)
      rw [hA] at h'
      exact ⟨ad, hA, h'⟩
    by_cases hb : gi s.l 0 / 64 = 2
    · refine ⟨bits .and .u8 (gi s.l 0) 32 != 0, bits .and .u8 (gi s.l 0) 31, gi s.l 1, rd16 s.l 2, true, fun w h => ?_⟩
      obtain ⟨ad, hA, h'⟩ := key w h
      rw [hA]
      exact (readHeader_ok h' (Nat.le_refl _) (Byts.gi hz 0) (Byts.gi hz 1) (Byts.gi hz 2) (Byts.gi hz 3) (by omega) hc hb).mono fun e w' ⟨h1, h2⟩ => ⟨h1, h2⟩
    · refine ⟨false, 0, 0, 0, false, fun w h => ?_⟩
      obtain ⟨ad, hA, h'⟩ := key w h
      rw [hA]
      exact (readHeader_bad h' (Nat.le_refl _) (Byts.gi hz 0) (Byts.gi hz 1) (Byts.gi hz 2) (Byts.gi hz 3) (by omega) hc hb).mono fun e w' ⟨h1, h2⟩ => ⟨h1, h2⟩
/-- A raw packet: the reference's answer hangs on its bytes alone. -/
theorem formatOne_raw (p : Pkt) (hk : p.kind = 0) (hz : ∀ x ∈ p.data.l, 0 ≤ x ∧ x < 256) (hc : p.data.l.length ≤ p.data.c) : ∃ r, ∀ w, p.data.Lies w w.heap.size 1 u8c → Calls Tryz.prog 24 #[.agg p.cells] w fun e w' => e = .returned (.tuple #[.slice p.data.A (p.data.l.length : Nat) p.data.c, .bool r]) ∧ Below w.heap.size w w' := by
  obtain ⟨b, c, t, l, ok, h⟩ := readHeader_det p.data hz hc
  exact ⟨_, fun w hd => formatOne_rawD p w b c t l ok hk fun w' hw => h w' (Reads.more (hd.below hw) hw.size)⟩
end Go.Proofs.YtmmfpgoodfgkbaaGreat
