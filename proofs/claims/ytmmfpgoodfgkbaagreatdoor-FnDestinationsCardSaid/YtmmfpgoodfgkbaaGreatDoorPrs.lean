/-
  THE WALK of the package's parsing of the sources that a raw packet refers to, every kind in one tree. Condition: the bytes lie in memory; the reference reads them.
-/
import Derived.Test.YtmmfpgoodfgkbaaGreatDoorPar
import Derived.Test.YtmmfpgoodfgkbaaGreatDoorDst
namespace Go.Proofs.YtmmfpgoodfgkbaaGreatDoor
open Go Go.RowKit
set_option maxHeartbeats 4000000
set_option maxRecDepth 100000
set_option linter.unusedVariables false
set_option linter.unusedSimpArgs false

def ck32 (A : Option Addr) (n : Nat) (xs : List Value) : Ck :=
 ⟨fun g => 0 < n ∧ ∃ ad, A = some ad ∧ ad.block = g, fun w => R32 w (fun _ => True) A n xs, fun w w' hk h => ⟨h.1, fun hn => by
  obtain ⟨ad, e, h1, h2, h3⟩ := h.2 hn
  have hb := hk ad.block ⟨hn, ad, e, rfl⟩
  refine ⟨ad, e, h1, ?_, fun j u hu => (World.cell?_of_block (by rw [block_of_add]; exact hb)).trans (h3 j u hu)⟩
  rw [Array.getElem?_eq_getElem h2] at hb
  exact (Array.getElem?_eq_some_iff.1 hb).1⟩⟩
theorem in_of32 {w0 w : World} {L : PL} {A : Option Addr} {n : Nat} {xs : List Value} (hS : Stp (fun _ => False) w0 w (lookM (den (fun _ => False) w0 L))) (k : Nat) (h : lookP L k = some (.ck (ck32 A n xs)) := by kernel_rfl) : InRows w w0.heap.size w.heap.size 1 A n xs := by
 have hM : lookM (den (fun _ => False) w0 L) k = some (ck32 A n xs) := by rw [lookM_den, h]; rfl
 have hk := hS.ok k _ hM
 refine ⟨by have := hk.1; omega, fun hn => ?_⟩
 obtain ⟨ad, e, _, h2, h3⟩ := hk.2 hn
 exact ⟨ad, e, (hS.lt k _ hM ad.block ⟨hn, ad, e, rfl⟩).2.resolve_right id, h2, h3⟩
theorem stp_32 {olds : Nat → Prop} {w0 : World} {L : PL} {k : Nat} {A : Option Addr} {n : Nat} {xs : List Value} {w w' : World} (hb : Below w.heap.size w w') (h : InRows w' w.heap.size w'.heap.size 1 A n xs) : Stp (blksOf (lookM (den olds w0 L)) [k]) w w' (lookM (den olds w0 (zipW [k] [some (.ck (ck32 A n xs))]))) :=
 stp_make (c' := .ck (ck32 A n xs)) hb ⟨by have := h.1; omega, fun hn => by obtain ⟨ad, e, _, h2, h3⟩ := h.2 hn; exact ⟨ad, e, trivial, h2, h3⟩⟩ fun g hg => by
  obtain ⟨hn, ad, e, rfl⟩ := hg
  obtain ⟨ad2, e2, h1, h2, _⟩ := h.2 hn
  rw [e] at e2
  injection e2 with e2
  subst e2
  exact ⟨h2, h1⟩
theorem cu_par {w0 : World} {f : FuncId} {args : Array Value} {D : Nat → Prop} {A : Option Addr} {z : List Int} {ds : List Int} {u : Option Pc} {n : Nat} (j k : Nat) (hn : ds.length = n)
  (h : ∀ w, RowD w D A z → (∀ x, D x → x < w.heap.size) → Calls Tryz.prog f args w (DstP w ds))
  (L' : PL) (w : World) (hps : [some (.ry D A z), u] = ([j] ++ [k]).map (lookP L')) (hS : Stp (fun _ => False) w0 w (restr ([j] ++ [k]) (lookM (den (fun _ => False) w0 L')))) :
  Calls Tryz.prog f args w fun e w' => ∃ x : Pay, e = .returned (.tuple #[.slice x.a n x.c, .nilIface]) ∧ Stp (blksOf (lookM (den (fun _ => False) w0 L')) [k]) w w' (lookM (den (fun _ => False) w0 (zipW [k] [some (.ck (ck32 x.a n (ds.flatMap u32c)))]))) := by
 simp only [List.cons_append, List.nil_append, List.map_cons, List.map_nil, List.cons.injEq] at hps
 have rj : restr ([j] ++ [k]) (lookM (den (fun _ => False) w0 L')) j = some (ckP (RdB (fun _ => False) w0 D A z ∧ Byts z)) := by simp [restr, hasN, lookM_den, ← hps.1, Pc.den]
 have hpc := hS.pure_ j rj
 have hr : RowD w D A z := fun hn => by
  obtain ⟨ad, e, h1, h2⟩ := hpc.1.1 hn
  have h3 := hpc.1.2 _ h1
  exact ⟨ad, e, h1, fun i u hu => (World.cell?_of_block (by rw [block_of_add]; exact hS.kept _ h3.1 h3.2)).trans (h2 i u hu)⟩
 refine (h w hr fun x hx => Nat.lt_of_lt_of_le (hpc.1.2 _ hx).1 hS.size).mono ?_
 rintro e w' ⟨A2, m, c, rfl, hrow, hB⟩
 have hm : m = n := by have h1 := hrow.1; rw [u32c_len] at h1; omega
 subst hm
 exact ⟨⟨0, c, undef, A2⟩, rfl, stp_32 hB hrow⟩
structure ParOk (z : List Int) (n : Nat) (t : Int) (L : Nat) (ds : List Int) : Prop where
 known : kindOf (n : Int) t ≠ 0
 k1 : t = 200 → 28 + 24 * n ≤ z.length ∧ ds = (parts4 repB 24 n ((z.drop 4).drop 24)).map Rep.ssrc ++ [rd32 (z.drop 4) 0] := by intro h; exact absurd h (by decide)
 k2 : t = 201 → 8 + 24 * n ≤ z.length ∧ ds = (parts4 repB 24 n (z.drop 8)).map Rep.ssrc := by intro h; exact absurd h (by decide)
 k3 : t = 202 → SdOk (z.drop 4) n ∧ ds = (chsN (z.drop 4) n).map Chunk.src := by intro h; exact absurd h (by decide)
 k4 : t = 203 → 4 + n * 4 ≤ z.length ∧ ds = parts4 srcB 4 n (z.drop 4) := by intro h; exact absurd h (by decide)
 k5 : t = 204 → 12 ≤ z.length ∧ ds = [rd32 ((z.take 8).drop 4) 0] := by intro h; exact absurd h (by decide)
 kM : t = 205 ∧ (n = 1 ∨ n = 15 ∨ n = 5) ∨ t = 206 ∧ (n = 1 ∨ n = 2) → 12 ≤ z.length ∧ ds = [rd32 (z.drop 8) 0] := by intro h; exact absurd h (by decide)
 k8 : t = 205 → n = 11 → ∃ m, CgOk (z.drop 8) m ∧ ds = (bksN (z.drop 8) m).map Blo.media := by intro h h2; first | exact absurd h (by decide) | exact absurd h2 (by decide)
 k11 : t = 206 → n = 4 → ∃ m, 4 * L = 8 + 8 * m ∧ 0 < m ∧ ds = (parts4 entB 8 m ((z.drop 4).drop 8)).map Ent.ssrc := by intro h h2; first | exact absurd h (by decide) | exact absurd h2 (by decide)
 k12 : t = 206 → n = 15 → ∃ m, (strB (((z.drop 4).drop 8).take 4)).toList = (⟨#[82, 69, 77, 66]⟩ : ByteArray).toList ∧ ((z.drop 4).drop 8).length = 8 + 4 * m ∧ gi ((z.drop 4).drop 8) 4 = (m : Int) ∧ ds = parts4 srcB 4 m (((z.drop 4).drop 8).drop 8) := by intro h h2; first | exact absurd h (by decide) | exact absurd h2 (by decide)
theorem prs_any (b o c : Nat) (z : List Int) (D : Nat → Prop) (w : World) {n L : Nat} {t : Int} (hd : Hd z false n t L) (hr : RowD w D (some ⟨b, o, none⟩) z) (hD : ∀ x, D x → x < w.heap.size) (hc : z.length ≤ c) (hzl : z.length = 4 * (L + 1)) (hl : z.length ≤ 1048576) (ds : List Int) (hk : ParOk z n t L ds) :
  Calls Tryz.prog 48 #[.slice (some ⟨b, o, none⟩) z.length c, .slice none 0 0] w (DstP w ds) := by
 have C1 : t = 200 → ∀ w, RowD w D (some ⟨b, o, none⟩) z → (∀ x, D x → x < w.heap.size) → Calls Tryz.prog 79 #[.slice none 0 0, .agg #[.bool false, .int .u8 (n : Nat), .int .u8 t, .int .u16 (L : Nat)], .slice (some ⟨b, o, none⟩) z.length c] w (DstP w ds) := fun h w4 hr4 hD4 => by subst h; obtain ⟨h1, rfl⟩ := hk.k1 rfl; exact par_1 b o c z D w4 hd hr4 hD4 hc h1 hl
 have C2 : t = 201 → ∀ w, RowD w D (some ⟨b, o, none⟩) z → (∀ x, D x → x < w.heap.size) → Calls Tryz.prog 80 #[.slice none 0 0, .agg #[.bool false, .int .u8 (n : Nat), .int .u8 t, .int .u16 (L : Nat)], .slice (some ⟨b, o, none⟩) z.length c] w (DstP w ds) := fun h w4 hr4 hD4 => by subst h; obtain ⟨h1, rfl⟩ := hk.k2 rfl; exact par_2 b o c z D w4 hd hr4 hD4 hc h1 hl
 have C3 : t = 202 → ∀ w, RowD w D (some ⟨b, o, none⟩) z → (∀ x, D x → x < w.heap.size) → Calls Tryz.prog 81 #[.slice none 0 0, .agg #[.bool false, .int .u8 (n : Nat), .int .u8 t, .int .u16 (L : Nat)], .slice (some ⟨b, o, none⟩) z.length c] w (DstP w ds) := fun h w4 hr4 hD4 => by subst h; obtain ⟨h1, rfl⟩ := hk.k3 rfl; exact par_3 b o c z D w4 hd hr4 hD4 hc hl h1
 have C4 : t = 203 → ∀ w, RowD w D (some ⟨b, o, none⟩) z → (∀ x, D x → x < w.heap.size) → Calls Tryz.prog 82 #[.slice none 0 0, .agg #[.bool false, .int .u8 (n : Nat), .int .u8 t, .int .u16 (L : Nat)], .slice (some ⟨b, o, none⟩) z.length c] w (DstP w ds) := fun h w4 hr4 hD4 => by subst h; obtain ⟨h1, rfl⟩ := hk.k4 rfl; exact par_4 b o c z D w4 hd hr4 hD4 hc h1 hl
 have C5 : t = 204 → ∀ w, RowD w D (some ⟨b, o, none⟩) z → (∀ x, D x → x < w.heap.size) → Calls Tryz.prog 83 #[.slice none 0 0, .agg #[.bool false, .int .u8 (n : Nat), .int .u8 t, .int .u16 (L : Nat)], .slice (some ⟨b, o, none⟩) z.length c] w (DstP w ds) := fun h w4 hr4 hD4 => by subst h; obtain ⟨h1, rfl⟩ := hk.k5 rfl; exact par_5 b o c z D w4 hd hr4 hD4 hc h1
 have CM : t = 205 ∧ (n = 1 ∨ n = 15 ∨ n = 5) ∨ t = 206 ∧ (n = 1 ∨ n = 2) → ∀ w, RowD w D (some ⟨b, o, none⟩) z → (∀ x, D x → x < w.heap.size) → Calls Tryz.prog 85 #[.slice none 0 0, .agg #[.bool false, .int .u8 (n : Nat), .int .u8 t, .int .u16 (L : Nat)], .slice (some ⟨b, o, none⟩) z.length c] w (DstP w ds) := fun h w4 hr4 hD4 => by obtain ⟨h1, rfl⟩ := hk.kM h; exact par_med b o c z D w4 hd hr4 hD4 hc h1
 have C8 : t = 205 → n = 11 → ∀ w, RowD w D (some ⟨b, o, none⟩) z → (∀ x, D x → x < w.heap.size) → Calls Tryz.prog 86 #[.slice none 0 0, .agg #[.bool false, .int .u8 (n : Nat), .int .u8 t, .int .u16 (L : Nat)], .slice (some ⟨b, o, none⟩) z.length c] w (DstP w ds) := fun h h2 w4 hr4 hD4 => by subst h h2; obtain ⟨m, h1, rfl⟩ := hk.k8 rfl rfl; exact par_8 b o c z D w4 hd hr4 hD4 hc hl m h1
 have C11 : t = 206 → n = 4 → ∀ w, RowD w D (some ⟨b, o, none⟩) z → (∀ x, D x → x < w.heap.size) → Calls Tryz.prog 88 #[.slice none 0 0, .agg #[.bool false, .int .u8 (n : Nat), .int .u8 t, .int .u16 (L : Nat)], .slice (some ⟨b, o, none⟩) z.length c] w (DstP w ds) := fun h h2 w4 hr4 hD4 => by subst h h2; obtain ⟨m, h1, h3, rfl⟩ := hk.k11 rfl rfl; exact par_11 b o c z D w4 hd hr4 hD4 hc hzl m h1 h3
 have C12 : t = 206 → n = 15 → ∀ w, RowD w D (some ⟨b, o, none⟩) z → (∀ x, D x → x < w.heap.size) → Calls Tryz.prog 89 #[.slice none 0 0, .agg #[.bool false, .int .u8 (n : Nat), .int .u8 t, .int .u16 (L : Nat)], .slice (some ⟨b, o, none⟩) z.length c] w (DstP w ds) := fun h h2 w4 hr4 hD4 => by subst h h2; obtain ⟨m, h1, h3, h5, rfl⟩ := hk.k12 rfl rfl; exact par_12 b o c z D w4 hd hr4 hD4 hc hl m h1 h3 h5
 have U7 : t = 205 → n = 5 → ∀ g w, Blk w g 178 #[.int .u32 0, .int .u32 0] → RowD w D (some ⟨b, o, none⟩) z → (∀ x, D x → x < w.heap.size ∧ x ≠ g) → Byts z → Calls Tryz.prog 84 #[.pointer (some ⟨g, 0, none⟩), .slice (some ⟨b, o, none⟩) z.length c] w fun e w' => e = .returned .nilIface ∧ w.grownBy w' (some g) ∧ Blk w' g 178 #[.int .u32 (rd32 (z.drop 4) 0), .int .u32 (rd32 (z.drop 8) 0)] := fun h h2 g w4 hb4 hr4 hD4 hz4 => by subst h h2; exact um_7 g b o c z D w4 hd hb4 hr4 hD4 hc (hk.kM (.inl ⟨rfl, .inr (.inr rfl)⟩)).1
 have U9 : t = 206 → n = 1 → ∀ g w, Blk w g 183 #[.int .u32 0, .int .u32 0] → RowD w D (some ⟨b, o, none⟩) z → (∀ x, D x → x < w.heap.size ∧ x ≠ g) → Byts z → Calls Tryz.prog 87 #[.pointer (some ⟨g, 0, none⟩), .slice (some ⟨b, o, none⟩) z.length c] w fun e w' => e = .returned .nilIface ∧ w.grownBy w' (some g) ∧ Blk w' g 183 #[.int .u32 (rd32 (z.drop 4) 0), .int .u32 (rd32 (z.drop 8) 0)] := fun h h2 g w4 hb4 hr4 hD4 hz4 => by subst h h2; exact um_9 g b o c z D w4 hd hb4 hr4 hD4 hc (hk.kM (.inr ⟨rfl, .inl rfl⟩)).1
 refine go_in Tryz.func48 rfl Tryz.ntmps48 [sv b o z.length c, .slice none 0 0] fun a hE => ?_
 have hS := stp_in w
 have hS := stp_ry1 hS 110 hr (fun x hx => ⟨hD x hx, id⟩) hd.byts
 have h4 := hd.len
 have hL : L ≤ 65535 := by have h1 := hd.ln; have h2 := rd16_lt hd.byts 2; omega
 refine rg hE hS [pu, pu] (fun _ => kp [(4, .slice none 0 0), (5, .nilIface)]) kP0 fun _ a u hE hS => ?_
 refine rg hE hS [pu, pu] (fun _ => kp [(6, sv b o z.length c)]) kP0 fun _ a u hE hS => ?_
 refine rg hE hS [nw 103] (fun p3 => kp [(7, pt (p3 0).g 0)]) (fun p3 => kP [(103, some (.blk (p3 0).g 83 #[.bool false, .int .u8 0, .int .u8 0, .int .u16 0]))]) fun p3 a u hE hS => ?_
 refine wp_seq ?_
 refine rgp hE hS [pu, cu 71 [110] [103] (fun _ => .nilIface) (fun _ => [some (.blk (p3 0).g 83 #[.bool false, .int .u8 (n : Nat), .int .u8 t, .int .u16 (L : Nat)])]), pu] (fun _ => kp [(8, .nilIface)]) (fun _ => kP [(103, some (.blk (p3 0).g 83 #[.bool false, .int .u8 (n : Nat), .int .u8 t, .int .u16 (L : Nat)]))]) (fun _ => ⟨kr (cu_hum (w0 := w) (olds := fun _ => False) hd (D := D) 110 103 b o z.length c (p3 0).g rfl hc), trivial⟩) fun _ a u hE hS => ?_
 refine rg hE hS [pu, pu] (fun _ => kp [(18, .bool false)]) kP0 fun _ a u hE hS => iff hE <| wp_skip ?_
 refine wp_seq ?_
 refine rgp hE hS [pu, ld 103, pe (.int .i64 (L : Nat)), pe (.int .i64 ((L + 1 : Nat) : Int)), pe (.int .i64 (((L + 1) * 4 : Nat) : Int)), pu] (fun _ => kp [(9, .int .i64 ((L + 1) * 4 : Nat))]) kP0 (fun _ => ⟨kr (ciV (i64n L (by omega))), kr (ciV (show IntKind.i64.wrap (((L : Nat) : Int) + (1 : Int)) = ((L + 1 : Nat) : Int) from by rw [wiV _ (by omega)]; omega)), kr (ciV (show IntKind.i64.wrap (((L + 1 : Nat) : Int) * (4 : Int)) = (((L + 1) * 4 : Nat) : Int) from by rw [wiV _ (by omega)]; omega)), trivial⟩) fun _ a u hE hS => ?_
 refine rgp hE hS [pu, pu, pu, pe (.bool false)] (fun _ => kp [(29, .bool false)]) kP0 (fun _ => ⟨kr (cbV (show ((((L + 1) * 4 : Nat) : Int) != ((z.length : Nat) : Int)) = false by rw [show z.length = (L + 1) * 4 by omega]; simp)), trivial⟩) fun _ a u hE hS => iff hE <| wp_skip ?_
 refine wp_seq ?_
 refine rg hE hS [pu, ld 103] (fun _ => kp [(33, .int .u8 t)]) kP0 fun _ a u hE hS => wp_block ?_
 by_cases h200 : t = 200
 ·skip
  refine rgp hE hS [pe (.bool true), pu] (fun _ => kp [(34, .bool true)]) kP0 (fun _ => ⟨kr (cbV (ebV (show (t : Int) = 200 by exact h200))), trivial⟩) fun _ a u hE hS => ift hE ?_
  refine rgp hE hS [pu, ld 103, pu, cu 79 [110] [96] (fun x => .tuple #[.slice x.a ds.length x.c, .nilIface]) (fun x => [some (.ck (ck32 x.a ds.length (ds.flatMap u32c)))]), pu, pu, pu, pu] (fun p10 => kp [(4, .slice (p10 3).a ds.length (p10 3).c)]) (fun p10 => kP [(96, some (.ck (ck32 (p10 3).a ds.length (ds.flatMap u32c))))]) (fun _ => ⟨kr (cu_par (w0 := w) (D := D) (A := some ⟨b, o, none⟩) (u := none) 110 96 rfl (C1 h200)), trivial⟩) fun p10 a u hE hS => ?_
  refine wp_ret (bkR (thR ?_))
  exact ret2 hE Tryz.results48 (.slice (p10 3).a ds.length (p10 3).c) .nilIface ⟨_, _, _, rfl, in_of32 hS 96, hS.below⟩
 refine rgp hE hS [pe (.bool false), pu] (fun _ => kp [(34, .bool false)]) kP0 (fun _ => ⟨kr (cbV (nbV (show (t : Int) ≠ 200 by exact h200))), trivial⟩) fun _ a u hE hS => iff hE ?_
 by_cases h201 : t = 201
 ·skip
  refine rgp hE hS [pe (.bool true), pu] (fun _ => kp [(42, .bool true)]) kP0 (fun _ => ⟨kr (cbV (ebV (show (t : Int) = 201 by exact h201))), trivial⟩) fun _ a u hE hS => ift hE ?_
  refine rgp hE hS [pu, ld 103, pu, cu 80 [110] [96] (fun x => .tuple #[.slice x.a ds.length x.c, .nilIface]) (fun x => [some (.ck (ck32 x.a ds.length (ds.flatMap u32c)))]), pu, pu, pu, pu] (fun p13 => kp [(4, .slice (p13 3).a ds.length (p13 3).c)]) (fun p13 => kP [(96, some (.ck (ck32 (p13 3).a ds.length (ds.flatMap u32c))))]) (fun _ => ⟨kr (cu_par (w0 := w) (D := D) (A := some ⟨b, o, none⟩) (u := none) 110 96 rfl (C2 h201)), trivial⟩) fun p13 a u hE hS => ?_
  refine wp_ret (bkR (thR ?_))
  exact ret2 hE Tryz.results48 (.slice (p13 3).a ds.length (p13 3).c) .nilIface ⟨_, _, _, rfl, in_of32 hS 96, hS.below⟩
 refine rgp hE hS [pe (.bool false), pu] (fun _ => kp [(42, .bool false)]) kP0 (fun _ => ⟨kr (cbV (nbV (show (t : Int) ≠ 201 by exact h201))), trivial⟩) fun _ a u hE hS => iff hE ?_
 by_cases h202 : t = 202
 ·skip
  refine rgp hE hS [pe (.bool true), pu] (fun _ => kp [(50, .bool true)]) kP0 (fun _ => ⟨kr (cbV (ebV (show (t : Int) = 202 by exact h202))), trivial⟩) fun _ a u hE hS => ift hE ?_
  refine rgp hE hS [pu, ld 103, pu, cu 81 [110] [96] (fun x => .tuple #[.slice x.a ds.length x.c, .nilIface]) (fun x => [some (.ck (ck32 x.a ds.length (ds.flatMap u32c)))]), pu, pu, pu, pu] (fun p16 => kp [(4, .slice (p16 3).a ds.length (p16 3).c)]) (fun p16 => kP [(96, some (.ck (ck32 (p16 3).a ds.length (ds.flatMap u32c))))]) (fun _ => ⟨kr (cu_par (w0 := w) (D := D) (A := some ⟨b, o, none⟩) (u := none) 110 96 rfl (C3 h202)), trivial⟩) fun p16 a u hE hS => ?_
  refine wp_ret (bkR (thR ?_))
  exact ret2 hE Tryz.results48 (.slice (p16 3).a ds.length (p16 3).c) .nilIface ⟨_, _, _, rfl, in_of32 hS 96, hS.below⟩
 refine rgp hE hS [pe (.bool false), pu] (fun _ => kp [(50, .bool false)]) kP0 (fun _ => ⟨kr (cbV (nbV (show (t : Int) ≠ 202 by exact h202))), trivial⟩) fun _ a u hE hS => iff hE ?_
 by_cases h203 : t = 203
 ·skip
  refine rgp hE hS [pe (.bool true), pu] (fun _ => kp [(58, .bool true)]) kP0 (fun _ => ⟨kr (cbV (ebV (show (t : Int) = 203 by exact h203))), trivial⟩) fun _ a u hE hS => ift hE ?_
  refine rgp hE hS [pu, ld 103, pu, cu 82 [110] [96] (fun x => .tuple #[.slice x.a ds.length x.c, .nilIface]) (fun x => [some (.ck (ck32 x.a ds.length (ds.flatMap u32c)))]), pu, pu, pu, pu] (fun p19 => kp [(4, .slice (p19 3).a ds.length (p19 3).c)]) (fun p19 => kP [(96, some (.ck (ck32 (p19 3).a ds.length (ds.flatMap u32c))))]) (fun _ => ⟨kr (cu_par (w0 := w) (D := D) (A := some ⟨b, o, none⟩) (u := none) 110 96 rfl (C4 h203)), trivial⟩) fun p19 a u hE hS => ?_
  refine wp_ret (bkR (thR ?_))
  exact ret2 hE Tryz.results48 (.slice (p19 3).a ds.length (p19 3).c) .nilIface ⟨_, _, _, rfl, in_of32 hS 96, hS.below⟩
 refine rgp hE hS [pe (.bool false), pu] (fun _ => kp [(58, .bool false)]) kP0 (fun _ => ⟨kr (cbV (nbV (show (t : Int) ≠ 203 by exact h203))), trivial⟩) fun _ a u hE hS => iff hE ?_
 by_cases h204 : t = 204
 ·skip
  refine rgp hE hS [pe (.bool true), pu] (fun _ => kp [(66, .bool true)]) kP0 (fun _ => ⟨kr (cbV (ebV (show (t : Int) = 204 by exact h204))), trivial⟩) fun _ a u hE hS => ift hE ?_
  refine rgp hE hS [pu, ld 103, pu, cu 83 [110] [96] (fun x => .tuple #[.slice x.a ds.length x.c, .nilIface]) (fun x => [some (.ck (ck32 x.a ds.length (ds.flatMap u32c)))]), pu, pu, pu, pu] (fun p22 => kp [(4, .slice (p22 3).a ds.length (p22 3).c)]) (fun p22 => kP [(96, some (.ck (ck32 (p22 3).a ds.length (ds.flatMap u32c))))]) (fun _ => ⟨kr (cu_par (w0 := w) (D := D) (A := some ⟨b, o, none⟩) (u := none) 110 96 rfl (C5 h204)), trivial⟩) fun p22 a u hE hS => ?_
  refine wp_ret (bkR (thR ?_))
  exact ret2 hE Tryz.results48 (.slice (p22 3).a ds.length (p22 3).c) .nilIface ⟨_, _, _, rfl, in_of32 hS 96, hS.below⟩
 refine rgp hE hS [pe (.bool false), pu] (fun _ => kp [(66, .bool false)]) kP0 (fun _ => ⟨kr (cbV (nbV (show (t : Int) ≠ 204 by exact h204))), trivial⟩) fun _ a u hE hS => iff hE ?_
 by_cases h205 : t = 205
 ·skip
  refine rgp hE hS [pe (.bool true), pu] (fun _ => kp [(74, .bool true)]) kP0 (fun _ => ⟨kr (cbV (ebV (show (t : Int) = 205 by exact h205))), trivial⟩) fun _ a u hE hS => ift hE ?_
  refine rg hE hS [pu, ld 103] (fun _ => kp [(77, .int .u8 (n : Nat))]) kP0 fun _ a u hE hS => wp_block ?_
  by_cases c5 : n = 5
  ·skip
   refine rgp hE hS [pe (.bool true), pu] (fun _ => kp [(78, .bool true)]) kP0 (fun _ => ⟨kr (cbV (ebV (show (((n : Nat) : Int) : Int) = 5 by omega))), trivial⟩) fun _ a u hE hS => ift hE ?_
   refine rg hE hS [nw 104] (fun p27 => kp [(10, pt (p27 0).g 0)]) (fun p27 => kP [(104, some (.blk (p27 0).g 178 #[.int .u32 0, .int .u32 0]))]) fun p27 a u hE hS => ?_
   refine wp_seq ?_
   refine rgp hE hS [pu, cu 84 [110] [104] (fun _ => .nilIface) (fun _ => [some (.blk (p27 0).g 178 #[.int .u32 (rd32 (z.drop 4) 0), .int .u32 (rd32 (z.drop 8) 0)])]), pu] (fun _ => kp [(11, .nilIface)]) (fun _ => kP [(104, some (.blk (p27 0).g 178 #[.int .u32 (rd32 (z.drop 4) 0), .int .u32 (rd32 (z.drop 8) 0)]))]) (fun _ => ⟨kr (cu_ub (olds := fun _ => False) (w0 := w) (D := D) (T := 178) (cs := #[.int .u32 0, .int .u32 0]) (A := some ⟨b, o, none⟩) (l := z) (g := (p27 0).g) (f := 84) (cs' := #[.int .u32 (rd32 (z.drop 4) 0), .int .u32 (rd32 (z.drop 8) 0)]) 110 104 _ c rfl (U7 h205 c5 (p27 0).g)), trivial⟩) fun _ a u hE hS => ?_
   refine rg hE hS [pu, pu] (fun _ => kp [(83, .bool false)]) kP0 fun _ a u hE hS => iff hE <| wp_skip ?_
   have hS := stp_row0 hS 1 w.heap.size 22 1
   refine rgp hE hS [pu, pu, ld 104, nw 92, ap 1 [92], pu, pu] (fun p30 => kp [(4, .slice (p30 4).a (0 + 1) (p30 4).c)]) (fun p30 => kP [(1, some (.row w.heap.size 22 1 (.slice (p30 4).a (0 + 1) (p30 4).c) (0 + 1) ([] ++ u32c (rd32 (z.drop 8) 0))))]) (fun _ => ⟨kr (show w.heap.size ≤ w.heap.size ∧ (0 + 1) * 4 ≤ 140737488355328 ∧ ∀ u ∈ u32c (rd32 (z.drop 8) 0), u.oneCell' = true from ⟨Nat.le_refl _, by omega, by intro u hu; simp [u32c] at hu; rw [hu]; rfl⟩), trivial⟩) fun p30 a u hE hS => ?_
   refine wp_ret (bkR (bkR (thR ?_)))
   have hrow := InRows.of_own (pcR (base := w.heap.size) (e := 22) (size := 1) (v := .slice (p30 4).a (0 + 1) (p30 4).c) (n := 0 + 1) (xs := [] ++ u32c (rd32 (z.drop 8) 0)) hS 1)
   exact ret2 hE Tryz.results48 (.slice (p30 4).a (0 + 1) (p30 4).c) .nilIface ⟨_, _, _, rfl, by rw [(hk.kM (.inl ⟨h205, .inr (.inr c5)⟩)).2]; exact hrow, hS.below⟩
  refine rgp hE hS [pe (.bool false), pu] (fun _ => kp [(78, .bool false)]) kP0 (fun _ => ⟨kr (cbV (nbV (show (((n : Nat) : Int) : Int) ≠ 5 by omega))), trivial⟩) fun _ a u hE hS => iff hE ?_
  by_cases c1 : n = 1
  ·skip
   refine wp_seq ?_
   refine rgp hE hS [pe (.bool true), pu] (fun _ => kp [(91, .bool true)]) kP0 (fun _ => ⟨kr (cbV (ebV (show (((n : Nat) : Int) : Int) = 1 by omega))), trivial⟩) fun _ a u hE hS => ift hE <| wp_skip <| ift hE ?_
   refine rgp hE hS [pu, ld 103, pu, cu 85 [110] [96] (fun x => .tuple #[.slice x.a ds.length x.c, .nilIface]) (fun x => [some (.ck (ck32 x.a ds.length (ds.flatMap u32c)))]), pu, pu, pu, pu] (fun p33 => kp [(4, .slice (p33 3).a ds.length (p33 3).c)]) (fun p33 => kP [(96, some (.ck (ck32 (p33 3).a ds.length (ds.flatMap u32c))))]) (fun _ => ⟨kr (cu_par (w0 := w) (D := D) (A := some ⟨b, o, none⟩) (u := none) 110 96 rfl (CM (.inl ⟨h205, .inl c1⟩))), trivial⟩) fun p33 a u hE hS => ?_
   refine wp_ret (bkR (bkR (thR ?_)))
   exact ret2 hE Tryz.results48 (.slice (p33 3).a ds.length (p33 3).c) .nilIface ⟨_, _, _, rfl, in_of32 hS 96, hS.below⟩
  by_cases c15 : n = 15
  ·skip
   refine wp_seq ?_
   refine rgp hE hS [pe (.bool false), pu] (fun _ => kp [(91, .bool false)]) kP0 (fun _ => ⟨kr (cbV (nbV (show (((n : Nat) : Int) : Int) ≠ 1 by omega))), trivial⟩) fun _ a u hE hS => iff hE ?_
   refine rgE hE hS [pe (.bool true), pu] (fun _ => kp [(91, .bool true)]) kP0 (fun _ => ⟨kr (cbV (ebV (show (((n : Nat) : Int) : Int) = 15 by omega))), trivial⟩) fun _ a u hE hS => ift hE ?_
   refine rgp hE hS [pu, ld 103, pu, cu 85 [110] [96] (fun x => .tuple #[.slice x.a ds.length x.c, .nilIface]) (fun x => [some (.ck (ck32 x.a ds.length (ds.flatMap u32c)))]), pu, pu, pu, pu] (fun p36 => kp [(4, .slice (p36 3).a ds.length (p36 3).c)]) (fun p36 => kP [(96, some (.ck (ck32 (p36 3).a ds.length (ds.flatMap u32c))))]) (fun _ => ⟨kr (cu_par (w0 := w) (D := D) (A := some ⟨b, o, none⟩) (u := none) 110 96 rfl (CM (.inl ⟨h205, .inr (.inl c15)⟩))), trivial⟩) fun p36 a u hE hS => ?_
   refine wp_ret (bkR (bkR (thR ?_)))
   exact ret2 hE Tryz.results48 (.slice (p36 3).a ds.length (p36 3).c) .nilIface ⟨_, _, _, rfl, in_of32 hS 96, hS.below⟩
  refine wp_seq ?_
  refine rgp hE hS [pe (.bool false), pu] (fun _ => kp [(91, .bool false)]) kP0 (fun _ => ⟨kr (cbV (nbV (show (((n : Nat) : Int) : Int) ≠ 1 by omega))), trivial⟩) fun _ a u hE hS => iff hE ?_
  refine rgE hE hS [pe (.bool false), pu] kp0 kP0 (fun _ => ⟨kr (cbV (nbV (show (((n : Nat) : Int) : Int) ≠ 15 by omega))), trivial⟩) fun _ a u hE hS => iff hE ?_
  by_cases c11 : n = 11
  ·skip
   refine rgp hE hS [pe (.bool true), pu] (fun _ => kp [(100, .bool true)]) kP0 (fun _ => ⟨kr (cbV (ebV (show (((n : Nat) : Int) : Int) = 11 by omega))), trivial⟩) fun _ a u hE hS => ift hE ?_
   refine rgp hE hS [pu, ld 103, pu, cu 86 [110] [96] (fun x => .tuple #[.slice x.a ds.length x.c, .nilIface]) (fun x => [some (.ck (ck32 x.a ds.length (ds.flatMap u32c)))]), pu, pu, pu, pu] (fun p40 => kp [(4, .slice (p40 3).a ds.length (p40 3).c)]) (fun p40 => kP [(96, some (.ck (ck32 (p40 3).a ds.length (ds.flatMap u32c))))]) (fun _ => ⟨kr (cu_par (w0 := w) (D := D) (A := some ⟨b, o, none⟩) (u := none) 110 96 rfl (C8 h205 c11)), trivial⟩) fun p40 a u hE hS => ?_
   refine wp_ret (bkR (bkR (thR ?_)))
   exact ret2 hE Tryz.results48 (.slice (p40 3).a ds.length (p40 3).c) .nilIface ⟨_, _, _, rfl, in_of32 hS 96, hS.below⟩
  refine rgp hE hS [pe (.bool false), pu] (fun _ => kp [(100, .bool false)]) kP0 (fun _ => ⟨kr (cbV (nbV (show (((n : Nat) : Int) : Int) ≠ 11 by omega))), trivial⟩) fun _ a u hE hS => iff hE <| wp_skip ?_
  refine rg hE hS [pu, pu, pu] kp0 kP0 fun _ a u hE hS => ?_
  refine wp_ret ?_
  refine absurd ?_ hk.known
  unfold kindOf
  first | (rw [if_neg h200, if_neg h201, if_neg h202, if_neg h203, if_neg h204, if_pos h205, if_neg (by omega), if_neg (by omega), if_neg (by omega), if_neg (by omega)]) | (rw [if_neg h200, if_neg h201, if_neg h202, if_neg h203, if_neg h204, if_neg h205, if_pos h206, if_neg (by omega), if_neg (by omega), if_neg (by omega), if_neg (by omega)]) | (rw [if_neg h200, if_neg h201, if_neg h202, if_neg h203, if_neg h204, if_neg h205, if_neg h206])
 refine rgp hE hS [pe (.bool false), pu] (fun _ => kp [(74, .bool false)]) kP0 (fun _ => ⟨kr (cbV (nbV (show (t : Int) ≠ 205 by exact h205))), trivial⟩) fun _ a u hE hS => iff hE ?_
 by_cases h206 : t = 206
 ·skip
  refine rgp hE hS [pe (.bool true), pu] (fun _ => kp [(108, .bool true)]) kP0 (fun _ => ⟨kr (cbV (ebV (show (t : Int) = 206 by exact h206))), trivial⟩) fun _ a u hE hS => ift hE ?_
  refine rg hE hS [pu, ld 103] (fun _ => kp [(111, .int .u8 (n : Nat))]) kP0 fun _ a u hE hS => wp_block ?_
  by_cases c1 : n = 1
  ·skip
   refine rgp hE hS [pe (.bool true), pu] (fun _ => kp [(112, .bool true)]) kP0 (fun _ => ⟨kr (cbV (ebV (show (((n : Nat) : Int) : Int) = 1 by omega))), trivial⟩) fun _ a u hE hS => ift hE ?_
   refine rg hE hS [nw 104] (fun p47 => kp [(12, pt (p47 0).g 0)]) (fun p47 => kP [(104, some (.blk (p47 0).g 183 #[.int .u32 0, .int .u32 0]))]) fun p47 a u hE hS => ?_
   refine wp_seq ?_
   refine rgp hE hS [pu, cu 87 [110] [104] (fun _ => .nilIface) (fun _ => [some (.blk (p47 0).g 183 #[.int .u32 (rd32 (z.drop 4) 0), .int .u32 (rd32 (z.drop 8) 0)])]), pu] (fun _ => kp [(13, .nilIface)]) (fun _ => kP [(104, some (.blk (p47 0).g 183 #[.int .u32 (rd32 (z.drop 4) 0), .int .u32 (rd32 (z.drop 8) 0)]))]) (fun _ => ⟨kr (cu_ub (olds := fun _ => False) (w0 := w) (D := D) (T := 183) (cs := #[.int .u32 0, .int .u32 0]) (A := some ⟨b, o, none⟩) (l := z) (g := (p47 0).g) (f := 87) (cs' := #[.int .u32 (rd32 (z.drop 4) 0), .int .u32 (rd32 (z.drop 8) 0)]) 110 104 _ c rfl (U9 h206 c1 (p47 0).g)), trivial⟩) fun _ a u hE hS => ?_
   refine rg hE hS [pu, pu] (fun _ => kp [(117, .bool false)]) kP0 fun _ a u hE hS => iff hE <| wp_skip ?_
   have hS := stp_row0 hS 1 w.heap.size 22 1
   refine rgp hE hS [pu, pu, ld 104, nw 92, ap 1 [92], pu, pu] (fun p50 => kp [(4, .slice (p50 4).a (0 + 1) (p50 4).c)]) (fun p50 => kP [(1, some (.row w.heap.size 22 1 (.slice (p50 4).a (0 + 1) (p50 4).c) (0 + 1) ([] ++ u32c (rd32 (z.drop 8) 0))))]) (fun _ => ⟨kr (show w.heap.size ≤ w.heap.size ∧ (0 + 1) * 4 ≤ 140737488355328 ∧ ∀ u ∈ u32c (rd32 (z.drop 8) 0), u.oneCell' = true from ⟨Nat.le_refl _, by omega, by intro u hu; simp [u32c] at hu; rw [hu]; rfl⟩), trivial⟩) fun p50 a u hE hS => ?_
   refine wp_ret (bkR (bkR (thR ?_)))
   have hrow := InRows.of_own (pcR (base := w.heap.size) (e := 22) (size := 1) (v := .slice (p50 4).a (0 + 1) (p50 4).c) (n := 0 + 1) (xs := [] ++ u32c (rd32 (z.drop 8) 0)) hS 1)
   exact ret2 hE Tryz.results48 (.slice (p50 4).a (0 + 1) (p50 4).c) .nilIface ⟨_, _, _, rfl, by rw [(hk.kM (.inr ⟨h206, .inl c1⟩)).2]; exact hrow, hS.below⟩
  refine rgp hE hS [pe (.bool false), pu] (fun _ => kp [(112, .bool false)]) kP0 (fun _ => ⟨kr (cbV (nbV (show (((n : Nat) : Int) : Int) ≠ 1 by omega))), trivial⟩) fun _ a u hE hS => iff hE ?_
  by_cases c2 : n = 2
  ·skip
   refine rgp hE hS [pe (.bool true), pu] (fun _ => kp [(125, .bool true)]) kP0 (fun _ => ⟨kr (cbV (ebV (show (((n : Nat) : Int) : Int) = 2 by omega))), trivial⟩) fun _ a u hE hS => ift hE ?_
   refine rgp hE hS [pu, ld 103, pu, cu 85 [110] [96] (fun x => .tuple #[.slice x.a ds.length x.c, .nilIface]) (fun x => [some (.ck (ck32 x.a ds.length (ds.flatMap u32c)))]), pu, pu, pu, pu] (fun p53 => kp [(4, .slice (p53 3).a ds.length (p53 3).c)]) (fun p53 => kP [(96, some (.ck (ck32 (p53 3).a ds.length (ds.flatMap u32c))))]) (fun _ => ⟨kr (cu_par (w0 := w) (D := D) (A := some ⟨b, o, none⟩) (u := none) 110 96 rfl (CM (.inr ⟨h206, .inr c2⟩))), trivial⟩) fun p53 a u hE hS => ?_
   refine wp_ret (bkR (bkR (thR ?_)))
   exact ret2 hE Tryz.results48 (.slice (p53 3).a ds.length (p53 3).c) .nilIface ⟨_, _, _, rfl, in_of32 hS 96, hS.below⟩
  refine rgp hE hS [pe (.bool false), pu] (fun _ => kp [(125, .bool false)]) kP0 (fun _ => ⟨kr (cbV (nbV (show (((n : Nat) : Int) : Int) ≠ 2 by omega))), trivial⟩) fun _ a u hE hS => iff hE ?_
  by_cases c4 : n = 4
  ·skip
   refine rgp hE hS [pe (.bool true), pu] (fun _ => kp [(133, .bool true)]) kP0 (fun _ => ⟨kr (cbV (ebV (show (((n : Nat) : Int) : Int) = 4 by omega))), trivial⟩) fun _ a u hE hS => ift hE ?_
   refine rgp hE hS [pu, ld 103, pu, cu 88 [110] [96] (fun x => .tuple #[.slice x.a ds.length x.c, .nilIface]) (fun x => [some (.ck (ck32 x.a ds.length (ds.flatMap u32c)))]), pu, pu, pu, pu] (fun p56 => kp [(4, .slice (p56 3).a ds.length (p56 3).c)]) (fun p56 => kP [(96, some (.ck (ck32 (p56 3).a ds.length (ds.flatMap u32c))))]) (fun _ => ⟨kr (cu_par (w0 := w) (D := D) (A := some ⟨b, o, none⟩) (u := none) 110 96 rfl (C11 h206 c4)), trivial⟩) fun p56 a u hE hS => ?_
   refine wp_ret (bkR (bkR (thR ?_)))
   exact ret2 hE Tryz.results48 (.slice (p56 3).a ds.length (p56 3).c) .nilIface ⟨_, _, _, rfl, in_of32 hS 96, hS.below⟩
  refine rgp hE hS [pe (.bool false), pu] (fun _ => kp [(133, .bool false)]) kP0 (fun _ => ⟨kr (cbV (nbV (show (((n : Nat) : Int) : Int) ≠ 4 by omega))), trivial⟩) fun _ a u hE hS => iff hE ?_
  by_cases c15 : n = 15
  ·skip
   refine rgp hE hS [pe (.bool true), pu] (fun _ => kp [(141, .bool true)]) kP0 (fun _ => ⟨kr (cbV (ebV (show (((n : Nat) : Int) : Int) = 15 by omega))), trivial⟩) fun _ a u hE hS => ift hE ?_
   refine rgp hE hS [pu, ld 103, pu, cu 89 [110] [96] (fun x => .tuple #[.slice x.a ds.length x.c, .nilIface]) (fun x => [some (.ck (ck32 x.a ds.length (ds.flatMap u32c)))]), pu, pu, pu, pu] (fun p59 => kp [(4, .slice (p59 3).a ds.length (p59 3).c)]) (fun p59 => kP [(96, some (.ck (ck32 (p59 3).a ds.length (ds.flatMap u32c))))]) (fun _ => ⟨kr (cu_par (w0 := w) (D := D) (A := some ⟨b, o, none⟩) (u := none) 110 96 rfl (C12 h206 c15)), trivial⟩) fun p59 a u hE hS => ?_
   refine wp_ret (bkR (bkR (thR ?_)))
   exact ret2 hE Tryz.results48 (.slice (p59 3).a ds.length (p59 3).c) .nilIface ⟨_, _, _, rfl, in_of32 hS 96, hS.below⟩
  refine rgp hE hS [pe (.bool false), pu] (fun _ => kp [(141, .bool false)]) kP0 (fun _ => ⟨kr (cbV (nbV (show (((n : Nat) : Int) : Int) ≠ 15 by omega))), trivial⟩) fun _ a u hE hS => iff hE <| wp_skip ?_
  refine rg hE hS [pu, pu, pu] kp0 kP0 fun _ a u hE hS => ?_
  refine wp_ret ?_
  refine absurd ?_ hk.known
  unfold kindOf
  first | (rw [if_neg h200, if_neg h201, if_neg h202, if_neg h203, if_neg h204, if_pos h205, if_neg (by omega), if_neg (by omega), if_neg (by omega), if_neg (by omega)]) | (rw [if_neg h200, if_neg h201, if_neg h202, if_neg h203, if_neg h204, if_neg h205, if_pos h206, if_neg (by omega), if_neg (by omega), if_neg (by omega), if_neg (by omega)]) | (rw [if_neg h200, if_neg h201, if_neg h202, if_neg h203, if_neg h204, if_neg h205, if_neg h206])
 refine rgp hE hS [pe (.bool false), pu] (fun _ => kp [(108, .bool false)]) kP0 (fun _ => ⟨kr (cbV (nbV (show (t : Int) ≠ 206 by exact h206))), trivial⟩) fun _ a u hE hS => iff hE <| wp_skip ?_
 refine rg hE hS [pu, pu, pu] kp0 kP0 fun _ a u hE hS => ?_
 refine wp_ret ?_
 refine absurd ?_ hk.known
 unfold kindOf
 first | (rw [if_neg h200, if_neg h201, if_neg h202, if_neg h203, if_neg h204, if_pos h205, if_neg (by omega), if_neg (by omega), if_neg (by omega), if_neg (by omega)]) | (rw [if_neg h200, if_neg h201, if_neg h202, if_neg h203, if_neg h204, if_neg h205, if_pos h206, if_neg (by omega), if_neg (by omega), if_neg (by omega), if_neg (by omega)]) | (rw [if_neg h200, if_neg h201, if_neg h202, if_neg h203, if_neg h204, if_neg h205, if_neg h206])
end Go.Proofs.YtmmfpgoodfgkbaaGreatDoor
