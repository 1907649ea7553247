/-
  THE WALKS of the package's reading of congestion control feedback. Condition: the bytes lie in memory, apart from the packet's block; the header says the kind; the reference reads them.
-/
import Derived.Test.YtmmfpgoodfgkbaaGreatDoorUmK
namespace Go.Proofs.YtmmfpgoodfgkbaaGreatDoor
open Go Go.RowKit
set_option maxHeartbeats 4000000
set_option maxRecDepth 100000
set_option linter.unusedVariables false
set_option linter.unusedSimpArgs false

theorem hi_bit : ∀ k : Fin 256, (bits .and .u8 ((k.val : Nat) : Int) 128 != 0) = decide (128 ≤ k.val) := by decide +kernel
theorem hi_of {b : Int} (h0 : 0 ≤ b) (h1 : b < 256) : (bits .and .u8 b 128 != 0) = decide (128 ≤ b) := by
 have := hi_bit ⟨b.toNat, by omega⟩
 simp only at this
 rw [show ((b.toNat : Nat) : Int) = b by omega] at this
 rw [this]
 exact decide_eq_decide.2 (by omega)
theorem and3b (x : Int) (h0 : 0 ≤ x) (h1 : x < 256) : bits .and .u8 x 3 = x % 4 := by
 have h31 : (BitVec.ofInt 8 3).toNat = 2 ^ 2 - 1 := by decide
 have key : (BitVec.ofInt 8 x &&& BitVec.ofInt 8 3).toNat = (x % ((2 ^ 8 : Nat) : Int)).toNat % 2 ^ 2 := by
  rw [BitVec.toNat_and, BitVec.toNat_ofInt, h31, Nat.and_two_pow_sub_one_eq_mod]
 show IntKind.u8.wrap ((BitVec.ofInt 8 x &&& BitVec.ofInt 8 3).toNat : Nat) = _
 rw [key, IntKind.wrap_u8]
 omega
theorem rem2k (n : Nat) : ((n : Nat) : Int).tmod 2 = ((n % 2 : Nat) : Int) := by
 rw [Int.tmod_eq_emod_of_nonneg (by omega)]
 omega
theorem rd32_cut (z : List Int) (i h : Nat) (hj : i + 4 ≤ h) : rd32 ((z.take h).drop i) 0 = rd32 (z.drop i) 0 := by
 unfold rd32
 rw [gi_cut _ _ _ _ (by omega), gi_cut _ _ _ _ (by omega), gi_cut _ _ _ _ (by omega), gi_cut _ _ _ _ (by omega)]
theorem rd16_cut (z : List Int) (i h : Nat) (hj : i + 2 ≤ h) : rd16 ((z.take h).drop i) 0 = rd16 (z.drop i) 0 := by
 unfold rd16
 rw [gi_cut _ _ _ _ (by omega), gi_cut _ _ _ _ (by omega)]
theorem stp_oldU {w : World} {g : Nat} {T : TypeId} {cs : Array Value} {L : PL} (h : Stp (fun _ => False) w w (lookM (den (fun _ => False) w L))) (k : Nat) (hb : Blk w g T cs) : Stp (fun _ => False) w w (lookM (den (fun _ => False) w ((k, some (.old g 0 cs.toList)) :: L))) :=
 h.then_ (NL := [(k, _)]) (stp_one k (ckP (OldAt (fun _ => False) w g 0 cs.toList)) (.inl (World.grownBy.refl w _)) ⟨fun j v hj => by rw [Nat.zero_add]; exact (hb.cell j).trans (by simpa using hj), fun _ => ⟨hb.lt, id⟩⟩ fun g hg => hg.elim)
theorem own_blk {w : World} {B g n size : Nat} {T : TypeId} {cs : Array Value} (h : Blk w g T cs) (hg : B ≤ g) (hn : cs.size = n * size) (hm : n ≤ maxLen) : w.ownsRow B T size (.slice (some ⟨g, 0, none⟩) n n) n cs.toList :=
 ⟨by simpa using hn, .inr ⟨g, n, cs, rfl, hg, h, Nat.le_refl _, hm, hn, by rw [← hn]; exact List.take_of_length_le (by simp)⟩⟩
theorem stp_b2r {olds : Nat → Prop} {w0 w : World} {L : PL} (hS : Stp olds w0 w (lookM (den olds w0 L))) (k k2 : Nat) {B g : Nat} {T : TypeId} {cs : Array Value} (size n : Nat) (hne : k ≠ k2) (hg : B ≤ g) (hn : cs.size = n * size) (hm : n ≤ maxLen) (hk : lookP L k = some (.blk g T cs) := by kernel_rfl) : Stp olds w0 w (lookM (den olds w0 ((k2, some (.row B T size (.slice (some ⟨g, 0, none⟩) n n) n cs.toList)) :: (k, none) :: L))) := by
 have hM : lookM (den olds w0 L) k = some (ckB g T cs) := by rw [lookM_den, hk]; rfl
 have hb : Blk w g T cs := hS.blk k hM
 have ho := own_blk (B := B) hb hg hn hm
 have hbl : ∀ y, (Value.slice (some ⟨g, 0, none⟩) n n).ownBlock = some y → y = g := fun y hy => (by injection hy with hy; exact hy.symm)
 have key : ∀ m c, lookM (den olds w0 ((k2, some (.row B T size (.slice (some ⟨g, 0, none⟩) n n) n cs.toList)) :: (k, none) :: L)) m = some c → (m = k2 ∧ c = ckR B T size (.slice (some ⟨g, 0, none⟩) n n) n cs.toList) ∨ (m ≠ k2 ∧ m ≠ k ∧ lookM (den olds w0 L) m = some c) := fun m c hc => by
  simp only [den, lookM] at hc
  cases h1 : Nat.beq k2 m with
  | true => rw [h1] at hc; simp only [cond_true, Option.map_some, Option.some.injEq] at hc; exact .inl ⟨(Nat.eq_of_beq_eq_true h1).symm, hc.symm⟩
  | false =>
   rw [h1] at hc
   simp only [cond_false] at hc
   cases h2 : Nat.beq k m with
   | true => rw [h2] at hc; cases hc
   | false => rw [h2] at hc; exact .inr ⟨fun e => (by rw [e, Nat.beq_refl] at h1; cases h1), fun e => (by rw [e, Nat.beq_refl] at h2; cases h2), hc⟩
 refine ⟨hS.os, hS.tape, hS.output, hS.size, hS.kept, fun m c hc => ?_, fun m c hc y hy => ?_, fun m m' c c' hc hc' hmm y hy hy' => ?_⟩
 ·rcases key m c hc with ⟨_, rfl⟩ | ⟨_, _, h⟩
  ·exact ho
  ·exact hS.ok m c h
 ·rcases key m c hc with ⟨_, rfl⟩ | ⟨_, _, h⟩
  ·have := hbl y hy
   subst this
   exact hS.lt k _ hM y rfl
  ·exact hS.lt m c h y hy
 ·rcases key m c hc with ⟨e1, rfl⟩ | ⟨_, n1, h1⟩ <;> rcases key m' c' hc' with ⟨e2, rfl⟩ | ⟨_, n2, h2⟩
  ·exact hmm (e1.trans e2.symm)
  ·have := hbl y hy
   subst this
   exact hS.apart k m' _ _ hM h2 (Ne.symm n2) y rfl hy'
  ·have := hbl y hy'
   subst this
   exact hS.apart k m _ _ hM h1 (Ne.symm n1) y rfl hy
  ·exact hS.apart m m' c c' h1 h2 hmm y hy hy'
theorem metUm_any (g b o c : Nat) (y : List Int) (D : Nat → Prop) (w : World) (hz : Byts y) (hb : Blk w g 233 #[.bool false, .int .u8 0, .int .u16 0]) (hr : RowD w D (some ⟨b, o, none⟩) y) (hD : ∀ x, D x → x < w.heap.size ∧ x ≠ g) (hc : y.length ≤ c) (hl : y.length = 2) (hm : rd16 y 0 / 32768 ≠ 1 → rd16 y 0 = 0) :
  Calls Tryz.prog 158 #[.pointer (some ⟨g, 0, none⟩), .slice (some ⟨b, o, none⟩) y.length c] w fun e w' => e = .returned .nilIface ∧ w.grownBy w' (some g) ∧ Blk w' g 233 (metB y).cells.toArray := by
 refine go_in Tryz.func158 rfl Tryz.ntmps158 [pt g 0, sv b o y.length c] fun a hE => ?_
 have hS := stp_blk1 101 hb
 have hS := stp_ry1 hS 110 hr (fun x hx => ⟨(hD x hx).1, (hD x hx).2⟩) hz
 have h0 := hz.gi 0
 have h1 := hz.gi 1
 have h16 := rd16_lt hz 0
 have hv : rd16 y 0 = gi y 0 * 256 + gi y 1 := rfl
 refine rg hE hS [pu] (fun _ => kp [(4, .nilIface)]) kP0 fun _ a u hE hS => ?_
 refine wp_seq ?_
 refine rgp hE hS [pu, pu, pe (.bool false)] (fun _ => kp [(7, .bool false)]) kP0 (fun _ => ⟨kr (cbV (show (((y.length : Nat) : Int) != 2) = false by rw [hl]; rfl)), trivial⟩) fun _ a u hE hS => iff hE <| wp_skip ?_
 by_cases hV : rd16 y 0 / 32768 = 1
 rotate_left
 ·have hV0 := hm hV
  refine rgp hE hS [pu, pu, ix, rb 110 0, pu, pe (.bool false), pu, pu, st 101] kp0 kP0 (fun _ => ⟨kr (show 0 < y.length by omega), kr (show 0 < (y).length by omega), kr (cbV ((hi_of h0.1 h0.2).trans (decide_eq_false (by omega)))), trivial⟩) fun _ a u hE hS => ?_
  refine wp_seq ?_
  refine rg hE hS [pu, pu, pu, ld 101, pu] (fun _ => kp [(21, .bool true)]) kP0 fun _ a u hE hS => ift hE ?_
  refine rg hE hS [pu, pu, pu, st 101] kp0 kP0 fun _ a u hE hS => ?_
  refine rg hE hS [pu, pu, pu, st 101] kp0 kP0 fun _ a u hE hS => ?_
  refine rg hE hS [pu] kp0 kP0 fun _ a u hE hS => ?_
  refine wp_ret (thR ?_)
  exact ret1 hE Tryz.results158 .nilIface ⟨rfl, hS.grownBy (some g) (fun _ e => by rw [e]), by rw [show (metB y).cells.toArray = #[.bool false, .int .u8 0, .int .u16 0] by unfold metB metV Met.cells; rw [hV0]; rfl]; exact pcB hS 101⟩
 refine rgp hE hS [pu, pu, ix, rb 110 0, pu, pe (.bool true), pu, pu, st 101] kp0 (fun _ => kP [(101, some (.blk g 233 #[.bool true, .int .u8 0, .int .u16 0]))]) (fun _ => ⟨kr (show 0 < y.length by omega), kr (show 0 < (y).length by omega), kr (cbV ((hi_of h0.1 h0.2).trans (decide_eq_true (by omega)))), trivial⟩) fun _ a u hE hS => ?_
 refine wp_seq ?_
 refine rg hE hS [pu, pu, pu, ld 101, pu] (fun _ => kp [(21, .bool false)]) kP0 fun _ a u hE hS => iff hE <| wp_skip ?_
 refine rgp hE hS [pu, pu, ix, rb 110 0, pe (.int .u8 (gi y 0 / 32)), pe (.int .u8 (gi y 0 / 32 % 4)), pu, pu, st 101] kp0 (fun _ => kP [(101, some (.blk g 233 #[.bool true, .int .u8 (gi y 0 / 32 % 4), .int .u16 0]))]) (fun _ => ⟨kr (show 0 < y.length by omega), kr (show 0 < (y).length by omega), kr (shrv .u8 (gi y 0) 32 (by decide)), kr (congrArg (Value.int .u8) (and3b (gi y 0 / 32) (by omega) (by omega))), trivial⟩) fun _ a u hE hS => ?_
 refine rgp hE hS [pu, pu, cl cB16 [110] [], pe (.int .u16 (rd16 y 0 % 8192)), pu, pu, st 101] kp0 (fun _ => kP [(101, some (.blk g 233 #[.bool true, .int .u8 (gi y 0 / 32 % 4), .int .u16 (rd16 y 0 % 8192)]))]) (fun _ => ⟨kr (show 2 ≤ y.length ∧ y.length ≤ c ∧ 0 < y.length by omega), kr (congrArg (Value.int .u16) (and8191h (rd16 y 0) (by omega) (by omega))), trivial⟩) fun _ a u hE hS => ?_
 refine rg hE hS [pu] kp0 kP0 fun _ a u hE hS => ?_
 refine wp_ret ?_
 exact ret1 hE Tryz.results158 .nilIface ⟨rfl, hS.grownBy (some g) (fun _ e => by rw [e]), by rw [show (metB y).cells.toArray = #[.bool true, .int .u8 (gi y 0 / 32 % 4), .int .u16 (rd16 y 0 % 8192)] by unfold metB metV Met.cells; simp only; rw [show (rd16 y 0 / 32768 == 1) = true from beq_iff_eq.2 hV, show rd16 y 0 / 8192 % 4 = gi y 0 / 32 % 4 by omega]]; exact pcB hS 101⟩

theorem bkLen_any (g : Nat) (m f : Int) (A : Option Addr) (n c : Nat) (w : World) (hb : Blk w g 230 #[.int .u32 m, .int .u16 f, .slice A (n : Nat) c]) (hn : n ≤ 1048576) : Calls Tryz.prog 102 #[.pointer (some ⟨g, 0, none⟩)] w fun e w' => e = .returned (.int .i64 ((8 + 2 * ev n : Nat) : Int)) ∧ Below w.heap.size w w' := by
 refine go_in Tryz.func102 rfl Tryz.ntmps102 [pt g 0] fun a hE => ?_
 have hS := stp_in w
 have hS := stp_oldU hS 101 hb
 refine rg hE hS [pu] (fun _ => kp [(2, .int .i64 0)]) kP0 fun _ a u hE hS => ?_
 refine rg hE hS [pu, pu, pu, lo 101 2, pu, pu] (fun _ => kp [(3, .int .i64 (n : Nat))]) kP0 fun _ a u hE hS => ?_
 refine wp_seq ?_
 have hev : ev n = n + n % 2 := rfl
 by_cases h2 : n % 2 = 0
 ·skip
  refine rgp hE hS [pu, pe (.int .i64 ((n % 2 : Nat) : Int)), pe (.bool false)] (fun _ => kn [(11, .bool false)] [2, 3]) (fun _ => kN [] []) (fun _ => ⟨kr (ciV (rem2k n)), kr (cbV (show (((n % 2 : Nat) : Int) != 0) = false by rw [show n % 2 = 0 by omega]; rfl)), trivial⟩) fun _ a u hE hS => iff hE <| wp_skip ?_
  refine rgp hE hS [pu, pe (.int .i64 ((2 * ev n : Nat) : Int)), pe (.int .i64 ((8 + 2 * ev n : Nat) : Int)), pu] (fun _ => kp [(2, .int .i64 (8 + 2 * ev n : Nat))]) kP0 (fun _ => ⟨kr (ciV (show IntKind.i64.wrap ((2 : Int) * ((n : Nat) : Int)) = ((2 * ev n : Nat) : Int) from by rw [wiV _ (by omega)]; omega)), kr (ciV (show IntKind.i64.wrap ((8 : Int) + ((2 * ev n : Nat) : Int)) = ((8 + 2 * ev n : Nat) : Int) from by rw [wiV _ (by omega)]; omega)), trivial⟩) fun _ a u hE hS => ?_
  refine wp_ret ?_
  exact ret1 hE Tryz.results102 (.int .i64 ((8 + 2 * ev n : Nat) : Int)) ⟨rfl, hS.below⟩
 refine rgp hE hS [pu, pe (.int .i64 ((n % 2 : Nat) : Int)), pe (.bool true)] (fun _ => kn [(11, .bool true)] [2, 3]) (fun _ => kN [] []) (fun _ => ⟨kr (ciV (rem2k n)), kr (cbV (show (((n % 2 : Nat) : Int) != 0) = true from bne_iff_ne.2 (by omega))), trivial⟩) fun _ a u hE hS => ift hE ?_
 refine rgE hE hS [pu, pe (.int .i64 ((n + 1 : Nat) : Int)), pu] (fun _ => kp [(3, .int .i64 (n + 1 : Nat))]) kP0 (fun _ => ⟨kr (ciV (show IntKind.i64.wrap (((n : Nat) : Int) + (1 : Int)) = ((n + 1 : Nat) : Int) from by rw [wiV _ (by omega)]; omega)), trivial⟩) fun _ a u hE hS => ?_
 refine rgp hE hS [pu, pe (.int .i64 ((2 * ev n : Nat) : Int)), pe (.int .i64 ((8 + 2 * ev n : Nat) : Int)), pu] (fun _ => kp [(2, .int .i64 (8 + 2 * ev n : Nat))]) kP0 (fun _ => ⟨kr (ciV (show IntKind.i64.wrap ((2 : Int) * ((n + 1 : Nat) : Int)) = ((2 * ev n : Nat) : Int) from by rw [wiV _ (by omega)]; omega)), kr (ciV (show IntKind.i64.wrap ((8 : Int) + ((2 * ev n : Nat) : Int)) = ((8 + 2 * ev n : Nat) : Int) from by rw [wiV _ (by omega)]; omega)), trivial⟩) fun _ a u hE hS => ?_
 refine wp_ret ?_
 exact ret1 hE Tryz.results102 (.int .i64 ((8 + 2 * ev n : Nat) : Int)) ⟨rfl, hS.below⟩
theorem cu_blen {olds : Nat → Prop} {w0 : World} {g : Nat} {m f : Int} {A : Option Addr} {n c : Nat} (j : Nat) (hn : n ≤ 1048576) (L' : PL) (w : World) (hps : [some (.blk g 230 #[.int .u32 m, .int .u16 f, .slice A (n : Nat) c])] = ([j] ++ []).map (lookP L')) (hS : Stp olds w0 w (restr ([j] ++ []) (lookM (den olds w0 L')))) :
  Calls Tryz.prog 102 #[.pointer (some ⟨g, 0, none⟩)] w fun e w' => ∃ x : Pay, e = .returned (.int .i64 ((8 + 2 * ev n : Nat) : Int)) ∧ Stp (blksOf (lookM (den olds w0 L')) []) w w' (lookM (den olds w0 (zipW [] []))) := by
 have hps' : [some (Pc.blk g 230 #[.int .u32 m, .int .u16 f, .slice A (n : Nat) c])] = [j].map (lookP L') := by simpa using hps
 have hb := hS.blk j (one_pc (olds := olds) (w0 := w0) hps').2
 exact (bkLen_any g m f A n c w hb hn).mono fun e w' ⟨he, hB⟩ => ⟨pay0, he, stp_of_below hB⟩

theorem elemMet : Elem Tryz.prog 228 233 (.agg #[.bool false, .int .u8 0, .int .u16 0]) 3 4 := ⟨Tryz.underlying228, by kernel_rfl, rfl, by omega, by omega⟩
def metZ (n : Nat) : List Value := (List.replicate n [Value.bool false, .int .u8 0, .int .u16 0]).flatten
def metC (y : List Int) (n k : Nat) : Array Value := ((metsN y k).flatMap Met.cells ++ metZ (n - k)).toArray
theorem metZ_len (n : Nat) : (metZ n).length = n * 3 := by
 induction n with
 | zero => rfl
 | succ n ih => unfold metZ at ih ⊢; rw [List.replicate_succ, List.flatten_cons, List.length_append, ih]; simp; omega
theorem mets_len (y : List Int) (k : Nat) : ((metsN y k).flatMap Met.cells).length = k * 3 := by
 induction k with
 | zero => rfl
 | succ k ih => rw [metsN_succ, List.flatMap_append, List.length_append, ih]; simp [Met.cells]; omega
theorem made_list (z : Array Value) (m : Nat) : (madeCells z m).toList = (List.range m).map (fun i => z[i % z.size]!) := by simp [madeCells]
theorem made_three (a b c : Value) (n : Nat) : madeCells #[a, b, c] (n * 3) = ((List.replicate n [a, b, c]).flatten).toArray := by
 apply Array.ext'
 rw [made_list]
 induction n with
 | zero => rfl
 | succ n ih =>
  rw [show (n + 1) * 3 = n * 3 + 1 + 1 + 1 by omega, List.range_succ, List.range_succ, List.range_succ]
  simp only [List.map_append, List.map_cons, List.map_nil]
  rw [ih, List.replicate_succ']
  have h0 : n * 3 % (#[a, b, c] : Array Value).size = 0 := by show n * 3 % 3 = 0; omega
  have h1 : (n * 3 + 1) % (#[a, b, c] : Array Value).size = 1 := by show (n * 3 + 1) % 3 = 1; omega
  have h2 : (n * 3 + 1 + 1) % (#[a, b, c] : Array Value).size = 2 := by show (n * 3 + 1 + 1) % 3 = 2; omega
  rw [h0, h1, h2]
  simp
theorem metC_zero (y : List Int) (n : Nat) : madeCells (Value.agg #[.bool false, .int .u8 0, .int .u16 0]).cells (n * 3) = metC y n 0 := by
 show madeCells #[.bool false, .int .u8 0, .int .u16 0] (n * 3) = _
 rw [made_three]
 rfl
theorem metC_len (y : List Int) {n k : Nat} (h : k ≤ n) : (metC y n k).size = n * 3 := by
 unfold metC
 rw [List.size_toArray, List.length_append, mets_len, metZ_len]
 omega
theorem metC_size (y : List Int) (n : Nat) : (metC y n n).size = n * 3 := metC_len y (Nat.le_refl _)
theorem metC_all (y : List Int) (n : Nat) : (metC y n n).toList = (metsN y n).flatMap Met.cells := by simp [metC, metZ]
theorem metC_next (y : List Int) {n k : Nat} (hk : k < n) : 0 + k * 3 + 3 ≤ (metC y n k).size ∧ stW (metC y n k) (0 + k * 3) (.agg (metB (y.drop (8 + 2 * k))).cells.toArray) = metC y n (k + 1) := by
 refine ⟨by rw [metC_len y (by omega)]; omega, ?_⟩
 obtain ⟨M, hM⟩ : ∃ M, metB (y.drop (8 + 2 * k)) = M := ⟨_, rfl⟩
 have hmc : M.cells.length = 3 := rfl
 have key : setFrom (metC y n k) (k * 3) M.cells = metC y n (k + 1) := by
  have hm := mets_len y k
  have hz := metZ_len (n - k)
  have e : metZ (n - k) = [Value.bool false, .int .u8 0, .int .u16 0] ++ metZ (n - (k + 1)) := by
   unfold metZ
   rw [show n - k = (n - (k + 1)) + 1 by omega, List.replicate_succ, List.flatten_cons]
  have hs : metC y n (k + 1) = ((metsN y k).flatMap Met.cells ++ M.cells ++ metZ (n - (k + 1))).toArray := by
   unfold metC
   rw [metsN_succ, List.flatMap_append, hM]
   simp
  rw [hs]
  unfold metC
  rw [setFrom_list _ _ _ (by rw [List.length_append, hm, hz, hmc]; omega), hmc]
  congr 1
  generalize (metsN y k).flatMap Met.cells = X at *
  rw [← hm, List.take_left, e]
  congr 1
  rw [show X.length + 3 = (X ++ [Value.bool false, .int .u8 0, .int .u16 0]).length by simp, ← List.append_assoc, List.drop_left]
 show (bif (Nat.beq (0 + k * 3) 0 && Nat.beq (metB (y.drop (8 + 2 * k))).cells.toArray.size (metC y n k).size) then (metB (y.drop (8 + 2 * k))).cells.toArray else setFrom (metC y n k) (0 + k * 3) (metB (y.drop (8 + 2 * k))).cells) = _
 rw [Nat.zero_add, hM]
 cases hq : (Nat.beq (k * 3) 0 && Nat.beq M.cells.toArray.size (metC y n k).size) with
 | false => exact key
 | true =>
  simp only [Bool.and_eq_true, Nat.beq_eq] at hq
  simp only [cond_true]
  rw [← key, hq.1]
  exact (setFrom_whole (metC y n k) M.cells.toArray hq.2.symm).symm
theorem ge_new8 {g : Nat} {w0 w : World} {L : PL} (k : Nat) {g4 : Nat} {T T2 : TypeId} {cs cs2 : Array Value} (hS : Stp (· = g) w0 w (lookM (den (· = g) w0 L))) (hne : k ≠ 101) (h : lookP L k = some (.blk g4 T cs)) (h2 : lookP L 101 = some (.blk g T2 cs2)) : w0.heap.size ≤ g4 :=
 (hS.lt k _ (by rw [lookM_den, h]; rfl) g4 rfl).2.resolve_right fun e => hS.apart k 101 _ _ (by rw [lookM_den, h]; rfl) (by rw [lookM_den, h2]; rfl) hne g4 rfl e
theorem bkUm_any (g b o c : Nat) (y : List Int) (D : Nat → Prop) (w : World) (hz : Byts y) (hb : Blk w g 230 #[.int .u32 0, .int .u16 0, .slice none 0 0]) (hr : RowD w D (some ⟨b, o, none⟩) y) (hD : ∀ x, D x → x < w.heap.size ∧ x ≠ g) (hc : y.length ≤ c) (hk : BkOk y) (hl : y.length ≤ 1048576) :
  Calls Tryz.prog 157 #[.pointer (some ⟨g, 0, none⟩), .slice (some ⟨b, o, none⟩) y.length c] w fun e w' => e = .returned .nilIface ∧ w.grownBy w' (some g) ∧ ∃ (A2 : Option Addr) (c2 : Nat), Blk w' g 230 #[.int .u32 (rd32 y 0), .int .u16 (rd16 (y.drop 4) 0), .slice A2 ((metsN y (bkN y)).length : Nat) c2] ∧ w'.ownsRow w.heap.size 233 3 (.slice A2 ((metsN y (bkN y)).length : Nat) c2) (metsN y (bkN y)).length ((metsN y (bkN y)).flatMap Met.cells) := by
 refine go_in Tryz.func157 rfl Tryz.ntmps157 [pt g 0, sv b o y.length c] fun a hE => ?_
 have hS := stp_blk1 101 hb
 have hS := stp_ry1 hS 110 hr (fun x hx => ⟨(hD x hx).1, (hD x hx).2⟩) hz
 have hkl := hk.len
 have hn16 := rd16_lt (hz.drop 6) 0
 have hbk : bkN y = (rd16 (y.drop 6) 0).toNat := rfl
 have hbl : bkLen y = 8 + 2 * (bkN y + bkN y % 2) := rfl
 refine rg hE hS [pu] (fun _ => kp [(4, .nilIface)]) kP0 fun _ a u hE hS => ?_
 refine wp_seq ?_
 refine rgp hE hS [pu, pu, pe (.bool false)] (fun _ => kp [(12, .bool false)]) kP0 (fun _ => ⟨kr (cbV (dfV (show ¬ (((y.length : Nat) : Int) < 8) by omega))), trivial⟩) fun _ a u hE hS => iff hE <| wp_skip ?_
 refine rgp hE hS [pu, pu, rsl 110 111, cl cB32 [111] [], pu, pu, st 101] kp0 (fun _ => kP [(101, some (.blk g 230 #[.int .u32 (rd32 (y.take 4) 0), .int .u16 0, .slice none 0 0]))]) (fun _ => ⟨kr (show 0 ≤ 4 ∧ 4 ≤ y.length ∧ y.length ≤ c by omega), kr (show 4 ≤ (y.take 4).length ∧ (y.take 4).length ≤ (c - 0) ∧ 0 < (y.take 4).length by simp only [List.length_take]; omega), trivial⟩) fun _ a u hE hS => ?_
 rw [show rd32 (y.take 4) 0 = rd32 y 0 from rd32_cut y 0 4 (by omega)] at hS
 refine rgp hE hS [pu, pu, rsl 110 111, cl cB16 [111] [], pu, pu, st 101] kp0 (fun _ => kP [(101, some (.blk g 230 #[.int .u32 (rd32 y 0), .int .u16 (rd16 ((y.take 6).drop 4) 0), .slice none 0 0]))]) (fun _ => ⟨kr (show 4 ≤ 6 ∧ 6 ≤ y.length ∧ y.length ≤ c by omega), kr (show 2 ≤ ((y.take 6).drop 4).length ∧ ((y.take 6).drop 4).length ≤ (c - 4) ∧ 0 < ((y.take 6).drop 4).length by simp only [List.length_drop, List.length_take]; omega), trivial⟩) fun _ a u hE hS => ?_
 rw [rd16_cut y 4 6 (by omega)] at hS
 refine rgp hE hS [pu, rsl 110 111, cl cB16 [111] [], pe (.int .i64 (bkN y : Nat)), pu] (fun _ => kp [(5, .int .i64 (bkN y : Nat))]) kP0 (fun _ => ⟨kr (show 6 ≤ y.length ∧ y.length ≤ y.length ∧ y.length ≤ c by omega), kr (show 2 ≤ (y.drop 6).length ∧ (y.drop 6).length ≤ (c - 6) ∧ 0 < (y.drop 6).length by simp only [List.length_drop]; omega), kr (ciV (show IntKind.i64.wrap (rd16 (y.drop 6) 0) = ((bkN y : Nat) : Int) from (wiV _ (by omega)).trans (by omega))), trivial⟩) fun _ a u hE hS => ?_
 refine wp_seq ?_
 by_cases hn0 : bkN y = 0
 ·skip
  refine rgp hE hS [pu, pe (.bool true)] (fun _ => kp [(31, .bool true)]) kP0 (fun _ => ⟨kr (cbV (ebV (show (((bkN y : Nat) : Int) : Int) = 0 by omega))), trivial⟩) fun _ a u hE hS => ift hE ?_
  refine rg hE hS [pu] kp0 kP0 fun _ a u hE hS => ?_
  refine wp_ret (thR ?_)
  exact ret1 hE Tryz.results157 .nilIface ⟨rfl, hS.grownBy (some g) (fun _ e => by rw [e]), none, 0, (by rw [hn0]; exact pcB hS 101), (by rw [hn0]; exact World.ownsRow_nil _ _ _ _)⟩
 refine rgp hE hS [pu, pe (.bool false)] (fun _ => kp [(31, .bool false)]) kP0 (fun _ => ⟨kr (cbV (nbV (show (((bkN y : Nat) : Int) : Int) ≠ 0 by omega))), trivial⟩) fun _ a u hE hS => iff hE <| wp_skip ?_
 refine wp_seq ?_
 refine rgp hE hS [pu, pe (.bool false)] (fun _ => kp [(33, .bool false)]) kP0 (fun _ => ⟨kr (cbV (dfV (show ¬ (((bkN y : Nat) : Int) > 65535) by omega))), trivial⟩) fun _ a u hE hS => iff hE <| wp_skip ?_
 refine wp_seq ?_
 refine rgp hE hS [pu, pu, pu, pe (.int .i64 ((bkN y * 2 : Nat) : Int)), pe (.int .i64 ((8 + bkN y * 2 : Nat) : Int)), pe (.bool false)] (fun _ => kp [(40, .bool false)]) kP0 (fun _ => ⟨kr (ciV (show IntKind.i64.wrap (((bkN y : Nat) : Int) * (2 : Int)) = ((bkN y * 2 : Nat) : Int) from by rw [wiV _ (by omega)]; omega)), kr (ciV (show IntKind.i64.wrap ((8 : Int) + ((bkN y * 2 : Nat) : Int)) = ((8 + bkN y * 2 : Nat) : Int) from by rw [wiV _ (by omega)]; omega)), kr (cbV (dfV (show ¬ (((y.length : Nat) : Int) < ((8 + bkN y * 2 : Nat) : Int)) by omega))), trivial⟩) fun _ a u hE hS => iff hE <| wp_skip ?_
 refine rgp hE hS [pu, pu, mks .i64 104 elemMet (bkN y) (metC y (bkN y) 0), pu, pu, st 101] kp0 (fun p11 => kP [(101, some (.blk g 230 #[.int .u32 (rd32 y 0), .int .u16 (rd16 (y.drop 4) 0), sv (p11 2).g 0 (bkN y) (bkN y)])), (104, some (.blk (p11 2).g 233 ((metC y (bkN y) 0))))]) (fun _ => ⟨kr (show bkN y * 4 ≤ 140737488355328 ∧ bkN y ≤ 140737488355328 ∧ madeCells (Value.agg #[.bool false, .int .u8 0, .int .u16 0]).cells (bkN y * 3) = metC y (bkN y) 0 from ⟨by omega, by omega, metC_zero y (bkN y)⟩), trivial⟩) fun p11 a u hE hS => ?_
 refine wp_seq ?_
 refine rg hE hS [pu, pu] (fun _ => kn [(47, .int .i64 (bkN y : Nat)), (48, .int .i64 0)] [0, 1, 4]) (fun _ => kN [] [101, 104, 110]) fun _ a u hE hS => ?_
 refine range_up hE hS 48 (bkN y) (fun _ _ => kd [48, 49, 70] []) (fun k x => kP [(104, some (.blk (p11 2).g 233 ((metC y (bkN y) k))))]) (fun k (x : Unit) => True) () (by omega) (trivial) (fun k x a u hlt hI hE hS K hK RK hRK => ?_) fun _ a u hI hE hS => ?_
 ·obtain hk1 := hI
  refine rg hE hS [pu, pu] (fun _ => kp [(6, .int .i64 (k : Nat))]) kP0 fun _ a u hE hS => ?_
  refine rg hE hS [nw 93] (fun p14 => kp [(7, pt (p14 0).g 0)]) (fun p14 => kP [(93, some (.blk (p14 0).g 233 #[.bool false, .int .u8 0, .int .u16 0]))]) fun p14 a u hE hS => ?_
  refine rgp hE hS [pu, pe (.int .i64 ((2 * k : Nat) : Int)), pe (.int .i64 ((8 + 2 * k : Nat) : Int)), pu] (fun _ => kp [(8, .int .i64 (8 + 2 * k : Nat))]) kP0 (fun _ => ⟨kr (ciV (show IntKind.i64.wrap ((2 : Int) * ((k : Nat) : Int)) = ((2 * k : Nat) : Int) from by rw [wiV _ (by omega)]; omega)), kr (ciV (show IntKind.i64.wrap ((8 : Int) + ((2 * k : Nat) : Int)) = ((8 + 2 * k : Nat) : Int) from by rw [wiV _ (by omega)]; omega)), trivial⟩) fun _ a u hE hS => ?_
  refine wp_seq ?_
  refine rgp hE hS [pu, pu, pu, pe (.int .i64 ((8 + 2 * k + 2 : Nat) : Int)), rsl 110 112, cu 158 [112] [93] (fun _ => .nilIface) (fun _ => [some (.blk (p14 0).g 233 (metB ((y.take (8 + 2 * k + 2)).drop (8 + 2 * k))).cells.toArray)]), pu] (fun _ => kp [(9, .nilIface)]) (fun _ => kP [(93, some (.blk (p14 0).g 233 ((metB ((y.take (8 + 2 * k + 2)).drop (8 + 2 * k))).cells.toArray)))]) (fun p16 => ⟨kr (ciV (show IntKind.i64.wrap (((8 + 2 * k : Nat) : Int) + (2 : Int)) = ((8 + 2 * k + 2 : Nat) : Int) from by rw [wiV _ (by omega)]; omega)), kr (show (8 + 2 * k) ≤ (8 + 2 * k + 2) ∧ (8 + 2 * k + 2) ≤ y.length ∧ y.length ≤ c by omega), kr (cu_ub (olds := (· = g)) (w0 := w) (D := D) (T := 233) (cs := #[.bool false, .int .u8 0, .int .u16 0]) (A := some ⟨(p16 4).g, (p16 4).c, none⟩) (l := ((y.take (8 + 2 * k + 2)).drop (8 + 2 * k))) (g := (p14 0).g) (f := 158) (cs' := (metB ((y.take (8 + 2 * k + 2)).drop (8 + 2 * k))).cells.toArray) 112 93 _ ((c - (8 + 2 * k))) rfl fun w4 hb4 hr4 hD4 hz4 => metUm_any (p14 0).g (p16 4).g (p16 4).c ((c - (8 + 2 * k))) _ D w4 hz4 hb4 hr4 hD4 (by simp only [List.length_drop, List.length_take]; omega) (by simp only [List.length_drop, List.length_take]; omega) (by rw [rd16_cut y (8 + 2 * k) (8 + 2 * k + 2) (by omega)]; exact hk.met k hlt)), trivial⟩) fun _ a u hE hS => ?_
  rw [show metB ((y.take (8 + 2 * k + 2)).drop (8 + 2 * k)) = metB (y.drop (8 + 2 * k)) by unfold metB; rw [rd16_cut y (8 + 2 * k) (8 + 2 * k + 2) (by omega)]] at hS
  refine rg hE hS [pu, pu] (fun _ => kp [(61, .bool false)]) kP0 fun _ a u hE hS => iff hE <| wp_skip ?_
  refine dgE hE hS [pu, pu, pu, ld 101, pu, ld 93, ix, sx 104 (metC y (bkN y) (k + 1))] kp0 (fun _ => kP [(104, some (.blk (p11 2).g 233 ((metC y (bkN y) (k + 1)))))]) (fun _ => ⟨kr (show k < bkN y from hlt), kr (show 0 + k * 3 + 3 ≤ (metC y (bkN y) k).size ∧ stW (metC y (bkN y) k) (0 + k * 3) (.agg (metB (y.drop (8 + 2 * k))).cells.toArray) = metC y (bkN y) (k + 1) from metC_next y hlt), trivial⟩) fun _ a u hE hS => ?_
  exact hK () a u _ _ trivial hE hS (by kernel_rfl)
 refine rg hE hS [pu] kp0 kP0 fun _ a u hE hS => ?_
 refine wp_ret ?_
 have hge := ge_new8 (g := g) (g4 := (p11 2).g) (T := 233) (cs := metC y (bkN y) (bkN y)) (T2 := 230) (cs2 := #[.int .u32 (rd32 y 0), .int .u16 (rd16 (y.drop 4) 0), .slice (some ⟨(p11 2).g, 0, none⟩) (bkN y) (bkN y)]) 104 hS (by decide) (by kernel_rfl) (by kernel_rfl)
 have hrow := own_blk (B := w.heap.size) (size := 3) (n := bkN y) (pcB (g := (p11 2).g) (T := 233) (cs := metC y (bkN y) (bkN y)) hS 104) hge (metC_size y (bkN y)) (by simp only [maxLen]; omega)
 rw [metC_all] at hrow
 have hblk := pcB (g := g) (T := 230) (cs := #[.int .u32 (rd32 y 0), .int .u16 (rd16 (y.drop 4) 0), .slice (some ⟨(p11 2).g, 0, none⟩) (bkN y) (bkN y)]) hS 101
 exact ret1 hE Tryz.results157 .nilIface ⟨rfl, hS.grownBy (some g) (fun _ e => by rw [e]), some ⟨(p11 2).g, 0, none⟩, bkN y, (by rw [metsN_len]; exact hblk), (by rw [metsN_len]; exact hrow)⟩

abbrev ckMetsU (B : Nat) (l : List Blo) : Pc := .ck (ckRs B 233 3 (fun x : Blo => x.mets.val) (fun x => x.mets.l.flatMap Met.cells) (fun x => x.mets.l.length) l)
theorem stp_metsU {olds : Nat → Prop} {w0 w : World} {L : PL} {B : Nat} {l : List Blo} (h : Stp olds w0 w (lookM (den olds w0 L))) (k k2 : Nat) (x : Blo) (hne : k ≠ k2) (hk : lookP L k = some (ckMetsU B l) := by kernel_rfl) (hk2 : lookP L k2 = some (.row B 233 3 x.mets.val x.mets.l.length (x.mets.l.flatMap Met.cells)) := by kernel_rfl) : Stp olds w0 w (lookM (den olds w0 ((k, some (ckMetsU B (l ++ [x]))) :: (k2, none) :: L))) :=
 Stp.merge h k k2 x (by rw [lookM_den, hk]; rfl) (by rw [lookM_den, hk2]; rfl) hne
theorem own_metsU {olds : Nat → Prop} {w0 w : World} {L : PL} {B : Nat} {l : List Blo} (h : Stp olds w0 w (lookM (den olds w0 L))) (k : Nat) (x : Blo) (hx : x ∈ l) (hk : lookP L k = some (ckMetsU B l) := by kernel_rfl) : w.ownsRow B 233 3 x.mets.val x.mets.l.length (x.mets.l.flatMap Met.cells) := (show (Pc.den olds w0 (ckMetsU B l)).ok w from h.ok k _ (by rw [lookM_den, hk]; rfl)) x hx
theorem stp_metsU0 {olds : Nat → Prop} {w0 w : World} {L : PL} (h : Stp olds w0 w (lookM (den olds w0 L))) (k B : Nat) : Stp olds w0 w (lookM (den olds w0 ((k, some (ckMetsU B [])) :: L))) := ckRs_nil h k B 233 3 _ _ _
theorem um_8 (g b o c : Nat) (z : List Int) (D : Nat → Prop) (w : World) {L : Nat} (hd : Hd z false 11 205 L) (hb : Blk w g 182 #[.int .u32 0, .slice none 0 0, .int .u32 0]) (hr : RowD w D (some ⟨b, o, none⟩) z) (hD : ∀ x, D x → x < w.heap.size ∧ x ≠ g) (hc : z.length ≤ c) (hzl : z.length = 4 * (L + 1)) (n : Nat) (hcg : CgOk (z.drop 8) n) :
  Calls Tryz.prog 156 #[.pointer (some ⟨g, 0, none⟩), .slice (some ⟨b, o, none⟩) z.length c] w fun e w' => e = .returned .nilIface ∧ w.grownBy w' (some g) ∧ ∃ (A : Option Addr) (c2 : Nat) (l : List Blo), Blk w' g 182 #[.int .u32 (rd32 (z.drop 4) 0), .slice A (l.length : Nat) c2, .int .u32 (rd32 ((z.drop 8).drop (bkOff (z.drop 8) n)) 0)] ∧ InRows w' w.heap.size w'.heap.size 3 A l.length (l.flatMap Blo.cells) ∧ (∀ x ∈ l, InRows w' w.heap.size w'.heap.size 3 x.mets.A x.mets.l.length (x.mets.l.flatMap Met.cells)) ∧ l.map Blo.cln = bksN (z.drop 8) n := by
 refine go_in Tryz.func156 rfl Tryz.ntmps156 [pt g 0, sv b o z.length c] fun a hE => ?_
 have hS := stp_blk1 101 hb
 have hS := stp_ry1 hS 110 hr (fun x hx => ⟨(hD x hx).1, (hD x hx).2⟩) hd.byts
 have h4 := hd.len
 have hL : L ≤ 65535 := by have h1 := hd.ln; have h2 := rd16_lt hd.byts 2; omega
 obtain ⟨y, hy⟩ : ∃ y, z.drop 8 = y := ⟨_, rfl⟩
 rw [hy] at hcg
 have hyl : y.length = z.length - 8 := by rw [← hy]; exact List.length_drop
 have hzy : Byts y := by rw [← hy]; exact hd.byts.drop 8
 have hsl := hcg.len
 have hn0 := hcg.pos
 have hou := bkOff_up y n
 refine rg hE hS [pu] (fun _ => kp [(4, .nilIface)]) kP0 fun _ a u hE hS => ?_
 refine wp_seq ?_
 refine rgp hE hS [pu, pu, pe (.bool false)] (fun _ => kp [(13, .bool false)]) kP0 (fun _ => ⟨kr (cbV (dfV (show ¬ (((z.length : Nat) : Int) < 12) by omega))), trivial⟩) fun _ a u hE hS => iff hE <| wp_skip ?_
 refine rg hE hS [nw 103] (fun p3 => kp [(5, pt (p3 0).g 0)]) (fun p3 => kP [(103, some (.blk (p3 0).g 83 #[.bool false, .int .u8 0, .int .u8 0, .int .u16 0]))]) fun p3 a u hE hS => ?_
 refine wp_seq ?_
 refine rgp hE hS [pu, cu 71 [110] [103] (fun _ => .nilIface) (fun _ => [some (.blk (p3 0).g 83 #[.bool false, .int .u8 11, .int .u8 205, .int .u16 (L : Nat)])]), pu] (fun _ => kp [(6, .nilIface)]) (fun _ => kP [(103, some (.blk (p3 0).g 83 #[.bool false, .int .u8 11, .int .u8 205, .int .u16 (L : Nat)]))]) (fun _ => ⟨kr (cu_hum (w0 := w) (olds := (· = g)) hd (D := D) 110 103 b o z.length c (p3 0).g rfl hc), trivial⟩) fun _ a u hE hS => ?_
 refine rg hE hS [pu, pu] (fun _ => kp [(18, .bool false)]) kP0 fun _ a u hE hS => iff hE <| wp_skip ?_
 refine wp_seq ?_
 refine rg hE hS [pu, ld 103, pu] (fun _ => kp [(22, .bool false)]) kP0 fun _ a u hE hS => iff hE <| wp_skip ?_
 refine rgp hE hS [pu, pu, rsl 110 111, cl cB32 [111] [], pu, pu, st 101] kp0 (fun _ => kP [(101, some (.blk g 182 #[.int .u32 (rd32 (z.drop 4) 0), .slice none 0 0, .int .u32 0]))]) (fun _ => ⟨kr (show 4 ≤ z.length ∧ z.length ≤ z.length ∧ z.length ≤ c by omega), kr (show 4 ≤ (z.drop 4).length ∧ (z.drop 4).length ≤ (c - 4) ∧ 0 < (z.drop 4).length by simp only [List.length_drop]; omega), trivial⟩) fun _ a u hE hS => ?_
 refine rgp hE hS [pu, pu, pe (.int .i64 ((z.length - 4 : Nat) : Int)), pu] (fun _ => kp [(7, .int .i64 ((z.length - 4 : Nat) : Int))]) kP0 (fun _ => ⟨kr (ciV (show IntKind.i64.wrap (((z.length : Nat) : Int) - 4) = ((z.length - 4 : Nat) : Int) from (wiV _ (by omega)).trans (by omega))), trivial⟩) fun _ a u hE hS => ?_
 refine rgp hE hS [pu, pu, pu, rsl 110 111, cl cB32 [111] [], pu, pu, st 101] kp0 (fun _ => kP [(101, some (.blk g 182 #[.int .u32 (rd32 (z.drop 4) 0), .slice none 0 0, .int .u32 (rd32 (z.drop (z.length - 4)) 0)]))]) (fun _ => ⟨kr (show (z.length - 4) ≤ z.length ∧ z.length ≤ z.length ∧ z.length ≤ c by omega), kr (show 4 ≤ (z.drop (z.length - 4)).length ∧ (z.drop (z.length - 4)).length ≤ (c - (z.length - 4)) ∧ 0 < (z.drop (z.length - 4)).length by simp only [List.length_drop]; omega), trivial⟩) fun _ a u hE hS => ?_
 refine rg hE hS [pu] (fun _ => kp [(8, .int .i64 ((8 + 0 : Nat) : Int))]) kP0 fun _ a u hE hS => ?_
 refine rg hE hS [pu, nw 105, pu, pu, st 101] (fun _ => kn [] [0, 1, 4, 7, 8]) (fun p11 => kN [(101, some (.blk g 182 #[.int .u32 (rd32 (z.drop 4) 0), sv (p11 1).g 0 0 0, .int .u32 (rd32 (z.drop (z.length - 4)) 0)])), (105, some (.blk (p11 1).g 230 #[]))] [103, 110]) fun p11 a u hE hS => ?_
 have hge := ge_new8 (g := g) (g4 := (p11 1).g) (T := 230) (cs := #[]) (T2 := 182) (cs2 := #[.int .u32 (rd32 (z.drop 4) 0), .slice (some ⟨(p11 1).g, 0, none⟩) 0 0, .int .u32 (rd32 (z.drop (z.length - 4)) 0)]) 105 hS (by decide) (by kernel_rfl) (by kernel_rfl)
 have hS := stp_b2r (B := w.heap.size) (g := (p11 1).g) (T := 230) (cs := #[]) hS 105 1 3 0 (by decide) hge (by rfl) (by simp [maxLen])
 have hS := stp_metsU0 hS 2 w.heap.size
 refine wp_seq ?_
 refine wp_block ?_
 refine loop_k hE hS n (fun k x => kd [8] [(8, .int .i64 ((8 + bkOff y k : Nat) : Int))]) (fun k x => kN [(101, some (.blk g 182 #[.int .u32 (rd32 (z.drop 4) 0), .slice x.p.a x.n x.p.c, .int .u32 (rd32 (z.drop (z.length - 4)) 0)])), (1, some (.row w.heap.size 230 3 (.slice x.p.a x.n x.p.c) x.n x.xs)), (2, some (ckMetsU w.heap.size x.y))] [110]) (fun k (x : Lx (List Blo)) => x.n = k ∧ x.xs = x.y.flatMap Blo.cells ∧ x.y.map Blo.cln = bksN y k ∧ x.y.length = k) ⟨⟨0, 0, undef, some ⟨(p11 1).g, 0, none⟩⟩, 0, [], []⟩ (⟨rfl, rfl, rfl, rfl⟩) ?_
 intro k x a u hkk hI hE hS K hK
 obtain ⟨hk1, hk2, hk3, hk4⟩ := hI
 obtain ⟨xp, xn, xs, l1⟩ := x
 simp only at hk1 hk2 hk3 hk4
 by_cases hlt : k < n
 ·skip
  have hck := hcg.ok k hlt
  have hyk : y.drop (bkOff y k) = z.drop (8 + bkOff y k) := by rw [← hy, List.drop_drop]
  rw [hyk] at hck
  have hcl := hck.len
  have hdl : (z.drop (8 + bkOff y k)).length = z.length - (8 + bkOff y k) := List.length_drop
  have hnx : bkOff y (k + 1) = bkOff y k + bkLen (z.drop (8 + bkOff y k)) := by rw [← hyk]; rfl
  obtain ⟨Y, hY⟩ : ∃ Y, z.drop (8 + bkOff y k) = Y := ⟨_, rfl⟩
  rw [hY] at hck hcl hdl hnx hyk
  have hYl : bkLen Y = 8 + 2 * ev (bkN Y) := rfl
  have hYe : ev (bkN Y) = bkN Y + bkN Y % 2 := rfl
  refine wp_seq ?_
  refine rgp hE hS [pu, pu, pe (.bool true)] (fun _ => kp [(46, .bool true)]) kP0 (fun _ => ⟨kr (cbV (dtV (show ((8 + bkOff y k : Nat) : Int) < ((z.length - 4 : Nat) : Int) by omega))), trivial⟩) fun _ a u hE hS => ift hE <| wp_skip <| wp_block ?_
  refine rg hE hS [nw 93] (fun p13 => kp [(9, pt (p13 0).g 0)]) (fun p13 => kP [(93, some (.blk (p13 0).g 230 #[.int .u32 0, .int .u16 0, .slice none 0 0]))]) fun p13 a u hE hS => ?_
  refine wp_seq ?_
  refine rgp hE hS [pu, pu, rsl 110 112, cu 157 [112] [93, 94] (fun _ => .nilIface) (fun x => [some (.blk (p13 0).g 230 #[.int .u32 (rd32 (z.drop (8 + bkOff y k)) 0), .int .u16 (rd16 ((z.drop (8 + bkOff y k)).drop 4) 0), .slice x.a ((metsN (z.drop (8 + bkOff y k)) (bkN (z.drop (8 + bkOff y k)))).length : Nat) x.c]), some (.row w.heap.size 233 3 (.slice x.a ((metsN (z.drop (8 + bkOff y k)) (bkN (z.drop (8 + bkOff y k)))).length : Nat) x.c) (metsN (z.drop (8 + bkOff y k)) (bkN (z.drop (8 + bkOff y k)))).length ((metsN (z.drop (8 + bkOff y k)) (bkN (z.drop (8 + bkOff y k)))).flatMap Met.cells))]), pu] (fun _ => kp [(10, .nilIface)]) (fun p14 => kP [(93, some (.blk (p13 0).g 230 #[.int .u32 (rd32 (z.drop (8 + bkOff y k)) 0), .int .u16 (rd16 ((z.drop (8 + bkOff y k)).drop 4) 0), .slice (p14 3).a ((metsN (z.drop (8 + bkOff y k)) (bkN (z.drop (8 + bkOff y k)))).length : Nat) (p14 3).c])), (94, some (.row w.heap.size 233 3 (.slice (p14 3).a ((metsN (z.drop (8 + bkOff y k)) (bkN (z.drop (8 + bkOff y k)))).length : Nat) (p14 3).c) ((metsN (z.drop (8 + bkOff y k)) (bkN (z.drop (8 + bkOff y k)))).length) ((metsN (z.drop (8 + bkOff y k)) (bkN (z.drop (8 + bkOff y k)))).flatMap Met.cells)))]) (fun p14 => ⟨kr (show (8 + bkOff y k) ≤ z.length ∧ z.length ≤ z.length ∧ z.length ≤ c by omega), kr (cu_ubr (olds := (· = g)) (w0 := w) (D := D) (T := 230) (cs := #[.int .u32 0, .int .u16 0, .slice none 0 0]) (A := some ⟨(p14 2).g, (p14 2).c, none⟩) (l := (z.drop (8 + bkOff y k))) (g := (p13 0).g) (f := 157) (cs' := fun A c => #[.int .u32 (rd32 (z.drop (8 + bkOff y k)) 0), .int .u16 (rd16 ((z.drop (8 + bkOff y k)).drop 4) 0), .slice A ((metsN (z.drop (8 + bkOff y k)) (bkN (z.drop (8 + bkOff y k)))).length : Nat) c]) 233 3 _ _ 112 93 94 _ ((c - (8 + bkOff y k))) (u := none) (by decide) rfl fun w4 hb4 hr4 hD4 hz4 => bkUm_any (p13 0).g (p14 2).g (p14 2).c ((c - (8 + bkOff y k))) _ D w4 hz4 hb4 hr4 hD4 (by rw [hY]; omega) (by rw [hY]; exact hck) (by rw [hY]; omega)), trivial⟩) fun p14 a u hE hS => ?_
  rw [hY] at hS
  refine rg hE hS [pu, pu] (fun _ => kp [(52, .bool false)]) kP0 fun _ a u hE hS => iff hE <| wp_skip ?_
  refine dgp hE hS [pu, pu, pu, pu, ld 101, ld 93, nw 92, ap 1 [92], pu, pu, st 101] kp0 (fun p16 => kP [(101, some (.blk g 182 #[.int .u32 (rd32 (z.drop 4) 0), .slice (p16 7).a (xn + 1) (p16 7).c, .int .u32 (rd32 (z.drop (z.length - 4)) 0)])), (1, some (.row w.heap.size 230 3 (.slice (p16 7).a (xn + 1) (p16 7).c) (xn + 1) (xs ++ ([.int .u32 (rd32 Y 0), .int .u16 (rd16 (Y.drop 4) 0), .slice (p14 3).a ((metsN Y (bkN Y)).length : Nat) (p14 3).c] : List Value))))]) (fun _ => ⟨kr (show w.heap.size ≤ w.heap.size ∧ (xn + 1) * 32 ≤ 140737488355328 ∧ ∀ u ∈ ([.int .u32 (rd32 Y 0), .int .u16 (rd16 (Y.drop 4) 0), .slice (p14 3).a ((metsN Y (bkN Y)).length : Nat) (p14 3).c] : List Value), u.oneCell' = true from ⟨Nat.le_refl _, by omega, by intro u hu; simp at hu; rcases hu with rfl | rfl | rfl <;> rfl⟩), trivial⟩) fun p16 a u hE hS => ?_
  have hml : (metsN Y (bkN Y)).length = bkN Y := metsN_len Y (bkN Y)
  have hmev : ev (metsN Y (bkN Y)).length = ev (bkN Y) := by rw [hml]
  refine rgE hE hS [pu, cu 102 [93] [] (fun _ => .int .i64 ((8 + 2 * ev (metsN Y (bkN Y)).length : Nat) : Int)) (fun _ => []), pe (.int .i64 ((8 + bkOff y (k + 1) : Nat) : Int)), pu] (fun _ => kp [(8, .int .i64 (8 + bkOff y (k + 1) : Nat))]) kP0 (fun _ => ⟨kr (cu_blen (olds := (· = g)) (w0 := w) (g := (p13 0).g) (m := rd32 Y 0) (f := rd16 (Y.drop 4) 0) (A := (p14 3).a) (n := (metsN Y (bkN Y)).length) (c := (p14 3).c) 93 (by rw [metsN_len]; omega)), kr (ciV (show IntKind.i64.wrap (((8 + bkOff y k : Nat) : Int) + ((8 + 2 * ev (metsN Y (bkN Y)).length : Nat) : Int)) = ((8 + bkOff y (k + 1) : Nat) : Int) from by rw [wiV _ (by omega)]; omega)), trivial⟩) fun _ a u hE hS => ?_
  have hS := stp_metsU (B := w.heap.size) (l := l1) hS 2 94 (⟨rd32 Y 0, rd16 (Y.drop 4) 0, ⟨(p14 3).a, (p14 3).c, metsN Y (bkN Y)⟩⟩ : Blo) (by decide)
  exact hK ⟨(p16 7), xn + 1, xs ++ ([.int .u32 (rd32 Y 0), .int .u16 (rd16 (Y.drop 4) 0), .slice (p14 3).a ((metsN Y (bkN Y)).length : Nat) (p14 3).c] : List Value), l1 ++ [(⟨rd32 Y 0, rd16 (Y.drop 4) 0, ⟨(p14 3).a, (p14 3).c, metsN Y (bkN Y)⟩⟩ : Blo)]⟩ a u _ _ hlt ⟨congrArg (· + 1) hk1, by show xs ++ _ = (l1 ++ _).flatMap _; rw [hk2, List.flatMap_append]; rfl, by show (l1 ++ [_]).map _ = _; rw [List.map_append, hk3, bksN_succ, hyk]; rfl, by show (l1 ++ [_]).length = _; simp [hk4]⟩ hE hS (by kernel_rfl)
 ·have hNk : n = k := by omega
  rw [hNk] at hsl
  refine wp_seq ?_
  refine rgp hE hS [pu, pu, pe (.bool false)] (fun _ => kp [(46, .bool false)]) kP0 (fun _ => ⟨kr (cbV (dfV (show ¬ (((8 + bkOff y k : Nat) : Int) < ((z.length - 4 : Nat) : Int)) by omega))), trivial⟩) fun _ a u hE hS => iff hE ?_
  refine wp_exit ?_
  refine rg hE hS [pu] kp0 kP0 fun _ a u hE hS => ?_
  refine wp_ret ?_
  have hrow := InRows.of_own (pcR (base := w.heap.size) (e := 230) (size := 3) (v := .slice xp.a xn xp.c) (n := xn) (xs := xs) hS 1)
  have hown := fun x hx => own_metsU (B := w.heap.size) (l := l1) hS 2 x hx
  have hblk := pcB (g := g) (T := 182) (cs := #[.int .u32 (rd32 (z.drop 4) 0), .slice xp.a xn xp.c, .int .u32 (rd32 (z.drop (z.length - 4)) 0)]) hS 101
  have hxl : xn = l1.length := by omega
  rw [hxl, hk2] at hrow
  rw [hxl, show z.drop (z.length - 4) = y.drop (bkOff y k) by rw [← hy, List.drop_drop, hy]; congr 1; omega] at hblk
  exact ret1 hE Tryz.results156 .nilIface ⟨rfl, hS.grownBy (some g) (fun _ e => by rw [e]), xp.a, xp.c, l1, (by rw [hy, hNk]; exact hblk), hrow, (fun x hx => InRows.of_own (hown x hx)), by rw [hy, hNk]; exact hk3⟩

end Go.Proofs.YtmmfpgoodfgkbaaGreatDoor
