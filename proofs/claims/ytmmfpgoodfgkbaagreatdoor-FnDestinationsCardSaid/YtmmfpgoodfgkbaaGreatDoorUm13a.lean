/-
  THE WALKS of the package's reading of the parts of transport-wide feedback: bits of a byte, chunks, deltas; families of blocks. Condition: the bytes lie in memory, apart from the block that is filled.
-/
import Derived.Test.YtmmfpgoodfgkbaaGreatDoorUmK
import Derived.Test.YtmmfpgoodfgkbaaGreatDoorRtr
namespace Go.Proofs.YtmmfpgoodfgkbaaGreatDoor
open Go Go.RowKit
set_option maxHeartbeats 4000000
set_option maxRecDepth 100000
set_option linter.unusedVariables false
set_option linter.unusedSimpArgs false

def keysF (l : List (Nat × TypeId × Array Value)) : List Nat := l.map Prod.fst
def ckF (l : List (Nat × TypeId × Array Value)) : Ck :=
 ⟨fun g => g ∈ keysF l, fun w => (keysF l).Nodup ∧ ∀ x ∈ l, Blk w x.1 x.2.1 x.2.2, fun w w' hk h => ⟨h.1, fun x hx => (hk x.1 (List.mem_map_of_mem hx)).trans (h.2 x hx)⟩⟩
abbrev pcK (l : List (Nat × TypeId × Array Value)) : Pc := .ck (ckF l)
section
variable {olds : Nat → Prop} {w0 w : World} {L : PL}
theorem stp_fam0 (h : Stp olds w0 w (lookM (den olds w0 L))) (k : Nat) : Stp olds w0 w (lookM (den olds w0 ((k, some (pcK [])) :: L))) :=
 h.then_ (NL := [(k, _)]) (stp_one k (ckF []) (.inl (World.grownBy.refl w _)) ⟨List.nodup_nil, fun x hx => by cases hx⟩ fun g hg => by cases hg)
theorem beq_no {k n : Nat} (h : Nat.beq k n = false) : n ≠ k := fun e => by rw [e, Nat.beq_refl] at h; cases h
theorem stp_famadd (h : Stp olds w0 w (lookM (den olds w0 L))) (k k2 : Nat) {l : List (Nat × TypeId × Array Value)} {g : Nat} {T : TypeId} {cs : Array Value} (hne : k ≠ k2) (hk : lookP L k = some (pcK l) := by kernel_rfl) (hk2 : lookP L k2 = some (.blk g T cs) := by kernel_rfl) :
  Stp olds w0 w (lookM (den olds w0 ((k, some (pcK (l ++ [(g, T, cs)]))) :: (k2, none) :: L))) := by
 have m1 : lookM (den olds w0 L) k = some (ckF l) := by rw [lookM_den, hk]; rfl
 have m2 : lookM (den olds w0 L) k2 = some (ckB g T cs) := by rw [lookM_den, hk2]; rfl
 have key : ∀ n c, lookM (den olds w0 ((k, some (pcK (l ++ [(g, T, cs)]))) :: (k2, none) :: L)) n = some c → (n = k ∧ c = ckF (l ++ [(g, T, cs)])) ∨ (n ≠ k ∧ n ≠ k2 ∧ lookM (den olds w0 L) n = some c) := fun n c hc => by
  simp only [den, lookM] at hc
  cases h1 : Nat.beq k n with
  | true => rw [h1] at hc; simp only [cond_true, Option.map_some, Option.some.injEq] at hc; exact .inl ⟨(Nat.eq_of_beq_eq_true h1).symm, hc.symm⟩
  | false =>
   rw [h1] at hc
   simp only [cond_false] at hc
   cases h2 : Nat.beq k2 n with
   | true => rw [h2] at hc; cases hc
   | false => rw [h2] at hc; exact .inr ⟨beq_no h1, beq_no h2, hc⟩
 have hbl : ∀ y, (ckF (l ++ [(g, T, cs)])).blks y → (ckF l).blks y ∨ y = g := fun y hy => by
  have hy : y ∈ (l ++ [(g, T, cs)]).map Prod.fst := hy
  rw [List.map_append, List.mem_append] at hy
  exact hy.imp id fun h => List.mem_singleton.1 h
 have hg : g ∉ l.map Prod.fst := fun e => h.apart k k2 _ _ m1 m2 hne g e rfl
 have hok := h.ok k _ m1
 refine ⟨h.os, h.tape, h.output, h.size, h.kept, fun n c hc => ?_, fun n c hc y hy => ?_, fun n n' c c' hc hc' hnn y hy hy' => ?_⟩
 ·rcases key n c hc with ⟨_, rfl⟩ | ⟨_, _, h3⟩
  ·refine ⟨?_, fun x hx => ?_⟩
   ·show ((l ++ [(g, T, cs)]).map Prod.fst).Nodup
    rw [List.map_append, List.nodup_append]
    refine ⟨hok.1, by simp, fun a ha b hb => ?_⟩
    have hb : b = g := by simpa using hb
    rw [hb]
    exact fun e => hg (e ▸ ha)
   ·rcases List.mem_append.1 hx with hx | hx
    ·exact hok.2 x hx
    ·rw [List.mem_singleton.1 hx]; exact h.blk k2 m2
  ·exact h.ok n c h3
 ·rcases key n c hc with ⟨_, rfl⟩ | ⟨_, _, h3⟩
  ·rcases hbl y hy with hy | rfl
   ·exact h.lt k _ m1 y hy
   ·exact h.lt k2 _ m2 y rfl
  ·exact h.lt n c h3 y hy
 ·rcases key n c hc with ⟨e1, rfl⟩ | ⟨a1, b1, h1⟩ <;> rcases key n' c' hc' with ⟨e2, rfl⟩ | ⟨a2, b2, h2⟩
  ·exact hnn (e1.trans e2.symm)
  ·rcases hbl y hy with hy | rfl
   ·exact h.apart k n' _ _ m1 h2 (Ne.symm a2) y hy hy'
   ·exact h.apart k2 n' _ _ m2 h2 (Ne.symm b2) y rfl hy'
  ·rcases hbl y hy' with hy' | rfl
   ·exact h.apart k n _ _ m1 h1 (Ne.symm a1) y hy' hy
   ·exact h.apart k2 n _ _ m2 h1 (Ne.symm b1) y rfl hy
  ·exact h.apart n n' c c' h1 h2 hnn y hy hy'
theorem stp_fampop (h : Stp olds w0 w (lookM (den olds w0 L))) (k k2 : Nat) {l : List (Nat × TypeId × Array Value)} {g : Nat} {T : TypeId} {cs : Array Value} (hne : k ≠ k2) (hk : lookP L k = some (pcK ((g, T, cs) :: l)) := by kernel_rfl) :
  Stp olds w0 w (lookM (den olds w0 ((k2, some (.blk g T cs)) :: (k, some (pcK l)) :: L))) := by
 have m1 : lookM (den olds w0 L) k = some (ckF ((g, T, cs) :: l)) := by rw [lookM_den, hk]; rfl
 have hok := h.ok k _ m1
 have hnd : g ∉ keysF l ∧ (keysF l).Nodup := List.nodup_cons.1 hok.1
 have key : ∀ n c, lookM (den olds w0 ((k2, some (.blk g T cs)) :: (k, some (pcK l)) :: L)) n = some c → (n = k2 ∧ c = ckB g T cs) ∨ (n ≠ k2 ∧ n = k ∧ c = ckF l) ∨ (n ≠ k ∧ n ≠ k2 ∧ lookM (den olds w0 L) n = some c) := fun n c hc => by
  simp only [den, lookM] at hc
  cases h1 : Nat.beq k2 n with
  | true => rw [h1] at hc; simp only [cond_true, Option.map_some, Option.some.injEq] at hc; exact .inl ⟨(Nat.eq_of_beq_eq_true h1).symm, hc.symm⟩
  | false =>
   rw [h1] at hc
   simp only [cond_false] at hc
   cases h2 : Nat.beq k n with
   | true => rw [h2] at hc; simp only [cond_true, Option.map_some, Option.some.injEq] at hc; exact .inr (.inl ⟨beq_no h1, (Nat.eq_of_beq_eq_true h2).symm, hc.symm⟩)
   | false => rw [h2] at hc; exact .inr (.inr ⟨beq_no h2, beq_no h1, hc⟩)
 have hw1 : (ckF ((g, T, cs) :: l)).blks g := List.mem_cons_self ..
 have hw2 : ∀ y, (ckF l).blks y → (ckF ((g, T, cs) :: l)).blks y := fun y hy => List.mem_cons_of_mem _ hy
 refine ⟨h.os, h.tape, h.output, h.size, h.kept, fun n c hc => ?_, fun n c hc y hy => ?_, fun n n' c c' hc hc' hnn y hy hy' => ?_⟩
 ·rcases key n c hc with ⟨_, rfl⟩ | ⟨_, _, rfl⟩ | ⟨_, _, h3⟩
  ·exact hok.2 (g, T, cs) (List.mem_cons_self ..)
  ·exact ⟨hnd.2, fun x hx => hok.2 x (List.mem_cons_of_mem _ hx)⟩
  ·exact h.ok n c h3
 ·rcases key n c hc with ⟨_, rfl⟩ | ⟨_, _, rfl⟩ | ⟨_, _, h3⟩
  ·obtain rfl : y = g := hy
   exact h.lt k _ m1 y hw1
  ·exact h.lt k _ m1 y (hw2 y hy)
  ·exact h.lt n c h3 y hy
 ·rcases key n c hc with ⟨e1, rfl⟩ | ⟨a1, e1, rfl⟩ | ⟨a1, b1, h1⟩ <;> rcases key n' c' hc' with ⟨e2, rfl⟩ | ⟨a2, e2, rfl⟩ | ⟨a2, b2, h2⟩
  ·exact hnn (e1.trans e2.symm)
  ·obtain rfl : y = g := hy
   exact hnd.1 hy'
  ·obtain rfl : y = g := hy
   exact h.apart k n' _ _ m1 h2 (Ne.symm a2) y hw1 hy'
  ·obtain rfl : y = g := hy'
   exact hnd.1 hy
  ·exact hnn (e1.trans e2.symm)
  ·exact h.apart k n' _ _ m1 h2 (Ne.symm a2) y (hw2 y hy) hy'
  ·obtain rfl : y = g := hy'
   exact h.apart k n _ _ m1 h1 (Ne.symm a1) y hw1 hy
  ·exact h.apart k n _ _ m1 h1 (Ne.symm a1) y (hw2 y hy') hy
  ·exact h.apart n n' c c' h1 h2 hnn y hy hy'
end
section
variable {P : Program}
theorem shr_g {t : TypeId} (k ky : IntKind) (x y : Int) (n : Nat) (hy : y = (n : Int)) (hn : n ≤ k.bits) : ∀ w, ((do let v ← binOp .shr t (.int k x) (.int ky y); pure (Next.value v) : Sem Next).run P w) = .ok (.value (.int k (x / 2 ^ n))) w := fun w => by
 subst hy
 rw [Sem.run_bind, binOp_shr, shift_shr_any _ _ _ _ (by omega), Int.toNat_natCast, Nat.min_eq_left hn]
 rfl
theorem shl_g {t : TypeId} (k ky : IntKind) (x y : Int) (n : Nat) (hy : y = (n : Int)) (hn : n ≤ k.bits) : ∀ w, ((do let v ← binOp .shl t (.int k x) (.int ky y); pure (Next.value v) : Sem Next).run P w) = .ok (.value (.int k (k.wrap (x * 2 ^ n)))) w := fun w => by
 subst hy
 rw [Sem.run_bind, show binOp .shl t (.int k x) (.int ky (n : Nat)) = Op.shift .shl k x ky (n : Nat) from rfl]
 unfold Op.shift
 rw [if_neg (by omega), Int.toNat_natCast, Nat.min_eq_left hn]
 rfl
end
def gnb (b : Int) (p n : Nat) : Int := IntKind.u16.wrap (bits .and .u8 b (bits .and .u8 (255 / 2 ^ p) (IntKind.u8.wrap (255 * 2 ^ (8 - (p + n)))))) / 2 ^ (8 - (p + n))
theorem gnb_all : ∀ (p n : Fin 9) (b : Fin 256), p.val + n.val ≤ 8 → gnb ((b.val : Nat) : Int) p.val n.val = ((b.val / 2 ^ (8 - (p.val + n.val)) % 2 ^ n.val : Nat) : Int) := by decide +kernel
theorem gnb_any {b : Int} {p n : Nat} (h0 : 0 ≤ b) (h1 : b < 256) (h : p + n ≤ 8) : gnb b p n = b / 2 ^ (8 - (p + n)) % 2 ^ n := by
 have := gnb_all ⟨p, by omega⟩ ⟨n, by omega⟩ ⟨b.toNat, by omega⟩ h
 simp only at this
 rw [show ((b.toNat : Nat) : Int) = b by omega] at this
 rw [this]
 have e : b = ((b.toNat : Nat) : Int) := by omega
 conv => rhs; rw [e]
 simp
theorem getN_any (b : Int) (p n : Nat) (w : World) (h0 : 0 ≤ b) (h1 : b < 256) (hp : p + n ≤ 8) : Calls Tryz.prog 185 #[.int .u8 b, .int .u16 (p : Nat), .int .u16 (n : Nat)] w fun e w' => e = .returned (.int .u16 (b / 2 ^ (8 - (p + n)) % 2 ^ n)) ∧ Below w.heap.size w w' := by
 refine go_in Tryz.func185 rfl Tryz.ntmps185 [.int .u8 b, .int .u16 (p : Nat), .int .u16 (n : Nat)] fun a hE => ?_
 have hS := stp_in w
 refine rg hE hS [pu] (fun _ => kp [(6, .int .u16 0)]) kP0 fun _ a u hE hS => ?_
 refine rgp hE hS [pu, pu, pe (.int .u16 ((p + n : Nat) : Int)), pe (.int .u16 ((8 - (p + n) : Nat) : Int)), pu] (fun _ => kp [(7, .int .u16 ((8 - (p + n) : Nat) : Int))]) kP0 (fun _ => ⟨kr (congrArg (Value.int .u16) (show IntKind.u16.wrap (((p : Nat) : Int) + ((n : Nat) : Int)) = ((p + n : Nat) : Int) by rw [IntKind.wrap_u16]; omega)), kr (congrArg (Value.int .u16) (show IntKind.u16.wrap (8 - ((p + n : Nat) : Int)) = ((8 - (p + n) : Nat) : Int) by rw [IntKind.wrap_u16]; omega)), trivial⟩) fun _ a u hE hS => ?_
 refine rgp hE hS [pu, pf (.int .u8 (255 / 2 ^ p)), pu, pf (.int .u8 (IntKind.u8.wrap (255 * 2 ^ (8 - (p + n))))), pu, pu] (fun _ => kp [(8, .int .u8 (bits .and .u8 (255 / 2 ^ p) (IntKind.u8.wrap (255 * 2 ^ (8 - (p + n))))))]) kP0 (fun _ => ⟨kr (shr_g (P := Tryz.prog) (t := 5) .u8 .u16 255 ((p : Nat) : Int) p rfl (show p ≤ 8 by omega)), kr (shl_g (P := Tryz.prog) (t := 5) .u8 .u16 255 ((8 - (p + n) : Nat) : Int) (8 - (p + n)) rfl (show 8 - (p + n) ≤ 8 by omega)), trivial⟩) fun _ a u hE hS => ?_
 refine rgp hE hS [pu, pu, pu, pu, pu, pf (.int .u16 (gnb b p n)), pu] (fun _ => kp [(6, .int .u16 (gnb b p n))]) kP0 (fun _ => ⟨kr (shr_g (P := Tryz.prog) (t := 32) .u16 .u16 (IntKind.u16.wrap (bits .and .u8 b (bits .and .u8 (255 / 2 ^ p) (IntKind.u8.wrap (255 * 2 ^ (8 - (p + n))))))) ((8 - (p + n) : Nat) : Int) (8 - (p + n)) rfl (show 8 - (p + n) ≤ 16 by omega)), trivial⟩) fun _ a u hE hS => ?_
 refine wp_ret ?_
 exact ret1 hE Tryz.results185 (.int .u16 (gnb b p n)) ⟨by rw [gnb_any h0 h1 hp], hS.below⟩

theorem runUm_any (g b o c : Nat) (y : List Int) (D : Nat → Prop) (w : World) (hz : Byts y) (hb : Blk w g 247 #[.nilIface, .int .u16 0, .int .u16 0, .int .u16 0]) (hr : RowD w D (some ⟨b, o, none⟩) y) (hD : ∀ x, D x → x < w.heap.size ∧ x ≠ g) (hc : y.length ≤ c) (hl : y.length = 2) :
  Calls Tryz.prog 186 #[.pointer (some ⟨g, 0, none⟩), .slice (some ⟨b, o, none⟩) y.length c] w fun e w' => e = .returned .nilIface ∧ w.grownBy w' (some g) ∧ Blk w' g 247 #[.nilIface, .int .u16 0, .int .u16 (rd16 y 0 / 8192 % 4), .int .u16 (rd16 y 0 % 8192)] := by
 refine go_in Tryz.func186 rfl Tryz.ntmps186 [pt g 0, sv b o y.length c] fun a hE => ?_
 have hS := stp_blk1 101 hb
 have hS := stp_ry1 hS 110 hr (fun x hx => ⟨(hD x hx).1, (hD x hx).2⟩) hz
 have h0 := hz.gi 0
 have h1 := hz.gi 1
 have h16 := rd16_lt hz 0
 have hv : rd16 y 0 = gi y 0 * 256 + gi y 1 := rfl
 obtain ⟨V, hV⟩ : ∃ V, rd16 y 0 = V := ⟨_, rfl⟩
 rw [hV] at h16 hv
 refine rg hE hS [pu] (fun _ => kp [(4, .nilIface)]) kP0 fun _ a u hE hS => ?_
 refine wp_seq ?_
 refine rgp hE hS [pu, pu, pe (.bool false)] (fun _ => kp [(7, .bool false)]) kP0 (fun _ => ⟨kr (cbV (show (((y.length : Nat) : Int) != 2) = false by rw [hl]; rfl)), trivial⟩) fun _ a u hE hS => iff hE <| wp_skip ?_
 refine rg hE hS [pu, pu, pu, st 101] kp0 kP0 fun _ a u hE hS => ?_
 refine rgp hE hS [pu, pu, ix, rb 110 0, cu 185 [] [] (fun _ => .int .u16 (V / 8192 % 4)) (fun _ => []), pu, pu, st 101] kp0 (fun _ => kP [(101, some (.blk g 247 #[.nilIface, .int .u16 0, .int .u16 (V / 8192 % 4), .int .u16 0]))]) (fun _ => ⟨kr (show 0 < y.length by omega), kr (show 0 < (y).length by omega), kr (cu_cpt (olds := (· = g)) (w0 := w) fun w4 => (getN_any (gi y 0) 1 2 w4 (by omega) (by omega) (by omega)).mono fun e w5 ⟨e1, e2⟩ => ⟨e1.trans (congrArg (fun x => Ending.returned (Value.int .u16 x)) (show gi y 0 / 2 ^ (8 - (1 + 2)) % 2 ^ 2 = V / 8192 % 4 by rw [hv]; omega)), e2⟩), trivial⟩) fun _ a u hE hS => ?_
 refine dgp hE hS [pu, pu, ix, rb 110 0, cu 185 [] [] (fun _ => .int .u16 (gi y 0 % 32)) (fun _ => []), pe (.int .u16 (gi y 0 % 32 * 256)), pu, ix, rb 110 1, pe (.int .u16 (gi y 1)), pe (.int .u16 (V % 8192)), pu, pu, st 101] kp0 (fun _ => kP [(101, some (.blk g 247 #[.nilIface, .int .u16 0, .int .u16 (V / 8192 % 4), .int .u16 (V % 8192)]))]) (fun _ => ⟨kr (show 0 < y.length by omega), kr (show 0 < (y).length by omega), kr (cu_cpt (olds := (· = g)) (w0 := w) fun w4 => (getN_any (gi y 0) 3 5 w4 (by omega) (by omega) (by omega)).mono fun e w5 ⟨e1, e2⟩ => ⟨e1.trans (congrArg (fun x => Ending.returned (Value.int .u16 x)) (show gi y 0 / 2 ^ (8 - (3 + 5)) % 2 ^ 5 = gi y 0 % 32 by omega)), e2⟩), kr (congrArg (Value.int .u16) (show IntKind.u16.wrap (gi y 0 % 32 * 256) = gi y 0 % 32 * 256 by rw [IntKind.wrap_u16]; omega)), kr (show 1 < y.length by omega), kr (show 1 < (y).length by omega), kr (congrArg (Value.int .u16) (show IntKind.u16.wrap (gi y 1) = gi y 1 by rw [IntKind.wrap_u16]; omega)), kr (congrArg (Value.int .u16) (show IntKind.u16.wrap (gi y 0 % 32 * 256 + gi y 1) = V % 8192 by rw [IntKind.wrap_u16]; omega)), trivial⟩) fun _ a u hE hS => ?_
 have hE := end_env (s := ⟨_, []⟩) (s' := ⟨[(0, pt g 0), (1, sv b o y.length c), (4, .nilIface)], []⟩) (fst_snd (by kernel_rfl)) hE
 have hS := end_mem (s := ⟨[], _⟩) (s' := ⟨[], [(110, some (.ry D (some ⟨b, o, none⟩) y)), (101, some (.blk g 247 #[.nilIface, .int .u16 0, .int .u16 (V / 8192 % 4), .int .u16 (V % 8192)]))]⟩) (fst_snd (by kernel_rfl)) hS
 refine rg hE hS [pu] kp0 kP0 fun _ a u hE hS => ?_
 refine wp_ret ?_
 exact ret1 hE Tryz.results186 .nilIface ⟨rfl, hS.grownBy (some g) (fun _ e => by rw [e]), by rw [hV]; exact pcB hS 101⟩

theorem bit_1_0 {a b V : Int} {i : Nat} (h0 : 0 ≤ a ∧ a < 256) (h1 : 0 ≤ b ∧ b < 256) (hv : V = a * 256 + b) (hi : i < 6) : a / 2 ^ (8 - ((2 + i) + 1)) % 2 ^ 1 = V / 2 ^ (13 - i) % 2 := by
 rcases (show i = 0 ∨ i = 1 ∨ i = 2 ∨ i = 3 ∨ i = 4 ∨ i = 5 by omega) with rfl | rfl | rfl | rfl | rfl | rfl <;> simp only [hv] <;> omega
theorem bit_1_6 {a b V : Int} {i : Nat} (h0 : 0 ≤ a ∧ a < 256) (h1 : 0 ≤ b ∧ b < 256) (hv : V = a * 256 + b) (hi : i < 8) : b / 2 ^ (8 - (i + 1)) % 2 ^ 1 = V / 2 ^ (13 - (6 + i)) % 2 := by
 rcases (show i = 0 ∨ i = 1 ∨ i = 2 ∨ i = 3 ∨ i = 4 ∨ i = 5 ∨ i = 6 ∨ i = 7 by omega) with rfl | rfl | rfl | rfl | rfl | rfl | rfl | rfl <;> simp only [hv] <;> omega
theorem bit_2_0 {a b V : Int} {i : Nat} (h0 : 0 ≤ a ∧ a < 256) (h1 : 0 ≤ b ∧ b < 256) (hv : V = a * 256 + b) (hi : i < 3) : a / 2 ^ (8 - ((2 + i * 2) + 2)) % 2 ^ 2 = V / 2 ^ (12 - 2 * i) % 4 := by
 rcases (show i = 0 ∨ i = 1 ∨ i = 2 by omega) with rfl | rfl | rfl <;> simp only [hv] <;> omega
theorem bit_2_3 {a b V : Int} {i : Nat} (h0 : 0 ≤ a ∧ a < 256) (h1 : 0 ≤ b ∧ b < 256) (hv : V = a * 256 + b) (hi : i < 4) : b / 2 ^ (8 - ((i * 2) + 2)) % 2 ^ 2 = V / 2 ^ (12 - 2 * (3 + i)) % 4 := by
 rcases (show i = 0 ∨ i = 1 ∨ i = 2 ∨ i = 3 by omega) with rfl | rfl | rfl | rfl <;> simp only [hv] <;> omega
theorem vecUm_any (g b o c : Nat) (y : List Int) (D : Nat → Prop) (w : World) (hz : Byts y) (hb : Blk w g 244 #[.nilIface, .int .u16 1, .int .u16 0, .slice none 0 0]) (hr : RowD w D (some ⟨b, o, none⟩) y) (hD : ∀ x, D x → x < w.heap.size ∧ x ≠ g) (hc : y.length ≤ c) (hl : y.length = 2) (hrun : ¬ rd16 y 0 < 32768) :
  Calls Tryz.prog 188 #[.pointer (some ⟨g, 0, none⟩), .slice (some ⟨b, o, none⟩) y.length c] w fun e w' => e = .returned .nilIface ∧ w.grownBy w' (some g) ∧ ∃ (A2 : Option Addr) (c2 : Nat), Blk w' g 244 #[.nilIface, .int .u16 1, .int .u16 (rd16 y 0 / 16384 % 2), .slice A2 ((symL (rd16 y 0)).length : Nat) c2] ∧ w'.ownsRow w.heap.size 32 1 (.slice A2 ((symL (rd16 y 0)).length : Nat) c2) (symL (rd16 y 0)).length ((symL (rd16 y 0)).flatMap u16c) := by
 refine go_in Tryz.func188 rfl Tryz.ntmps188 [pt g 0, sv b o y.length c] fun a hE => ?_
 have hS := stp_blk1 101 hb
 have hS := stp_ry1 hS 110 hr (fun x hx => ⟨(hD x hx).1, (hD x hx).2⟩) hz
 have h0 := hz.gi 0
 have h1 := hz.gi 1
 have h16 := rd16_lt hz 0
 have hv : rd16 y 0 = gi y 0 * 256 + gi y 1 := rfl
 obtain ⟨V, hV⟩ : ∃ V, rd16 y 0 = V := ⟨_, rfl⟩
 rw [hV] at h16 hv
 rw [hV] at hrun
 refine rg hE hS [pu] (fun _ => kp [(4, .nilIface)]) kP0 fun _ a u hE hS => ?_
 refine wp_seq ?_
 refine rgp hE hS [pu, pu, pe (.bool false)] (fun _ => kp [(11, .bool false)]) kP0 (fun _ => ⟨kr (cbV (show (((y.length : Nat) : Int) != 2) = false by rw [hl]; rfl)), trivial⟩) fun _ a u hE hS => iff hE <| wp_skip ?_
 refine rg hE hS [pu, pu, pu, st 101] kp0 kP0 fun _ a u hE hS => ?_
 refine rgp hE hS [pu, pu, ix, rb 110 0, cu 185 [] [] (fun _ => .int .u16 (V / 16384 % 2)) (fun _ => []), pu, pu, st 101] kp0 (fun _ => kP [(101, some (.blk g 244 #[.nilIface, .int .u16 1, .int .u16 (V / 16384 % 2), .slice none 0 0]))]) (fun _ => ⟨kr (show 0 < y.length by omega), kr (show 0 < (y).length by omega), kr (cu_cpt (olds := (· = g)) (w0 := w) fun w4 => (getN_any (gi y 0) 1 1 w4 (by omega) (by omega) (by omega)).mono fun e w5 ⟨e1, e2⟩ => ⟨e1.trans (congrArg (fun x => Ending.returned (Value.int .u16 x)) (show gi y 0 / 2 ^ (8 - (1 + 1)) % 2 ^ 1 = V / 16384 % 2 by rw [hv]; omega)), e2⟩), trivial⟩) fun _ a u hE hS => ?_
 have hS := stp_row0 hS 1 w.heap.size 32 1
 refine wp_seq ?_
 by_cases hs1 : V / 16384 % 2 = 0
 ·skip
  refine rgp hE hS [pu, pu, pu, ld 101, pe (.bool true)] (fun _ => kp [(27, .bool true)]) kP0 (fun _ => ⟨kr (cbV (ebV (show (V / 16384 % 2 : Int) = 0 by omega))), trivial⟩) fun _ a u hE hS => ?_
  have hE := end_env (s := ⟨_, []⟩) (s' := ⟨[(0, pt g 0), (1, sv b o y.length c), (4, .nilIface), (27, .bool true)], []⟩) (fst_snd (by kernel_rfl)) hE
  have hS := end_mem (s := ⟨[], _⟩) (s' := ⟨[], [(1, some (.row w.heap.size 32 1 (.slice none 0 0) 0 ([]))), (110, some (.ry D (some ⟨b, o, none⟩) y)), (101, some (.blk g 244 #[.nilIface, .int .u16 1, .int .u16 (V / 16384 % 2), .slice none 0 0]))]⟩) (fst_snd (by kernel_rfl)) hS
  refine ift hE ?_
  refine wp_seq ?_
  refine rg hE hS [pu] (fun _ => kn [(28, .int .u16 ((0 : Nat) : Int))] [0, 1, 4]) (fun _ => kN [] [1, 110, 101]) fun _ a u hE hS => wp_block ?_
  refine loop_k hE hS 6 (fun i v => kd [28] [(28, .int .u16 (i : Nat))]) (fun i v => kN [(101, some (.blk g 244 #[.nilIface, .int .u16 1, .int .u16 (V / 16384 % 2), .slice v.p.a v.n v.p.c])), (1, some (.row w.heap.size 32 1 (.slice v.p.a v.n v.p.c) v.n v.xs))] [110]) (fun i (v : Lx Unit) => v.n = i ∧ v.xs = (vecN V i).flatMap u16c) ⟨pay0, 0, [], ()⟩ (⟨rfl, by show [] = _; unfold vecN; split <;> rfl⟩) ?_
  intro i v a u hki hIi hE hS Ki hKi
  obtain ⟨hi1, hi2⟩ := hIi
  obtain ⟨vp, vn, vs, _⟩ := v
  simp only at hi1 hi2
  by_cases hlt : i < 6
  ·skip
   refine rgp hE hS [pe (.bool true)] (fun _ => kp [(29, .bool true)]) kP0 (fun _ => ⟨kr (cbV (dtV (show ((i : Nat) : Int) < 6 by omega))), trivial⟩) fun _ a u hE hS => ?_
   refine wp_seq ?_
   refine ift hE <| wp_skip ?_
   refine wp_seq ?_
   refine wp_block ?_
   refine rg hE hS [pu, pu] (fun _ => kp [(5, .int .u16 (i : Nat))]) kP0 fun _ a u hE hS => ?_
   refine dgE hE hS [pu, pu, pu, pu, ld 101, pu, ix, rb 110 0, pu, pe (.int .u16 ((2 + i : Nat) : Int)), cu 185 [] [] (fun _ => .int .u16 (V / 2 ^ (13 - i) % 2)) (fun _ => []), nw 92, ap 1 [92], pu, pu, st 101] kp0 (fun p9 => kP [(101, some (.blk g 244 #[.nilIface, .int .u16 1, .int .u16 (V / 16384 % 2), .slice (p9 12).a (vn + 1) (p9 12).c])), (1, some (.row w.heap.size 32 1 (.slice (p9 12).a (vn + 1) (p9 12).c) (vn + 1) (vs ++ ([.int .u16 (V / 2 ^ (13 - i) % 2)] : List Value))))]) (fun _ => ⟨kr (show 0 < y.length by omega), kr (show 0 < (y).length by omega), kr (congrArg (Value.int .u16) (show IntKind.u16.wrap (2 + ((i : Nat) : Int)) = ((2 + i : Nat) : Int) by rw [IntKind.wrap_u16]; omega)), kr (cu_cpt (olds := (· = g)) (w0 := w) fun w4 => (getN_any (gi y 0) (2 + i) 1 w4 (by omega) (by omega) (by omega)).mono fun e w5 ⟨e1, e2⟩ => ⟨e1.trans (congrArg (fun x => Ending.returned (Value.int .u16 x)) (bit_1_0 h0 h1 hv hlt)), e2⟩), kr (show w.heap.size ≤ w.heap.size ∧ (vn + 1) * 2 ≤ 140737488355328 ∧ ∀ u ∈ ([.int .u16 (V / 2 ^ (13 - i) % 2)] : List Value), u.oneCell' = true from ⟨Nat.le_refl _, by omega, by intro u hu; simp at hu; rw [hu]; rfl⟩), trivial⟩) fun p9 a u hE hS => ?_
   refine rgE hE hS [pe (.int .u16 ((i + 1 : Nat) : Int)), pu] (fun _ => kp [(28, .int .u16 ((i + 1 : Nat) : Int))]) kP0 (fun _ => ⟨kr (congrArg (Value.int .u16) (show IntKind.u16.wrap (((i : Nat) : Int) + 1) = ((i + 1 : Nat) : Int) by rw [IntKind.wrap_u16]; omega)), trivial⟩) fun _ a u hE hS => ?_
   exact hKi ⟨(p9 12), vn + 1, vs ++ [.int .u16 (V / 2 ^ (13 - i) % 2)], ()⟩ a u _ _ hlt ⟨by show vn + 1 = _; omega, by show vs ++ _ = _; rw [hi2, show (i + 1) = i + 1 by omega, vecN_succ, List.flatMap_append, if_pos hs1]; rfl⟩ hE hS (by kernel_rfl)
  ·have hNi : 6 = i := by omega
   refine rgp hE hS [pe (.bool false)] (fun _ => kp [(29, .bool false)]) kP0 (fun _ => ⟨kr (cbV (dfV (show ¬ (((i : Nat) : Int) < 6) by omega))), trivial⟩) fun _ a u hE hS => ?_
   have hE := end_env (s := ⟨_, []⟩) (s' := ⟨[(0, pt g 0), (1, sv b o y.length c), (4, .nilIface), (28, .int .u16 (i : Nat)), (29, .bool false)], []⟩) (fst_snd (by kernel_rfl)) hE
   have hS := end_mem (s := ⟨[], _⟩) (s' := ⟨[], [(101, some (.blk g 244 #[.nilIface, .int .u16 1, .int .u16 (V / 16384 % 2), .slice vp.a vn vp.c])), (1, some (.row w.heap.size 32 1 (.slice vp.a vn vp.c) vn vs)), (110, some (.ry D (some ⟨b, o, none⟩) y))]⟩) (fst_snd (by kernel_rfl)) hS
   refine wp_seq ?_
   refine iff hE ?_
   refine wp_exit ?_
   refine wp_seq ?_
   refine rg hE hS [pu] (fun _ => kn [(47, .int .u16 ((0 : Nat) : Int))] [0, 1, 4]) (fun _ => kN [] [101, 1, 110]) fun _ a u hE hS => wp_block ?_
   refine loop_k hE hS 8 (fun i v => kd [47] [(47, .int .u16 (i : Nat))]) (fun i v => kN [(101, some (.blk g 244 #[.nilIface, .int .u16 1, .int .u16 (V / 16384 % 2), .slice v.p.a v.n v.p.c])), (1, some (.row w.heap.size 32 1 (.slice v.p.a v.n v.p.c) v.n v.xs))] [110]) (fun i (v : Lx Unit) => v.n = (6 + i) ∧ v.xs = (vecN V (6 + i)).flatMap u16c) ⟨vp, vn, vs, ()⟩ (⟨by show vn = 6 + 0; omega, by show vs = (vecN V (6 + 0)).flatMap u16c; rw [hi2, ← hNi]⟩) ?_
   intro i v a u hki hIi hE hS Ki hKi
   obtain ⟨hi1, hi2⟩ := hIi
   obtain ⟨vp, vn, vs, _⟩ := v
   simp only at hi1 hi2
   by_cases hlt : i < 8
   ·skip
    refine rgp hE hS [pe (.bool true)] (fun _ => kp [(48, .bool true)]) kP0 (fun _ => ⟨kr (cbV (dtV (show ((i : Nat) : Int) < 8 by omega))), trivial⟩) fun _ a u hE hS => ?_
    refine wp_seq ?_
    refine ift hE <| wp_skip ?_
    refine wp_seq ?_
    refine wp_block ?_
    refine rg hE hS [pu, pu] (fun _ => kp [(6, .int .u16 (i : Nat))]) kP0 fun _ a u hE hS => ?_
    refine dgE hE hS [pu, pu, pu, pu, ld 101, pu, ix, rb 110 1, pu, cu 185 [] [] (fun _ => .int .u16 (V / 2 ^ (13 - (6 + i)) % 2)) (fun _ => []), nw 92, ap 1 [92], pu, pu, st 101] kp0 (fun p15 => kP [(101, some (.blk g 244 #[.nilIface, .int .u16 1, .int .u16 (V / 16384 % 2), .slice (p15 11).a (vn + 1) (p15 11).c])), (1, some (.row w.heap.size 32 1 (.slice (p15 11).a (vn + 1) (p15 11).c) (vn + 1) (vs ++ ([.int .u16 (V / 2 ^ (13 - (6 + i)) % 2)] : List Value))))]) (fun _ => ⟨kr (show 1 < y.length by omega), kr (show 1 < (y).length by omega), kr (cu_cpt (olds := (· = g)) (w0 := w) fun w4 => (getN_any (gi y 1) i 1 w4 (by omega) (by omega) (by omega)).mono fun e w5 ⟨e1, e2⟩ => ⟨e1.trans (congrArg (fun x => Ending.returned (Value.int .u16 x)) (bit_1_6 h0 h1 hv hlt)), e2⟩), kr (show w.heap.size ≤ w.heap.size ∧ (vn + 1) * 2 ≤ 140737488355328 ∧ ∀ u ∈ ([.int .u16 (V / 2 ^ (13 - (6 + i)) % 2)] : List Value), u.oneCell' = true from ⟨Nat.le_refl _, by omega, by intro u hu; simp at hu; rw [hu]; rfl⟩), trivial⟩) fun p15 a u hE hS => ?_
    refine rgE hE hS [pe (.int .u16 ((i + 1 : Nat) : Int)), pu] (fun _ => kp [(47, .int .u16 ((i + 1 : Nat) : Int))]) kP0 (fun _ => ⟨kr (congrArg (Value.int .u16) (show IntKind.u16.wrap (((i : Nat) : Int) + 1) = ((i + 1 : Nat) : Int) by rw [IntKind.wrap_u16]; omega)), trivial⟩) fun _ a u hE hS => ?_
    exact hKi ⟨(p15 11), vn + 1, vs ++ [.int .u16 (V / 2 ^ (13 - (6 + i)) % 2)], ()⟩ a u _ _ hlt ⟨by show vn + 1 = _; omega, by show vs ++ _ = _; rw [hi2, show (6 + (i + 1)) = (6 + i) + 1 by omega, vecN_succ, List.flatMap_append, if_pos hs1]; rfl⟩ hE hS (by kernel_rfl)
   ·have hNi : 8 = i := by omega
    refine rgp hE hS [pe (.bool false)] (fun _ => kp [(48, .bool false)]) kP0 (fun _ => ⟨kr (cbV (dfV (show ¬ (((i : Nat) : Int) < 8) by omega))), trivial⟩) fun _ a u hE hS => ?_
    have hE := end_env (s := ⟨_, []⟩) (s' := ⟨[(0, pt g 0), (1, sv b o y.length c), (4, .nilIface), (47, .int .u16 (i : Nat)), (48, .bool false)], []⟩) (fst_snd (by kernel_rfl)) hE
    have hS := end_mem (s := ⟨[], _⟩) (s' := ⟨[], [(101, some (.blk g 244 #[.nilIface, .int .u16 1, .int .u16 (V / 16384 % 2), .slice vp.a vn vp.c])), (1, some (.row w.heap.size 32 1 (.slice vp.a vn vp.c) vn vs)), (110, some (.ry D (some ⟨b, o, none⟩) y))]⟩) (fst_snd (by kernel_rfl)) hS
    refine wp_seq ?_
    refine iff hE ?_
    refine wp_exit ?_
    refine rg hE hS [pu] kp0 kP0 fun _ a u hE hS => ?_
    refine wp_ret (thR ?_)
    have e0 : symL V = vecN V 14 := by unfold symL vecM; rw [if_neg hrun, if_pos hs1]
    have e1 : vn = (symL V).length := by rw [e0, vecN_len]; omega
    have e2 : vs = (symL V).flatMap u16c := by rw [e0, hi2, ← hNi]
    have hrow := pcR (base := w.heap.size) (e := 32) (size := 1) (v := .slice vp.a vn vp.c) (n := vn) (xs := vs) hS 1
    have hblk := pcB (g := g) (T := 244) (cs := #[.nilIface, .int .u16 1, .int .u16 (V / 16384 % 2), .slice vp.a vn vp.c]) hS 101
    rw [e1, e2] at hrow
    rw [e1] at hblk
    exact ret1 hE Tryz.results188 .nilIface ⟨rfl, hS.grownBy (some g) (fun _ e => by rw [e]), vp.a, vp.c, (by rw [hV]; exact hblk), (by rw [hV]; exact hrow)⟩
 refine rgp hE hS [pu, pu, pu, ld 101, pe (.bool false)] (fun _ => kp [(27, .bool false)]) kP0 (fun _ => ⟨kr (cbV (nbV (show (V / 16384 % 2 : Int) ≠ 0 by omega))), trivial⟩) fun _ a u hE hS => iff hE <| wp_skip ?_
 refine wp_seq ?_
 refine rgp hE hS [pu, pu, pu, ld 101, pe (.bool true)] (fun _ => kp [(69, .bool true)]) kP0 (fun _ => ⟨kr (cbV (ebV (show (V / 16384 % 2 : Int) = 1 by omega))), trivial⟩) fun _ a u hE hS => ift hE ?_
 refine wp_seq ?_
 refine rg hE hS [pu] (fun _ => kn [(70, .int .u16 ((0 : Nat) : Int))] [0, 1, 4]) (fun _ => kN [] [1, 110, 101]) fun _ a u hE hS => wp_block ?_
 refine loop_k hE hS 3 (fun i v => kd [70] [(70, .int .u16 (i : Nat))]) (fun i v => kN [(101, some (.blk g 244 #[.nilIface, .int .u16 1, .int .u16 (V / 16384 % 2), .slice v.p.a v.n v.p.c])), (1, some (.row w.heap.size 32 1 (.slice v.p.a v.n v.p.c) v.n v.xs))] [110]) (fun i (v : Lx Unit) => v.n = i ∧ v.xs = (vecN V i).flatMap u16c) ⟨pay0, 0, [], ()⟩ (⟨rfl, by show [] = _; unfold vecN; split <;> rfl⟩) ?_
 intro i v a u hki hIi hE hS Ki hKi
 obtain ⟨hi1, hi2⟩ := hIi
 obtain ⟨vp, vn, vs, _⟩ := v
 simp only at hi1 hi2
 by_cases hlt : i < 3
 ·skip
  refine rgp hE hS [pe (.bool true)] (fun _ => kp [(71, .bool true)]) kP0 (fun _ => ⟨kr (cbV (dtV (show ((i : Nat) : Int) < 3 by omega))), trivial⟩) fun _ a u hE hS => ?_
  have hE := end_env (s := ⟨_, []⟩) (s' := ⟨[(0, pt g 0), (1, sv b o y.length c), (4, .nilIface), (70, .int .u16 (i : Nat)), (71, .bool true)], []⟩) (fst_snd (by kernel_rfl)) hE
  have hS := end_mem (s := ⟨[], _⟩) (s' := ⟨[], [(101, some (.blk g 244 #[.nilIface, .int .u16 1, .int .u16 (V / 16384 % 2), .slice vp.a vn vp.c])), (1, some (.row w.heap.size 32 1 (.slice vp.a vn vp.c) vn vs)), (110, some (.ry D (some ⟨b, o, none⟩) y))]⟩) (fst_snd (by kernel_rfl)) hS
  refine wp_seq ?_
  refine ift hE <| wp_skip ?_
  refine wp_seq ?_
  refine wp_block ?_
  refine rg hE hS [pu, pu] (fun _ => kp [(7, .int .u16 (i : Nat))]) kP0 fun _ a u hE hS => ?_
  refine dgE hE hS [pu, pu, pu, pu, ld 101, pu, ix, rb 110 0, pu, pe (.int .u16 ((i * 2 : Nat) : Int)), pe (.int .u16 ((2 + i * 2 : Nat) : Int)), cu 185 [] [] (fun _ => .int .u16 (V / 2 ^ (12 - 2 * i) % 4)) (fun _ => []), nw 92, ap 1 [92], pu, pu, st 101] kp0 (fun p24 => kP [(101, some (.blk g 244 #[.nilIface, .int .u16 1, .int .u16 (V / 16384 % 2), .slice (p24 13).a (vn + 1) (p24 13).c])), (1, some (.row w.heap.size 32 1 (.slice (p24 13).a (vn + 1) (p24 13).c) (vn + 1) (vs ++ ([.int .u16 (V / 2 ^ (12 - 2 * i) % 4)] : List Value))))]) (fun _ => ⟨kr (show 0 < y.length by omega), kr (show 0 < (y).length by omega), kr (congrArg (Value.int .u16) (show IntKind.u16.wrap (((i : Nat) : Int) * 2) = ((i * 2 : Nat) : Int) by rw [IntKind.wrap_u16]; omega)), kr (congrArg (Value.int .u16) (show IntKind.u16.wrap (2 + ((i * 2 : Nat) : Int)) = ((2 + i * 2 : Nat) : Int) by rw [IntKind.wrap_u16]; omega)), kr (cu_cpt (olds := (· = g)) (w0 := w) fun w4 => (getN_any (gi y 0) (2 + i * 2) 2 w4 (by omega) (by omega) (by omega)).mono fun e w5 ⟨e1, e2⟩ => ⟨e1.trans (congrArg (fun x => Ending.returned (Value.int .u16 x)) (bit_2_0 h0 h1 hv hlt)), e2⟩), kr (show w.heap.size ≤ w.heap.size ∧ (vn + 1) * 2 ≤ 140737488355328 ∧ ∀ u ∈ ([.int .u16 (V / 2 ^ (12 - 2 * i) % 4)] : List Value), u.oneCell' = true from ⟨Nat.le_refl _, by omega, by intro u hu; simp at hu; rw [hu]; rfl⟩), trivial⟩) fun p24 a u hE hS => ?_
  refine rgE hE hS [pe (.int .u16 ((i + 1 : Nat) : Int)), pu] (fun _ => kp [(70, .int .u16 ((i + 1 : Nat) : Int))]) kP0 (fun _ => ⟨kr (congrArg (Value.int .u16) (show IntKind.u16.wrap (((i : Nat) : Int) + 1) = ((i + 1 : Nat) : Int) by rw [IntKind.wrap_u16]; omega)), trivial⟩) fun _ a u hE hS => ?_
  exact hKi ⟨(p24 13), vn + 1, vs ++ [.int .u16 (V / 2 ^ (12 - 2 * i) % 4)], ()⟩ a u _ _ hlt ⟨by show vn + 1 = _; omega, by show vs ++ _ = _; rw [hi2, show (i + 1) = i + 1 by omega, vecN_succ, List.flatMap_append, if_neg hs1]; rfl⟩ hE hS (by kernel_rfl)
 ·have hNi : 3 = i := by omega
  refine rgp hE hS [pe (.bool false)] (fun _ => kp [(71, .bool false)]) kP0 (fun _ => ⟨kr (cbV (dfV (show ¬ (((i : Nat) : Int) < 3) by omega))), trivial⟩) fun _ a u hE hS => ?_
  refine wp_seq ?_
  refine iff hE ?_
  refine wp_exit ?_
  refine wp_seq ?_
  refine rg hE hS [pu] (fun _ => kn [(90, .int .u16 ((0 : Nat) : Int))] [0, 1, 4]) (fun _ => kN [] [101, 1, 110]) fun _ a u hE hS => ?_
  have hE := end_env (s := ⟨_, []⟩) (s' := ⟨[(0, pt g 0), (1, sv b o y.length c), (4, .nilIface), (90, .int .u16 ((0 : Nat) : Int))], []⟩) (fst_snd (by kernel_rfl)) hE
  have hS := end_mem (s := ⟨[], _⟩) (s' := ⟨[], [(101, some (.blk g 244 #[.nilIface, .int .u16 1, .int .u16 (V / 16384 % 2), .slice vp.a vn vp.c])), (1, some (.row w.heap.size 32 1 (.slice vp.a vn vp.c) vn vs)), (110, some (.ry D (some ⟨b, o, none⟩) y))]⟩) (fst_snd (by kernel_rfl)) hS
  refine wp_block ?_
  refine loop_k hE hS 4 (fun i v => kd [90] [(90, .int .u16 (i : Nat))]) (fun i v => kN [(101, some (.blk g 244 #[.nilIface, .int .u16 1, .int .u16 (V / 16384 % 2), .slice v.p.a v.n v.p.c])), (1, some (.row w.heap.size 32 1 (.slice v.p.a v.n v.p.c) v.n v.xs))] [110]) (fun i (v : Lx Unit) => v.n = (3 + i) ∧ v.xs = (vecN V (3 + i)).flatMap u16c) ⟨vp, vn, vs, ()⟩ (⟨by show vn = 3 + 0; omega, by show vs = (vecN V (3 + 0)).flatMap u16c; rw [hi2, ← hNi]⟩) ?_
  intro i v a u hki hIi hE hS Ki hKi
  obtain ⟨hi1, hi2⟩ := hIi
  obtain ⟨vp, vn, vs, _⟩ := v
  simp only at hi1 hi2
  by_cases hlt : i < 4
  ·skip
   refine rgp hE hS [pe (.bool true)] (fun _ => kp [(91, .bool true)]) kP0 (fun _ => ⟨kr (cbV (dtV (show ((i : Nat) : Int) < 4 by omega))), trivial⟩) fun _ a u hE hS => ?_
   refine wp_seq ?_
   refine ift hE <| wp_skip ?_
   refine wp_seq ?_
   refine wp_block ?_
   refine rg hE hS [pu, pu] (fun _ => kp [(8, .int .u16 (i : Nat))]) kP0 fun _ a u hE hS => ?_
   refine dgE hE hS [pu, pu, pu, pu, ld 101, pu, ix, rb 110 1, pu, pe (.int .u16 ((i * 2 : Nat) : Int)), cu 185 [] [] (fun _ => .int .u16 (V / 2 ^ (12 - 2 * (3 + i)) % 4)) (fun _ => []), nw 92, ap 1 [92], pu, pu, st 101] kp0 (fun p30 => kP [(101, some (.blk g 244 #[.nilIface, .int .u16 1, .int .u16 (V / 16384 % 2), .slice (p30 12).a (vn + 1) (p30 12).c])), (1, some (.row w.heap.size 32 1 (.slice (p30 12).a (vn + 1) (p30 12).c) (vn + 1) (vs ++ ([.int .u16 (V / 2 ^ (12 - 2 * (3 + i)) % 4)] : List Value))))]) (fun _ => ⟨kr (show 1 < y.length by omega), kr (show 1 < (y).length by omega), kr (congrArg (Value.int .u16) (show IntKind.u16.wrap (((i : Nat) : Int) * 2) = ((i * 2 : Nat) : Int) by rw [IntKind.wrap_u16]; omega)), kr (cu_cpt (olds := (· = g)) (w0 := w) fun w4 => (getN_any (gi y 1) (i * 2) 2 w4 (by omega) (by omega) (by omega)).mono fun e w5 ⟨e1, e2⟩ => ⟨e1.trans (congrArg (fun x => Ending.returned (Value.int .u16 x)) (bit_2_3 h0 h1 hv hlt)), e2⟩), kr (show w.heap.size ≤ w.heap.size ∧ (vn + 1) * 2 ≤ 140737488355328 ∧ ∀ u ∈ ([.int .u16 (V / 2 ^ (12 - 2 * (3 + i)) % 4)] : List Value), u.oneCell' = true from ⟨Nat.le_refl _, by omega, by intro u hu; simp at hu; rw [hu]; rfl⟩), trivial⟩) fun p30 a u hE hS => ?_
   refine rgE hE hS [pe (.int .u16 ((i + 1 : Nat) : Int)), pu] (fun _ => kp [(90, .int .u16 ((i + 1 : Nat) : Int))]) kP0 (fun _ => ⟨kr (congrArg (Value.int .u16) (show IntKind.u16.wrap (((i : Nat) : Int) + 1) = ((i + 1 : Nat) : Int) by rw [IntKind.wrap_u16]; omega)), trivial⟩) fun _ a u hE hS => ?_
   exact hKi ⟨(p30 12), vn + 1, vs ++ [.int .u16 (V / 2 ^ (12 - 2 * (3 + i)) % 4)], ()⟩ a u _ _ hlt ⟨by show vn + 1 = _; omega, by show vs ++ _ = _; rw [hi2, show (3 + (i + 1)) = (3 + i) + 1 by omega, vecN_succ, List.flatMap_append, if_neg hs1]; rfl⟩ hE hS (by kernel_rfl)
  ·have hNi : 4 = i := by omega
   refine rgp hE hS [pe (.bool false)] (fun _ => kp [(91, .bool false)]) kP0 (fun _ => ⟨kr (cbV (dfV (show ¬ (((i : Nat) : Int) < 4) by omega))), trivial⟩) fun _ a u hE hS => ?_
   have hE := end_env (s := ⟨_, []⟩) (s' := ⟨[(0, pt g 0), (1, sv b o y.length c), (4, .nilIface), (90, .int .u16 (i : Nat)), (91, .bool false)], []⟩) (fst_snd (by kernel_rfl)) hE
   have hS := end_mem (s := ⟨[], _⟩) (s' := ⟨[], [(101, some (.blk g 244 #[.nilIface, .int .u16 1, .int .u16 (V / 16384 % 2), .slice vp.a vn vp.c])), (1, some (.row w.heap.size 32 1 (.slice vp.a vn vp.c) vn vs)), (110, some (.ry D (some ⟨b, o, none⟩) y))]⟩) (fst_snd (by kernel_rfl)) hS
   refine wp_seq ?_
   refine iff hE ?_
   refine wp_exit ?_
   refine rg hE hS [pu] kp0 kP0 fun _ a u hE hS => ?_
   refine wp_ret (thR ?_)
   have e0 : symL V = vecN V 7 := by unfold symL vecM; rw [if_neg hrun, if_neg hs1]
   have e1 : vn = (symL V).length := by rw [e0, vecN_len]; omega
   have e2 : vs = (symL V).flatMap u16c := by rw [e0, hi2, ← hNi]
   have hrow := pcR (base := w.heap.size) (e := 32) (size := 1) (v := .slice vp.a vn vp.c) (n := vn) (xs := vs) hS 1
   have hblk := pcB (g := g) (T := 244) (cs := #[.nilIface, .int .u16 1, .int .u16 (V / 16384 % 2), .slice vp.a vn vp.c]) hS 101
   rw [e1, e2] at hrow
   rw [e1] at hblk
   exact ret1 hE Tryz.results188 .nilIface ⟨rfl, hS.grownBy (some g) (fun _ e => by rw [e]), vp.a, vp.c, (by rw [hV]; exact hblk), (by rw [hV]; exact hrow)⟩

theorem dltUm_any (s : Int) (g b o c : Nat) (y : List Int) (D : Nat → Prop) (w : World) (hz : Byts y) (hb : Blk w g 249 #[.int .u16 s, .int .i64 0]) (hr : RowD w D (some ⟨b, o, none⟩) y) (hD : ∀ x, D x → x < w.heap.size ∧ x ≠ g) (hc : y.length ≤ c) (hs : (s = 1 ∧ y.length = 1) ∨ (s = 2 ∧ y.length = 2)) :
  Calls Tryz.prog 189 #[.pointer (some ⟨g, 0, none⟩), .slice (some ⟨b, o, none⟩) y.length c] w fun e w' => e = .returned .nilIface ∧ w.grownBy w' (some g) ∧ Blk w' g 249 #[.int .u16 (dltB s y).ty, .int .i64 (dltB s y).d] := by
 refine go_in Tryz.func189 rfl Tryz.ntmps189 [pt g 0, sv b o y.length c] fun a hE => ?_
 have hS := stp_blk1 101 hb
 have hS := stp_ry1 hS 110 hr (fun x hx => ⟨(hD x hx).1, (hD x hx).2⟩) hz
 have h0 := hz.gi 0
 have h16 := rd16_lt hz 0
 have hsx := sx_in h16.1 h16.2
 refine rg hE hS [pu] (fun _ => kp [(4, .nilIface)]) kP0 fun _ a u hE hS => ?_
 refine rg hE hS [pu, pu, pu] (fun _ => kp [(5, .int .i64 (y.length : Nat))]) kP0 fun _ a u hE hS => ?_
 refine wp_seq ?_
 rcases hs with ⟨rfl, hl⟩ | ⟨rfl, hl⟩
 ·skip
  refine rgp hE hS [pu, pe (.bool false), pu, sk, sk, pu] (fun _ => kp [(13, .bool false)]) kP0 (fun _ => ⟨kr (cbV (show (((y.length : Nat) : Int) != 1) = false by rw [hl]; rfl)), trivial⟩) fun _ a u hE hS => iff hE <| wp_skip ?_
  refine wp_seq ?_
  refine rgp hE hS [pu, pe (.bool true)] (fun _ => kp [(16, .bool true)]) kP0 (fun _ => ⟨kr (cbV (ebV (show (((y.length : Nat) : Int) : Int) = 1 by omega))), trivial⟩) fun _ a u hE hS => ift hE ?_
  refine rg hE hS [pu, pu, pu, st 101] kp0 (fun _ => kP [(101, some (.blk g 249 #[.int .u16 1, .int .i64 0]))]) fun _ a u hE hS => ?_
  have hE := end_env (s := ⟨_, []⟩) (s' := ⟨[(0, pt g 0), (1, sv b o y.length c), (4, .nilIface)], []⟩) (fst_snd (by kernel_rfl)) hE
  have hS := end_mem (s := ⟨[], _⟩) (s' := ⟨[], [(110, some (.ry D (some ⟨b, o, none⟩) y)), (101, some (.blk g 249 #[.int .u16 1, .int .i64 0]))]⟩) (fst_snd (by kernel_rfl)) hS
  refine rgp hE hS [pu, pu, ix, rb 110 0, pe (.int .i64 (gi y 0)), pe (.int .i64 (gi y 0 * 250)), pu, pu, st 101] kp0 (fun _ => kP [(101, some (.blk g 249 #[.int .u16 1, .int .i64 (gi y 0 * 250)]))]) (fun _ => ⟨kr (show 0 < y.length by omega), kr (show 0 < (y).length by omega), kr (ciV (wiV (gi y 0) (by omega))), kr (ciV (show IntKind.i64.wrap (250 * gi y 0) = gi y 0 * 250 from (wiV _ (by omega)).trans (by omega))), trivial⟩) fun _ a u hE hS => ?_
  refine rg hE hS [pu] kp0 kP0 fun _ a u hE hS => ?_
  refine wp_ret (thR ?_)
  exact ret1 hE Tryz.results189 .nilIface ⟨rfl, hS.grownBy (some g) (fun _ e => by rw [e]), pcB hS 101⟩
 refine rgp hE hS [pu, pe (.bool true), pu, pu, pe (.bool false), pu] (fun _ => kp [(13, .bool false)]) kP0 (fun _ => ⟨kr (cbV (show (((y.length : Nat) : Int) != 1) = true by rw [hl]; rfl)), kr (cbV (show (((y.length : Nat) : Int) != 2) = false by rw [hl]; rfl)), trivial⟩) fun _ a u hE hS => iff hE <| wp_skip ?_
 refine wp_seq ?_
 refine rgp hE hS [pu, pe (.bool false)] (fun _ => kp [(16, .bool false)]) kP0 (fun _ => ⟨kr (cbV (nbV (show (((y.length : Nat) : Int) : Int) ≠ 1 by omega))), trivial⟩) fun _ a u hE hS => iff hE <| wp_skip ?_
 refine rg hE hS [pu, pu, pu, st 101] kp0 (fun _ => kP [(101, some (.blk g 249 #[.int .u16 2, .int .i64 0]))]) fun _ a u hE hS => ?_
 have hE := end_env (s := ⟨_, []⟩) (s' := ⟨[(0, pt g 0), (1, sv b o y.length c), (4, .nilIface)], []⟩) (fst_snd (by kernel_rfl)) hE
 have hS := end_mem (s := ⟨[], _⟩) (s' := ⟨[], [(110, some (.ry D (some ⟨b, o, none⟩) y)), (101, some (.blk g 249 #[.int .u16 2, .int .i64 0]))]⟩) (fst_snd (by kernel_rfl)) hS
 refine rgp hE hS [pu, pu, cl cB16 [110] [], pe (.int .i16 (sx16 (rd16 y 0))), pe (.int .i64 (sx16 (rd16 y 0))), pe (.int .i64 (sx16 (rd16 y 0) * 250)), pu, pu, st 101] kp0 (fun _ => kP [(101, some (.blk g 249 #[.int .u16 2, .int .i64 (sx16 (rd16 y 0) * 250)]))]) (fun _ => ⟨kr (show 2 ≤ y.length ∧ y.length ≤ c ∧ 0 < y.length by omega), kr (congrArg (Value.int .i16) (i16_sx (rd16 y 0) (by omega) (by omega))), kr (ciV (wiV (sx16 (rd16 y 0)) (by omega))), kr (ciV (show IntKind.i64.wrap (250 * sx16 (rd16 y 0)) = sx16 (rd16 y 0) * 250 from (wiV _ (by omega)).trans (by omega))), trivial⟩) fun _ a u hE hS => ?_
 refine rg hE hS [pu] kp0 kP0 fun _ a u hE hS => ?_
 refine wp_ret ?_
 exact ret1 hE Tryz.results189 .nilIface ⟨rfl, hS.grownBy (some g) (fun _ e => by rw [e]), pcB hS 101⟩

theorem lmin_any (x y : Int) (w : World) : Calls Tryz.prog 187 #[.int .u16 x, .int .u16 y] w fun e w' => e = .returned (.int .u16 (min x y)) ∧ Below w.heap.size w w' := by
 refine go_in Tryz.func187 rfl Tryz.ntmps187 [.int .u16 x, .int .u16 y] fun a hE => ?_
 have hS := stp_in w
 refine rg hE hS [pu] (fun _ => kp [(4, .int .u16 0)]) kP0 fun _ a u hE hS => ?_
 refine wp_seq ?_
 by_cases h : x < y
 ·skip
  refine rgp hE hS [pu, pu, pe (.bool true)] (fun _ => kp [(7, .bool true)]) kP0 (fun _ => ⟨kr (cbV (dtV (show x < y by omega))), trivial⟩) fun _ a u hE hS => ift hE ?_
  refine rg hE hS [pu, pu] (fun _ => kp [(4, .int .u16 x)]) kP0 fun _ a u hE hS => ?_
  refine wp_ret (thR ?_)
  exact ret1 hE Tryz.results187 (.int .u16 x) ⟨by rw [show min x y = x by omega], hS.below⟩
 refine rgp hE hS [pu, pu, pe (.bool false)] (fun _ => kp [(7, .bool false)]) kP0 (fun _ => ⟨kr (cbV (dfV (show ¬ (x < y) by omega))), trivial⟩) fun _ a u hE hS => iff hE <| wp_skip ?_
 refine rg hE hS [pu, pu] (fun _ => kp [(4, .int .u16 y)]) kP0 fun _ a u hE hS => ?_
 refine wp_ret ?_
 exact ret1 hE Tryz.results187 (.int .u16 y) ⟨by rw [show min x y = y by omega], hS.below⟩

theorem hdrUmT_any (g b o c : Nat) (z : List Int) (D : Nat → Prop) (w : World) {pad : Bool} {n : Nat} {t : Int} {L : Nat} (hd : Hd z pad n t L) (hb : Blk w g 238 #[.bool false, .int .u8 0, .int .u8 0, .int .u16 0, .int .u32 0, .int .u32 0, .int .u16 0, .int .u16 0, .int .u32 0, .int .u8 0, .slice none 0 0, .slice none 0 0]) (hr : RowD w D (some ⟨b, o, none⟩) z) (hD : ∀ x, D x → x < w.heap.size ∧ x ≠ g) (hc : z.length ≤ c) :
  Calls Tryz.prog 71 #[.pointer (some ⟨g, 0, none⟩), .slice (some ⟨b, o, none⟩) z.length c] w fun e w' => e = .returned .nilIface ∧ w.grownBy w' (some g) ∧ Blk w' g 238 #[.bool pad, .int .u8 (n : Nat), .int .u8 t, .int .u16 (L : Nat), .int .u32 0, .int .u32 0, .int .u16 0, .int .u16 0, .int .u32 0, .int .u8 0, .slice none 0 0, .slice none 0 0] := by
 refine go_in Tryz.func71 rfl Tryz.ntmps71 [pt g 0, sv b o z.length c] fun a hE => ?_
 have hS := stp_blk1 101 hb
 have hS := stp_ry1 hS 110 hr (fun x hx => ⟨(hD x hx).1, (hD x hx).2⟩) hd.byts
 have h4 := hd.len
 have hg0 := hd.byts.gi 0
 refine rg hE hS [pu] (fun _ => kp [(4, .nilIface)]) kP0 fun _ a u hE hS => ?_
 refine wp_seq ?_
 refine rgp hE hS [pu, pu, pe (.bool false)] (fun _ => kp [(8, .bool false)]) kP0 (fun _ => ⟨kr (cbV (dfV (show ¬ (((z.length : Nat) : Int) < 4) by omega))), trivial⟩) fun _ a u hE hS => iff hE <| wp_skip ?_
 refine rgp hE hS [pu, ix, rb 110 0, pe (.int .u8 2), pu, pu] (fun _ => kp [(5, .int .u8 2)]) kP0 (fun _ => ⟨kr (show 0 < z.length by omega), kr (show 0 < (z).length by omega), kr (show Value.int .u8 ((gi z 0).fdiv 64) = .int .u8 2 from (shrv .u8 (gi z 0) 64 (by decide)).trans (by rw [hd.ver])), trivial⟩) fun _ a u hE hS => ?_
 refine wp_seq ?_
 refine rg hE hS [pu, pu] (fun _ => kp [(16, .bool false)]) kP0 fun _ a u hE hS => iff hE <| wp_skip ?_
 refine rgp hE hS [pu, pu, ix, rb 110 0, pe (.int .u8 (gi z 0 / 32)), pu, pe (.bool pad), pu, pu, st 101] kp0 (fun _ => kP [(101, some (.blk g 238 #[.bool pad, .int .u8 0, .int .u8 0, .int .u16 0, .int .u32 0, .int .u32 0, .int .u16 0, .int .u16 0, .int .u32 0, .int .u8 0, .slice none 0 0, .slice none 0 0]))]) (fun _ => ⟨kr (show 0 < z.length by omega), kr (show 0 < (z).length by omega), kr (shrv .u8 (gi z 0) 32 (by decide)), kr (congrArg Value.bool hd.padB), trivial⟩) fun _ a u hE hS => ?_
 have hE := end_env (s := ⟨_, []⟩) (s' := ⟨[(0, pt g 0), (1, sv b o z.length c), (4, .nilIface)], []⟩) (fst_snd (by kernel_rfl)) hE
 have hS := end_mem (s := ⟨[], _⟩) (s' := ⟨[], [(110, some (.ry D (some ⟨b, o, none⟩) z)), (101, some (.blk g 238 #[.bool pad, .int .u8 0, .int .u8 0, .int .u16 0, .int .u32 0, .int .u32 0, .int .u16 0, .int .u16 0, .int .u32 0, .int .u8 0, .slice none 0 0, .slice none 0 0]))]⟩) (fst_snd (by kernel_rfl)) hS
 refine rgp hE hS [pu, pu, ix, rb 110 0, pe (.int .u8 (gi z 0)), pe (.int .u8 (n : Nat)), pu, pu, st 101] kp0 (fun _ => kP [(101, some (.blk g 238 #[.bool pad, .int .u8 (n : Nat), .int .u8 0, .int .u16 0, .int .u32 0, .int .u32 0, .int .u16 0, .int .u16 0, .int .u32 0, .int .u8 0, .slice none 0 0, .slice none 0 0]))]) (fun _ => ⟨kr (show 0 < z.length by omega), kr (show 0 < (z).length by omega), kr (shr0 .u8 (gi z 0)), kr (congrArg (Value.int .u8) hd.cnt), trivial⟩) fun _ a u hE hS => ?_
 refine rgp hE hS [pu, pu, ix, rb 110 1, pu, pu, st 101] kp0 (fun _ => kP [(101, some (.blk g 238 #[.bool pad, .int .u8 (n : Nat), .int .u8 (gi z 1), .int .u16 0, .int .u32 0, .int .u32 0, .int .u16 0, .int .u16 0, .int .u32 0, .int .u8 0, .slice none 0 0, .slice none 0 0]))]) (fun _ => ⟨kr (show 1 < z.length by omega), kr (show 1 < (z).length by omega), trivial⟩) fun _ a u hE hS => ?_
 refine rgp hE hS [pu, pu, rsl 110 112, cl cB16 [112] [], pu, pu, st 101] kp0 (fun _ => kP [(101, some (.blk g 238 #[.bool pad, .int .u8 (n : Nat), .int .u8 (gi z 1), .int .u16 (rd16 (z.drop 2) 0), .int .u32 0, .int .u32 0, .int .u16 0, .int .u16 0, .int .u32 0, .int .u8 0, .slice none 0 0, .slice none 0 0]))]) (fun _ => ⟨kr (show 2 ≤ z.length ∧ z.length ≤ z.length ∧ z.length ≤ c by omega), kr (show 2 ≤ (z.drop 2).length ∧ (z.drop 2).length ≤ (c - 2) ∧ 0 < (z.drop 2).length by simp only [List.length_drop]; omega), trivial⟩) fun _ a u hE hS => ?_
 refine rg hE hS [pu] kp0 kP0 fun _ a u hE hS => ?_
 refine wp_ret ?_
 have hbl := pcB (g := g) (T := 238) (cs := #[.bool pad, .int .u8 (n : Nat), .int .u8 (gi z 1), .int .u16 (rd16 (z.drop 2) 0), .int .u32 0, .int .u32 0, .int .u16 0, .int .u16 0, .int .u32 0, .int .u8 0, .slice none 0 0, .slice none 0 0]) hS 101
 rw [rd16_drop, hd.ty, hd.ln] at hbl
 exact ret1 hE Tryz.results71 .nilIface ⟨rfl, hS.grownBy (some g) (fun _ e => by rw [e]), hbl⟩

end Go.Proofs.YtmmfpgoodfgkbaaGreatDoor
