/-
  THE WALKS of the package's reading of a datagram of one packet, and of the thin package's. Condition: the contract of the reading.
-/
import Derived.Test.YtmmfpgoodfgkbaaGreatDoorFac
import Derived.Test.YtmmfpgoodfgkbaaGreatDoorPl13
namespace Go.Proofs.YtmmfpgoodfgkbaaGreatDoor
open Go Go.RowKit
set_option maxHeartbeats 4000000
set_option maxRecDepth 100000
set_option linter.unusedVariables false
set_option linter.unusedSimpArgs false

section
variable {P : Program} {n : Nat} {a : Act} {w : World} {Q : Exit → Act → World → Prop} {l0 : List (Nat × Value)} {L0 : PL} {olds : Nat → Prop} {w0 : World}
theorem loop_one {X : Type} {c : Code} (hE : Env n l0 a) (hS : Stp olds w0 w (lookM (den olds w0 L0))) (I : X → Prop) (J : X → List (Nat × Value)) (L : X → PL)
  (h0 : ∀ K : Act → World → Prop, (∀ (x : X) (a' : Act) (w' : World) (lc : List (Nat × Value)) (Lc : PL), I x → Env n lc a' → Stp olds w0 w' (lookM (den olds w0 Lc)) → (endChk ⟨lc, Lc⟩ ⟨J x, L x⟩).map (·.1) = (endChk ⟨lc, Lc⟩ ⟨J x, L x⟩).map (·.2) → K a' w') → c.wp P (Exit.then K Q) a w)
  (h1 : ∀ x a' w', I x → Env n (J x) a' → Stp olds w0 w' (lookM (den olds w0 (L x))) → ∀ K : Act → World → Prop, c.wp P (Exit.then K Q) a' w') : (Code.loop c).wp P Q a w := by
 refine wp_loop_up 1 (fun k a' w' => (k = 0 ∧ a' = a ∧ w' = w) ∨ (k = 1 ∧ ∃ x, I x ∧ Env n (J x) a' ∧ Stp olds w0 w' (lookM (den olds w0 (L x))))) (.inl ⟨rfl, rfl, rfl⟩) fun k a1 w1 hk hI K hK => ?_
 rcases hI with ⟨rfl, rfl, rfl⟩ | ⟨rfl, x, hx, hE1, hS1⟩
 ·exact h0 K fun x a' w' lc Lc hx hE' hS' hc => hK a' w' (by omega) (.inr ⟨rfl, x, hx, end_env (s' := ⟨J x, L x⟩) (fst_snd hc) hE', end_mem (s' := ⟨J x, L x⟩) (fst_snd hc) hS'⟩)
 ·exact h1 x a1 w1 hx hE1 hS1 K
end
def slO : Oper := { dst := none, op := .slice 25 (.tmp 0) (some (.tmp 1)) none none, type := 0, pos := "", after := #[], guard := none }
def tailV (b n c : Nat) : Value := .slice (bif Nat.beq c n then some ⟨b, 0, none⟩ else some ⟨b, n, none⟩) 0 (c - n)
theorem tail_run (b n c : Nat) : ∀ w, (execOp (fun o => match o with | .tmp 0 => .slice (some ⟨b, 0, none⟩) n c | _ => .int .i64 (n : Nat)) slO).run Tryz.prog w = .ok (.value (tailV b n c)) w := by
 intro w
 unfold tailV
 simp only [execOp, slO]
 go_simp
def adO : Option Addr → Nat
 | some a => a.off
 | none => 0
def ifc (x : Pay) : Value := .iface (adO x.a) (.pointer (some ⟨blkA x.a, 0, none⟩))
def ckE2 (b : Nat) (ob : Option Obj) (R : Pkt → Prop) (x : Pay) : Ck :=
 ⟨fun y => x.g ≤ y ∧ y < x.c, fun w => NoComp (adO x.a) ∧ (ckEc b ob x.g x.c (ifc x) R).ok w, fun w w' hk h => ⟨h.1, (ckEc b ob x.g x.c (ifc x) R).st w w' hk h.2⟩⟩
def FacP (z : List Int) (R : Pkt → Prop) : Prop :=
 ∀ b c w, RowD w (· = b) (some ⟨b, 0, none⟩) z → b < w.heap.size → z.length ≤ c → Calls Tryz.prog 77 #[.slice (some ⟨b, 0, none⟩) z.length c] w fun e w' => ∃ tp g, e = .returned (.tuple #[.iface tp (.pointer (some ⟨g, 0, none⟩)), .int .i64 (z.length : Nat), .nilIface]) ∧ NoComp tp ∧ Below w.heap.size w w' ∧ (ckEc b w.heap[b]? w.heap.size w'.heap.size (.iface tp (.pointer (some ⟨g, 0, none⟩))) R).ok w'
theorem cu_fac {w0 : World} {z : List Int} {R : Pkt → Prop} {b c : Nat} (j k : Nat) {u : Option Pc} (hF : FacP z R) (hbs : b < w0.heap.size) (hcl : z.length ≤ c) (L : PL) (w : World)
  (hps : [some (.ry (· = b) (some ⟨b, 0, none⟩) z), u] = ([j] ++ [k]).map (lookP L)) (hS : Stp (fun _ => False) w0 w (restr ([j] ++ [k]) (lookM (den (fun _ => False) w0 L)))) :
  Calls Tryz.prog 77 #[.slice (some ⟨b, 0, none⟩) z.length c] w fun e w' => ∃ x : Pay, e = .returned (.tuple #[ifc x, .int .i64 (z.length : Nat), .nilIface]) ∧ Stp (blksOf (lookM (den (fun _ => False) w0 L)) [k]) w w' (lookM (den (fun _ => False) w0 (zipW [k] [some (.ck (ckE2 b w0.heap[b]? R x))]))) := by
 simp only [List.cons_append, List.nil_append, List.map_cons, List.map_nil, List.cons.injEq] at hps
 have rk : restr ([j] ++ [k]) (lookM (den (fun _ => False) w0 L)) j = some (ckP (RdB (fun _ => False) w0 (· = b) (some ⟨b, 0, none⟩) z ∧ Byts z)) := by simp [restr, hasN, lookM_den, ← hps.1, Pc.den]
 have hpc := hS.pure_ j rk
 have hkb : w.heap[b]? = w0.heap[b]? := hS.kept b hbs id
 have hr : RowD w (· = b) (some ⟨b, 0, none⟩) z := fun hn => by
  obtain ⟨ad, e, h1, h2⟩ := hpc.1.1 hn
  have h3 := hpc.1.2 _ h1
  exact ⟨ad, e, h1, fun i u hu => (World.cell?_of_block (by rw [block_of_add]; exact hS.kept _ h3.1 h3.2)).trans (h2 i u hu)⟩
 refine (hF b c w hr (Nat.lt_of_lt_of_le hbs hS.size) hcl).mono ?_
 rintro e w' ⟨tp, g, rfl, hN, hB, hok⟩
 rw [hkb] at hok
 exact ⟨⟨w.heap.size, w'.heap.size, undef, some ⟨g, tp, none⟩⟩, rfl, stp_make (c' := .ck (ckE2 b w0.heap[b]? R ⟨w.heap.size, w'.heap.size, undef, some ⟨g, tp, none⟩⟩)) hB ⟨hN, hok⟩ fun y hy => ⟨hy.2, hy.1⟩⟩
def ckL (b : Nat) (ob : Option Obj) (R : Pkt → Prop) (B E : Nat) (A : Option Addr) (tp g : Nat) : Ck :=
 ⟨fun y => B ≤ y ∧ y < E, fun w => ∀ w', (∀ y, B ≤ y ∧ y < E → w'.heap[y]? = w.heap[y]?) → w'.heap[b]? = ob → Reads w' w'.heap.size 1 A 1 [.iface tp (.pointer (some ⟨g, 0, none⟩))] ∧ NoComp tp ∧ Calls Tryz.prog 78 #[.iface tp (.pointer (some ⟨g, 0, none⟩))] w' (PlainOut w' R), fun _ _ h hw w2 h2 => hw w2 fun g hg => (h2 g hg).trans (h g hg)⟩
theorem rd_ofL {w' w'' : World} {B n : Nat} {A : Option Addr} {xs : List Value} (h : InRows w' B w'.heap.size 1 A n xs) (hn : 0 < n) (hk : ∀ x, B ≤ x ∧ x < w'.heap.size → w''.heap[x]? = w'.heap[x]?) : Reads w'' w''.heap.size 1 A n xs :=
 (h.st hk).readsH fun g hg => by
  have := hk g hg
  rw [Array.getElem?_eq_getElem hg.2] at this
  exact (Array.getElem?_eq_some_iff.1 this).1
theorem unmL_any (b c : Nat) (z : List Int) (w : World) (hz : Byts z) (h0 : 0 < z.length) (hr : RowD w (· = b) (some ⟨b, 0, none⟩) z) (hbs : b < w.heap.size) (hc : z.length ≤ c) (R : Pkt → Prop) (hF : FacP z R) :
  Calls Tryz.prog 44 #[.slice (some ⟨b, 0, none⟩) z.length c] w fun e w' => ∃ (A : Option Addr) (c2 tp g : Nat), e = .returned (.tuple #[.slice A (0 + 1) c2, .nilIface]) ∧ (ckL b w.heap[b]? R w.heap.size w'.heap.size A tp g).ok w' ∧ Below w.heap.size w w' := by
 refine go_in Tryz.func44 rfl Tryz.ntmps44 [sv b 0 z.length c] fun a hE => ?_
 have hS := stp_in w
 have hS := stp_ry1 hS 110 hr (fun x hx => ⟨hx ▸ hbs, id⟩) hz
 have hS := stp_row0 hS 1 w.heap.size 77 1
 refine rg hE hS [pu, pu] (fun _ => kp [(2, .slice none 0 0), (3, .nilIface)]) kP0 fun _ a u hE hS => ?_
 refine rg hE hS [pu] (fun _ => kp [(4, .slice none 0 0)]) kP0 fun _ a u hE hS => ?_
 refine wp_seq ?_
 refine wp_block ?_
 refine loop_one hE hS (fun (_ : Pay × Pay) => True) (fun x => [(0, tailV b z.length c), (4, .slice x.1.a (0 + 1) x.1.c)]) (fun x => [(1, some (.row w.heap.size 77 1 (.slice x.1.a (0 + 1) x.1.c) (0 + 1) ([] ++ [ifc x.2]))), (95, some (.ck (ckE2 b w.heap[b]? R x.2)))]) (fun K hK => ?_) fun x a u _ hE hS K => ?_
 ·skip
  refine wp_seq ?_
  refine rgp hE hS [pu, pu, pe (.bool true)] (fun _ => kp [(10, .bool true)]) kP0 (fun _ => ⟨kr (cbV (bne_iff_ne.2 (show ((z.length : Nat) : Int) ≠ 0 by omega))), trivial⟩) fun _ a u hE hS => ift hE <| wp_skip <| wp_block ?_
  refine rgp hE hS [pu, cu 77 [110] [95] (fun y => .tuple #[ifc y, .int .i64 (z.length : Nat), .nilIface]) (fun y => [some (.ck (ckE2 b w.heap[b]? R y))]), pu, pu, pu, pu, pu, pu, pu] (fun p4 => kp [(5, ifc (p4 1)), (6, .int .i64 (z.length : Nat)), (7, .nilIface)]) (fun p4 => kP [(95, some (.ck (ckE2 b w.heap[b]? R (p4 1))))]) (fun _ => ⟨kr (cu_fac (w0 := w) (b := b) (c := c) 110 95 (u := none) hF hbs hc), trivial⟩) fun p4 a u hE hS => ?_
  refine wp_seq ?_
  refine rg hE hS [pu, pu] (fun _ => kp [(18, .bool false)]) kP0 fun _ a u hE hS => iff hE <| wp_skip ?_
  refine rgp hE hS [pu, pu, nw 92, ap 1 [92], pu] (fun p6 => kp [(4, .slice (p6 3).a (0 + 1) (p6 3).c)]) (fun p6 => kP [(1, some (.row w.heap.size 77 1 (.slice (p6 3).a (0 + 1) (p6 3).c) (0 + 1) ([] ++ [ifc (p4 1)])))]) (fun _ => ⟨kr (show w.heap.size ≤ w.heap.size ∧ (0 + 1) * 16 ≤ 140737488355328 ∧ ∀ u ∈ [ifc (p4 1)], u.oneCell' = true from ⟨Nat.le_refl _, by omega, by intro u hu; simp at hu; rw [hu]; rfl⟩), trivial⟩) fun p6 a u hE hS => ?_
  refine rgE hE hS [pu, pu, pf (tailV b z.length c), pu] (fun _ => kp [(0, tailV b z.length c)]) kP0 (fun _ => ⟨kr (tail_run b z.length c), trivial⟩) fun _ a u hE hS => ?_
  exact hK ((p6 3), (p4 1)) a u _ _ trivial hE hS (by kernel_rfl)
 ·skip
  obtain ⟨xp, xe⟩ := x
  refine wp_seq ?_
  refine rg hE hS [pu, pu, pu] (fun _ => kp [(10, .bool false)]) kP0 fun _ a u hE hS => iff hE ?_
  refine wp_exit ?_
  refine rg hE hS [pu, pu] (fun _ => kp [(28, .int .i64 ((0 + 1 : Nat) : Int))]) kP0 fun _ a u hE hS => wp_block ?_
  refine rg hE hS [pu, pu] (fun _ => kp [(30, .bool false)]) kP0 fun _ a u hE hS => iff hE ?_
  refine rg hE hS [pu, pu, pu] (fun _ => kp [(2, .slice xp.a (0 + 1) xp.c), (3, .nilIface)]) kP0 fun _ a u hE hS => ?_
  refine wp_ret (bkR ?_)
  have hrow := pcR (base := w.heap.size) (e := 77) (size := 1) (v := .slice xp.a (0 + 1) xp.c) (n := 0 + 1) (xs := [] ++ [ifc xe]) hS 1
  have hok := hS.ok 95 (ckE2 b w.heap[b]? R xe) (by kernel_rfl)
  have hlt := hS.lt 95 (ckE2 b w.heap[b]? R xe) (by kernel_rfl)
  refine ret2 hE Tryz.results44 (.slice xp.a (0 + 1) xp.c) .nilIface ⟨xp.a, xp.c, adO xe.a, blkA xe.a, rfl, ?_, hS.below⟩
  intro w2 h1 h2
  refine ⟨?_, hok.1, hok.2 w2 (fun x hx => h1 x ⟨(hlt x hx).2.resolve_right id, (hlt x hx).1⟩) h2⟩
  exact rd_ofL (InRows.of_own hrow) (by omega) h1

theorem cells_one (q : Pkt) : ∀ u ∈ q.cells.toList, u.oneCell' = true := by
 intro u hu
 simp [Pkt.cells] at hu
 rcases hu with rfl | rfl | rfl | rfl | rfl | rfl | rfl | rfl | rfl | rfl | rfl | rfl | rfl | rfl | rfl | rfl | rfl | rfl | rfl | rfl | rfl | rfl | rfl | rfl | rfl | rfl | rfl | rfl | rfl | rfl <;> rfl
theorem cu_plainH {w0 : World} {v : Value} {R : Pkt → Prop} {ps : List (Option Pc)} (k : Nat) (h : ∀ w', (∀ x, x < w0.heap.size → w'.heap[x]? = w0.heap[x]?) → Calls Tryz.prog 78 #[v] w' (PlainOut w' R)) (L : PL) (w : World)
  (_ : ps = ([] ++ [k]).map (lookP L)) (hS : Stp (fun _ => False) w0 w (restr ([] ++ [k]) (lookM (den (fun _ => False) w0 L)))) :
  Calls Tryz.prog 78 #[v] w fun e w' => ∃ x : Pay, e = .returned (.agg (dP x.v).cells) ∧ Stp (blksOf (lookM (den (fun _ => False) w0 L)) [k]) w w' (lookM (den (fun _ => False) w0 (zipW [k] [some (.ck (ckQ R x))]))) := by
 refine (h w fun x hx => hS.kept x hx id).mono ?_
 rintro e w' ⟨q, rfl, hB, hN, hR⟩
 refine ⟨⟨w.heap.size, w'.heap.size, vP q, none⟩, by rw [dP_v], ?_⟩
 exact stp_make (c' := .ck (ckQ R ⟨w.heap.size, w'.heap.size, vP q, none⟩)) hB ⟨by rw [dP_v]; exact hN, by rw [dP_v]; exact hR⟩ fun y hy => ⟨hy.2, hy.1⟩
theorem plains_any (A : Option Addr) (c tp g : Nat) (w : World) (R : Pkt → Prop) (hr : Reads w w.heap.size 1 A 1 [.iface tp (.pointer (some ⟨g, 0, none⟩))]) (hNC : NoComp tp) (hpl : ∀ w', (∀ x, x < w.heap.size → w'.heap[x]? = w.heap[x]?) → Calls Tryz.prog 78 #[.iface tp (.pointer (some ⟨g, 0, none⟩))] w' (PlainOut w' R)) :
  Calls Tryz.prog 46 #[.slice A (0 + 1) c] w fun e w' => ∃ (A2 : Option Addr) (c2 : Nat) (q : Pkt), e = .returned (.slice A2 (0 + 1) c2) ∧ InRows w' w.heap.size w'.heap.size 30 A2 (0 + 1) ([] ++ q.cells.toList) ∧ q.NewX w' w.heap.size w'.heap.size ∧ R q ∧ Below w.heap.size w w' := by
 refine go_in Tryz.func46 rfl Tryz.ntmps46 [.slice A (0 + 1) c] fun a hE => ?_
 have hS := stp_in w
 have hS := stp_row0 hS 1 w.heap.size 56 30
 have hrf : Reads w w.heap.size 1 A 1 (([0] : List Nat).flatMap fun _ => [.iface tp (.pointer (some ⟨g, 0, none⟩))]) := hr
 refine rg hE hS [pu] (fun _ => kp [(2, .slice none 0 0)]) kP0 fun _ a u hE hS => ?_
 refine rg hE hS [pu] (fun _ => kp [(3, .slice none 0 0)]) kP0 fun _ a u hE hS => ?_
 refine wp_seq ?_
 refine rg hE hS [pu, pu, pu] (fun _ => kn [(8, .slice A (0 + 1) c), (9, .int .i64 ((0 + 1 : Nat) : Int)), (10, .int .i64 0)] [2, 3]) (fun _ => kN [] [1]) fun _ a u hE hS => wp_block ?_
 refine loop_one hE hS (fun (_ : Pay × Pay) => True) (fun x => [(3, .slice x.1.a (0 + 1) x.1.c), (9, .int .i64 ((0 + 1 : Nat) : Int)), (10, .int .i64 1)]) (fun x => [(1, some (.row w.heap.size 56 30 (.slice x.1.a (0 + 1) x.1.c) (0 + 1) ([] ++ (dP x.2.v).cells.toList))), (94, some (.ck (ckQ R x.2)))]) (fun K hK => ?_) fun x a u _ hE hS K => ?_
 ·skip
  have hS := stp_el hS 90 (el_at (l := ([0] : List Nat)) (f := fun _ => [.iface tp (.pointer (some ⟨g, 0, none⟩))]) hrf (fun _ _ => rfl) rfl (fun g hg => ⟨hg, id⟩) 0 (by decide) (by omega))
  refine rg hE hS [pu] (fun _ => kp [(11, .bool true)]) kP0 fun _ a u hE hS => ?_
  refine wp_seq ?_
  refine ift hE <| wp_skip ?_
  refine wp_seq ?_
  refine wp_block ?_
  refine rgp hE hS [ie 90, le 90 0, pu] (fun _ => kp [(5, .iface tp (pt g 0))]) kP0 (fun _ => ⟨kr (show 0 < 0 + 1 by omega), trivial⟩) fun _ a u hE hS => ?_
  refine wp_seq ?_
  refine rgp hE hS [pu, pf (.tuple #[.pointer none, .bool false]), pu, pu, pu, pu, pu] (fun _ => kp [(6, .pointer none), (7, .bool false)]) kP0 (fun _ => ⟨kr (hNC g), trivial⟩) fun _ a u hE hS => ?_
  refine rg hE hS [pu] (fun _ => kp [(19, .bool false)]) kP0 fun _ a u hE hS => iff hE <| wp_skip ?_
  refine rgE hE hS [pu, pu, cu 78 [] [94] (fun y => .agg (dP y.v).cells) (fun y => [some (.ck (ckQ R y))]), nw 92, ap 1 [92], pu] (fun p8 => kp [(3, .slice (p8 4).a (0 + 1) (p8 4).c)]) (fun p8 => kP [(1, some (.row w.heap.size 56 30 (.slice (p8 4).a (0 + 1) (p8 4).c) (0 + 1) ([] ++ (dP (p8 2).v).cells.toList))), (94, some (.ck (ckQ R (p8 2))))]) (fun p8 => ⟨kr (cu_plainH (w0 := w) (ps := [none]) 94 hpl), kr (show w.heap.size ≤ w.heap.size ∧ (0 + 1) * 360 ≤ 140737488355328 ∧ ∀ u ∈ (dP (p8 2).v).cells.toList, u.oneCell' = true from ⟨Nat.le_refl _, by omega, cells_one _⟩), trivial⟩) fun p8 a u hE hS => ?_
  refine rgE hE hS [pu, pu] (fun _ => kp [(10, .int .i64 1)]) kP0 (fun _ => trivial) fun _ a u hE hS => ?_
  exact hK ((p8 4), (p8 2)) a u _ _ trivial hE hS (by kernel_rfl)
 ·skip
  obtain ⟨xp, xe⟩ := x
  refine rg hE hS [pu] (fun _ => kp [(11, .bool false)]) kP0 fun _ a u hE hS => ?_
  refine wp_seq ?_
  refine iff hE ?_
  refine wp_exit ?_
  refine rg hE hS [pu, pu] (fun _ => kp [(2, .slice xp.a (0 + 1) xp.c)]) kP0 fun _ a u hE hS => ?_
  refine wp_ret ?_
  have hrow := InRows.of_own (pcR (base := w.heap.size) (e := 56) (size := 30) (v := .slice xp.a (0 + 1) xp.c) (n := 0 + 1) (xs := [] ++ (dP xe.v).cells.toList) hS 1)
  have hq := hS.ok 94 (ckQ R xe) (by kernel_rfl)
  have hlt := hS.lt 94 (ckQ R xe) (by kernel_rfl)
  exact ret1 hE Tryz.results46 (.slice xp.a (0 + 1) xp.c) ⟨xp.a, xp.c, dP xe.v, rfl, hrow, hq.1.wide (fun y hy => ⟨(hlt y hy).2.resolve_right id, (hlt y hy).1⟩), hq.2, hS.below⟩

end Go.Proofs.YtmmfpgoodfgkbaaGreatDoor
namespace Go.Proofs.YtmmfpgoodfgkbaaGreatDoor
open Go Go.RowKit
set_option maxHeartbeats 4000000
set_option maxRecDepth 100000
set_option linter.unusedVariables false
set_option linter.unusedSimpArgs false

def ifn : Value → Nat
 | .iface t _ => t
 | _ => 0
def ifv : Value → Value
 | .iface _ v => v
 | v => v
def ptB : Value → Nat
 | .pointer (some a) => a.block
 | _ => 0
def ckL2 (R : Pkt → Prop) (x : Pay) : Ck :=
 ⟨fun y => y = ptB (ifv x.v) ∨ (x.g ≤ y ∧ y < ifn x.v), fun w => ∃ tp g, ∀ w', (∀ y, y = ptB (ifv x.v) ∨ (x.g ≤ y ∧ y < ifn x.v) → w'.heap[y]? = w.heap[y]?) → Reads w' w'.heap.size 1 x.a 1 [.iface tp (.pointer (some ⟨g, 0, none⟩))] ∧ NoComp tp ∧ Calls Tryz.prog 78 #[.iface tp (.pointer (some ⟨g, 0, none⟩))] w' (PlainOut w' R), fun _ _ h ⟨tp, g, hw⟩ => ⟨tp, g, fun w2 h2 => hw w2 fun g hg => (h2 g hg).trans (h g hg)⟩⟩
def ckQL (R : Pkt → Prop) (x : Pay) : Ck :=
 ⟨fun y => x.g ≤ y ∧ y < ifn x.v, fun w => InRows w x.g (ifn x.v) 30 x.a (0 + 1) ((dP (ifv x.v)).cells.toList) ∧ (dP (ifv x.v)).NewX w x.g (ifn x.v) ∧ R (dP (ifv x.v)), fun w w' hk h => ⟨h.1.st hk, h.2.1.st hk, h.2.2⟩⟩
section
variable {olds : Nat → Prop} {w0 : World}
theorem cu_unm {base : Nat} {A : Option Addr} {c : Nat} {z : List Int} {R : Pkt → Prop} (j k : Nat) {u : Option Pc} (hz : 0 < z.length) (hby : Byts z) (hF : FacP z R) (L : PL) (w : World)
  (hps : [some (.row base 5 1 (.slice A z.length c) z.length (u8s z)), u] = ([] ++ [j, k]).map (lookP L)) (hS : Stp olds w0 w (restr ([] ++ [j, k]) (lookM (den olds w0 L)))) :
  Calls Tryz.prog 44 #[.slice A z.length c] w fun e w' => ∃ x : Pay, e = .returned (.tuple #[.slice x.a (0 + 1) x.c, .nilIface]) ∧ Stp (blksOf (lookM (den olds w0 L)) [j, k]) w w' (lookM (den olds w0 (zipW [j, k] [none, some (.ck (ckL2 R x))]))) := by
 simp only [List.nil_append, List.map_cons, List.map_nil, List.cons.injEq] at hps
 have hl2 : lookM (den olds w0 L) j = some (ckR base 5 1 (.slice A z.length c) z.length (u8s z)) := by rw [lookM_den, ← hps.1]; rfl
 have r2 : restr ([] ++ [j, k]) (lookM (den olds w0 L)) j = some (ckR base 5 1 (.slice A z.length c) z.length (u8s z)) := by simp [restr, hasN, hl2]
 have hr := hS.row j r2
 obtain ⟨b, cap, hv, hbb, hbl⟩ := hr.form hz
 injection hv with hA _ _
 subst hA
 have hcap : z.length ≤ c := by
  rcases hr.2 with ⟨h1, h2⟩ | ⟨g', cap', cur, hv', h1, h2, h3, h4⟩
  ·injection h1 with h1; cases h1
  ·injection hv' with _ _ e2; omega
 refine (unmL_any b c z w hby hz (fun _ => ⟨_, rfl, rfl, hr.cells (g := b) rfl⟩) hbl hcap R hF).mono ?_
 rintro e w' ⟨A2, c2, tp, g, rfl, hok, hB⟩
 refine ⟨⟨w.heap.size, c2, .iface w'.heap.size (.pointer (some ⟨b, 0, none⟩)), A2⟩, rfl, ?_⟩
 have hkb : w'.heap[b]? = w.heap[b]? := hB.block b hbl
 have hok2 : (ckL2 R ⟨w.heap.size, c2, .iface w'.heap.size (.pointer (some ⟨b, 0, none⟩)), A2⟩).ok w' := ⟨tp, g, fun w2 h2 => hok w2 (fun y hy => h2 y (.inr hy)) ((h2 b (.inl rfl)).trans hkb)⟩
 have h1 : Stp (blksOf (lookM (den olds w0 L)) [j, k]) w w' (lookM [(k, some (ckL2 R ⟨w.heap.size, c2, .iface w'.heap.size (.pointer (some ⟨b, 0, none⟩)), A2⟩))]) :=
  stp_one k _ (.inl (grownBy_of_below hB none)) hok2 fun x hx => by
   have hsz := hB.size
   rcases hx with e | e
   ·have e : x = b := e
    exact ⟨by omega, .inr ⟨j, by simp, _, hl2, by show Value.ownBlock _ = some x; rw [e]; rfl⟩⟩
   ·exact ⟨e.2, .inl e.1⟩
 refine h1.sub fun n c' hc => ?_
 show lookM [(k, some (ckL2 R ⟨w.heap.size, c2, .iface w'.heap.size (.pointer (some ⟨b, 0, none⟩)), A2⟩))] n = some c'
 have hc' : lookM [(j, none), (k, some (ckL2 R ⟨w.heap.size, c2, .iface w'.heap.size (.pointer (some ⟨b, 0, none⟩)), A2⟩))] n = some c' := hc
 simp only [lookM] at hc' ⊢
 cases hq : Nat.beq j n with
 | true => rw [hq] at hc'; cases hc'
 | false => rw [hq] at hc'; exact hc'
theorem cu_plains {R : Pkt → Prop} {x0 : Pay} {c : Nat} (j k : Nat) {u : Option Pc} (L : PL) (w : World)
  (hps : [some (.ck (ckL2 R x0)), u] = ([j] ++ [k]).map (lookP L)) (hS : Stp olds w0 w (restr ([j] ++ [k]) (lookM (den olds w0 L)))) :
  Calls Tryz.prog 46 #[.slice x0.a (0 + 1) c] w fun e w' => ∃ x : Pay, e = .returned (.slice x.a (0 + 1) x.c) ∧ Stp (blksOf (lookM (den olds w0 L)) [k]) w w' (lookM (den olds w0 (zipW [k] [some (.ck (ckQL R x))]))) := by
 simp only [List.cons_append, List.nil_append, List.map_cons, List.map_nil, List.cons.injEq] at hps
 have hl1 : lookM (den olds w0 L) j = some (ckL2 R x0) := by rw [lookM_den, ← hps.1]; rfl
 have r1 : restr ([j] ++ [k]) (lookM (den olds w0 L)) j = some (ckL2 R x0) := by simp [restr, hasN, hl1]
 obtain ⟨tp, g, hok⟩ := hS.ok j _ r1
 have hlt := hS.lt j _ r1
 refine (plains_any x0.a c tp g w R (hok w fun _ _ => rfl).1 (hok w fun _ _ => rfl).2.1 fun w' hk => (hok w' fun y hy => hk y (hlt y hy).1).2.2).mono ?_
 rintro e w' ⟨A2, c2, q, rfl, hrow, hq, hR, hB⟩
 exact ⟨⟨w.heap.size, c2, .iface w'.heap.size (vP q), A2⟩, rfl, stp_make (c' := .ck (ckQL R ⟨w.heap.size, c2, .iface w'.heap.size (vP q), A2⟩)) hB ⟨by show InRows w' w.heap.size w'.heap.size 30 A2 (0 + 1) (dP (vP q)).cells.toList; rw [dP_v]; exact hrow, by show (dP (vP q)).NewX w' w.heap.size w'.heap.size; rw [dP_v]; exact hq, by show R (dP (vP q)); rw [dP_v]; exact hR⟩ fun y hy => ⟨hy.2, hy.1⟩⟩
end
theorem unmClo (A : Option Addr) (c : Nat) (z : List Int) (R : Pkt → Prop) (hz : 0 < z.length) (hz2 : z.length ≤ 262144) (hby : Byts z) (hF : FacP z R) (g0 g1 : Nat) {w0 : World} (hr : Reads w0 w0.heap.size 1 A z.length (u8s z)) (olds : Nat → Prop) (w : World) (hBw : Below w0.heap.size w0 w) (ho : ∀ g, olds g → w0.heap.size ≤ g) (hS0 : Stp olds w w (lookM (den olds w (zipW [102, 101, 94] [some (.blk g1 60 #[.slice none 0 0]), some (.blk g0 25 #[.slice A z.length c]), none])))) :
  Calls Tryz.prog 43 #[.pointer (some ⟨g0, 0, none⟩), .pointer (some ⟨g1, 0, none⟩)] w fun e w' => ∃ x : Pay, e = .returned (.bool true) ∧ Stp olds w w' (lookM (den olds w (zipW [102, 101, 94] ((fun x => [some (.blk g1 60 #[.slice x.a (0 + 1) x.c]), some (.blk g0 25 #[.slice A z.length c]), some (.ck (ckQL R x))]) x)))) := by
 refine go_in Tryz.func43 rfl Tryz.ntmps43 [pt g0 0, pt g1 0] fun a hE => ?_
 have hS := stp_rem hS0 [(102, some (.blk g1 60 #[.slice none 0 0])), (101, some (.blk g0 25 #[.slice A z.length c]))] (by kernel_rfl)
 refine rg hE hS [pu] (fun _ => kp [(2, .bool false)]) kP0 fun _ a u hE hS => ?_
 refine rgp hE hS [ld 101, cu 45 [] [97] (fun y => .slice y.a z.length y.c) (fun y => [some (.row w.heap.size 5 1 (.slice y.a z.length y.c) z.length (u8s z))]), cu 44 [] [97, 95] (fun y => .tuple #[.slice y.a (0 + 1) y.c, .nilIface]) (fun y => [none, some (.ck (ckL2 R y))]), pu, pu, pu, pu, pu] (fun p2 => kp [(3, .slice (p2 2).a (0 + 1) (p2 2).c), (4, .nilIface)]) (fun p2 => kP [(95, some (.ck (ckL2 R (p2 2))))]) (fun p2 => ⟨kr (cu_cl8 (olds := olds) (w0 := w) (ps := [none]) (B0 := w0.heap.size) 97 A c z hz2 hBw.size ho (hr.below hBw)), kr (cu_unm (olds := olds) (w0 := w) (base := w.heap.size) (A := (p2 1).a) (c := (p2 1).c) 97 95 (u := none) hz hby hF), trivial⟩) fun p2 a u hE hS => ?_
 refine rgp hE hS [pu, cu 46 [95] [94] (fun y => .slice y.a (0 + 1) y.c) (fun y => [some (.ck (ckQL R y))]), st 102] kp0 (fun p3 => kP [(94, some (.ck (ckQL R (p3 1)))), (102, some (.blk g1 60 #[.slice (p3 1).a (0 + 1) (p3 1).c]))]) (fun _ => ⟨kr (cu_plains (olds := olds) (w0 := w) (R := R) (x0 := p2 2) (c := (p2 2).c) 95 94 (u := none)), trivial⟩) fun p3 a u hE hS => ?_
 refine rg hE hS [pu, pu, pu] (fun _ => kp [(2, .bool true)]) kP0 fun _ a u hE hS => ?_
 refine wp_ret ?_
 exact ret1 hE Tryz.results43 (.bool true) ⟨p3 1, rfl, end_mem (s := ⟨[], _⟩) (s' := ⟨[], _⟩) (fst_snd (by kernel_rfl)) hS⟩
theorem unmarshal_any (A : Option Addr) (c : Nat) (z : List Int) (R : Pkt → Prop) (hz : 0 < z.length) (hz2 : z.length ≤ 262144) (hby : Byts z) (hF : FacP z R) (w : World) (hr : Reads w w.heap.size 1 A z.length (u8s z)) :
  Calls Tryz.prog 11 #[.slice A z.length c] w fun e w' => ∃ (A2 : Option Addr) (c2 : Nat) (q : Pkt), e = .returned (.tuple #[.slice A2 (0 + 1) c2, .bool true]) ∧ InRows w' w.heap.size w'.heap.size 30 A2 (0 + 1) q.cells.toList ∧ q.NewX w' w.heap.size w'.heap.size ∧ R q ∧ Below w.heap.size w w' := by
 refine go_in Tryz.func11 rfl Tryz.ntmps11 [.slice A z.length c] fun a hE => ?_
 have hS := stp_in w
 refine rg hE hS [nw 101, nw 102, pu] (fun p1 => kp [(1, pt (p1 0).g 0), (2, pt (p1 1).g 0), (3, .bool false)]) (fun p1 => kP [(101, some (.blk (p1 0).g 25 #[.slice A z.length c])), (102, some (.blk (p1 1).g 60 #[.slice none 0 0]))]) fun p1 a u hE hS => ?_
 refine rgp hE hS [pu, cu 20 [] [102, 101, 94] (fun _ => .bool true) (fun x => [some (.blk (p1 1).g 60 #[.slice x.a (0 + 1) x.c]), some (.blk (p1 0).g 25 #[.slice A z.length c]), some (.ck (ckQL R x))]), pu] (fun _ => kp [(3, .bool true)]) (fun p2 => kP [(102, some (.blk (p1 1).g 60 #[.slice (p2 1).a (0 + 1) (p2 1).c])), (94, some (.ck (ckQL R (p2 1))))]) (fun _ => ⟨kr (try_cu (w0 := w) (ps := [some (.blk (p1 1).g 60 #[.slice none 0 0]), some (.blk (p1 0).g 25 #[.slice A z.length c]), none]) (W := fun x => [some (.blk (p1 1).g 60 #[.slice x.a (0 + 1) x.c]), some (.blk (p1 0).g 25 #[.slice A z.length c]), some (.ck (ckQL R x))]) (fun _ => by kernel_rfl) (fun _ _ _ _ => rfl) (fun _ _ _ _ _ => rfl) fun olds w2 hB2 ho hS2 => unmClo A c z R hz hz2 hby hF (p1 0).g (p1 1).g hr olds w2 hB2 ho hS2), trivial⟩) fun p2 a u hE hS => ?_
 refine wp_seq ?_
 refine rg hE hS [pu, pu] (fun _ => kp [(7, .bool false)]) kP0 fun _ a u hE hS => iff hE <| wp_skip ?_
 refine rg hE hS [ld 102, st 102, pu] kp0 kP0 fun _ a u hE hS => ?_
 refine wp_ret ?_
 have hq := hS.ok 94 (ckQL R (p2 1)) (by kernel_rfl)
 have hlt := hS.lt 94 (ckQL R (p2 1)) (by kernel_rfl)
 have hw : ∀ y, (p2 1).g ≤ y ∧ y < ifn (p2 1).v → w.heap.size ≤ y ∧ y < _ := fun y hy => ⟨(hlt y hy).2.resolve_right id, (hlt y hy).1⟩
 exact retct hE hS Tryz.results11 102 (p1 1).g 60 #[.slice (p2 1).a (0 + 1) (p2 1).c] (.slice (p2 1).a (0 + 1) (p2 1).c) (.bool true) ⟨_, _, dP (ifv (p2 1).v), rfl, hq.1.wide hw, hq.2.1.wide hw, hq.2.2, hS.below⟩
end Go.Proofs.YtmmfpgoodfgkbaaGreatDoor
