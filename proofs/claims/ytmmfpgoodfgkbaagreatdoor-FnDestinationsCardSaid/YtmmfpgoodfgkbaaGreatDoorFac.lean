/-
  THE WALK of the package's factory: the first packet of some bytes, read by the method of its kind. Condition: the contract of the reading.
-/
import Derived.Test.YtmmfpgoodfgkbaaGreatDoorUmP
import Derived.Test.YtmmfpgoodfgkbaaGreatDoorPar
namespace Go.Proofs.YtmmfpgoodfgkbaaGreatDoor
open Go Go.RowKit
set_option maxHeartbeats 4000000
set_option maxRecDepth 100000
set_option linter.unusedVariables false
set_option linter.unusedSimpArgs false

def ckFc (g b : Nat) (ob : Option Obj) (B E : Nat) (v : Value) (R : Pkt → Prop) : Ck :=
 ⟨fun x => x = g ∨ (B ≤ x ∧ x < E), fun w => ∀ w', (∀ x, x = g ∨ (B ≤ x ∧ x < E) → w'.heap[x]? = w.heap[x]?) → w'.heap[b]? = ob → Calls Tryz.prog 78 #[v] w' (PlainOut w' R), fun _ _ h hw w2 h2 => hw w2 fun g hg => (h2 g hg).trans (h g hg)⟩
def ckEc (b : Nat) (ob : Option Obj) (B E : Nat) (v : Value) (R : Pkt → Prop) : Ck :=
 ⟨fun x => B ≤ x ∧ x < E, fun w => ∀ w', (∀ x, B ≤ x ∧ x < E → w'.heap[x]? = w.heap[x]?) → w'.heap[b]? = ob → Calls Tryz.prog 78 #[v] w' (PlainOut w' R), fun _ _ h hw w2 h2 => hw w2 fun g hg => (h2 g hg).trans (h g hg)⟩
def taO : Oper := { dst := none, op := .typeAssert (.tmp 0) 77 208 true, type := 0, pos := "", after := #[], guard := none }
def NoComp (tp : TypeId) : Prop := ∀ g w, (execOp (fun _ => .iface tp (.pointer (some ⟨g, 0, none⟩))) taO).run Tryz.prog w = .ok (.value (.tuple #[.pointer none, .bool false])) w
theorem iv_fac {w0 : World} {tp T : TypeId} {zc : Array Value} {z : List Int} {R : Pkt → Prop} {g b c : Nat} (k j i : Nat) {u : Option Pc} (hU : UmP tp T zc z R) (hbs : b < w0.heap.size) (hcl : z.length ≤ c) (L : PL) (w : World)
  (hps : [some (.ry (· = b) (some ⟨b, 0, none⟩) z), some (.blk g T zc), u] = ([k] ++ [j, i]).map (lookP L)) (hS : Stp (fun _ => False) w0 w (restr ([k] ++ [j, i]) (lookM (den (fun _ => False) w0 L)))) :
  Invk Tryz.prog w (.iface tp (.pointer (some ⟨g, 0, none⟩))) "Unmarshal" #[.slice (some ⟨b, 0, none⟩) z.length c] fun e w' => ∃ x : Pay, e = .returned .nilIface ∧ Stp (blksOf (lookM (den (fun _ => False) w0 L)) [j, i]) w w' (lookM (den (fun _ => False) w0 (zipW [j, i] [none, some (.ck (ckFc g b w0.heap[b]? x.g x.c (.iface tp (.pointer (some ⟨g, 0, none⟩))) R))]))) := by
 simp only [List.cons_append, List.nil_append, List.map_cons, List.map_nil, List.cons.injEq] at hps
 have rk : restr ([k] ++ [j, i]) (lookM (den (fun _ => False) w0 L)) k = some (ckP (RdB (fun _ => False) w0 (· = b) (some ⟨b, 0, none⟩) z ∧ Byts z)) := by simp [restr, hasN, lookM_den, ← hps.1, Pc.den]
 have hl1 : lookM (den (fun _ => False) w0 L) j = some (ckB g T zc) := by rw [lookM_den, ← hps.2.1]; rfl
 have r1 : restr ([k] ++ [j, i]) (lookM (den (fun _ => False) w0 L)) j = some (ckB g T zc) := by simp [restr, hasN, hl1]
 have hb := hS.blk j r1
 have hge := (hS.lt j _ r1 g rfl).2.resolve_right id
 have hpc := hS.pure_ k rk
 have hkb : w.heap[b]? = w0.heap[b]? := hS.kept b hbs id
 have hr : RowD w (· = b) (some ⟨b, 0, none⟩) z := fun hn => by
  obtain ⟨ad, e, h1, h2⟩ := hpc.1.1 hn
  have h3 := hpc.1.2 _ h1
  exact ⟨ad, e, h1, fun i u hu => (World.cell?_of_block (by rw [block_of_add]; exact hS.kept _ h3.1 h3.2)).trans (h2 i u hu)⟩
 refine (hU g b c w hb hr (Nat.lt_of_lt_of_le hbs hS.size) (by omega) hcl).mono ?_
 rintro e w' ⟨rfl, hgr, hok⟩
 have hkb2 : w'.heap[b]? = w0.heap[b]? := (hgr.block b (Nat.lt_of_lt_of_le hbs hS.size) fun e => by injection e with e; omega).trans hkb
 refine ⟨⟨w.heap.size, w'.heap.size, undef, none⟩, rfl, ?_⟩
 have hok2 : (ckFc g b w0.heap[b]? w.heap.size w'.heap.size (.iface tp (.pointer (some ⟨g, 0, none⟩))) R).ok w' := fun w2 h1 h2 => hok w2 fun x hx => by
  rcases hx with e | e | e
  ·exact h1 x (.inl e)
  ·subst e; rw [h2, hkb2]
  ·exact h1 x (.inr e)
 have h1 : Stp (blksOf (lookM (den (fun _ => False) w0 L)) [j, i]) w w' (lookM [(i, some (ckFc g b w0.heap[b]? w.heap.size w'.heap.size (.iface tp (.pointer (some ⟨g, 0, none⟩))) R))]) :=
  stp_one i _ (.inr ⟨g, ⟨j, by simp, _, hl1, rfl⟩, hgr⟩) hok2 fun x hx => by
   have hsz := hgr.size
   have hg := hb.lt
   rcases hx with e | e
   ·exact ⟨by omega, .inr ⟨j, by simp, _, hl1, e⟩⟩
   ·exact ⟨e.2, .inl e.1⟩
 refine h1.sub fun n c' hc => ?_
 show lookM [(i, some (ckFc g b w0.heap[b]? w.heap.size w'.heap.size (.iface tp (.pointer (some ⟨g, 0, none⟩))) R))] n = some c'
 have hc' : lookM [(j, none), (i, some (ckFc g b w0.heap[b]? w.heap.size w'.heap.size (.iface tp (.pointer (some ⟨g, 0, none⟩))) R))] n = some c' := hc
 simp only [lookM] at hc' ⊢
 cases hq : Nat.beq j n with
 | true => rw [hq] at hc'; cases hc'
 | false => rw [hq] at hc'; exact hc'
structure FacOk (z : List Int) (n : Nat) (t : Int) (R : Pkt → Prop) : Prop where
 known : kindOf (n : Int) t ≠ 0
 k1 : t = 200 → UmP 79 162 #[.int .u32 0, .int .u64 0, .int .u32 0, .int .u32 0, .int .u32 0, .slice none 0 0, .slice none 0 0] z R := by intro h; exact absurd h (by decide)
 k2 : t = 201 → UmP 85 164 #[.int .u32 0, .slice none 0 0, .slice none 0 0] z R := by intro h; exact absurd h (by decide)
 k3 : t = 202 → UmP 86 202 #[.slice none 0 0] z R := by intro h; exact absurd h (by decide)
 k4 : t = 203 → UmP 87 167 #[.slice none 0 0, .string ByteArray.empty] z R := by intro h; exact absurd h (by decide)
 k5 : t = 204 → UmP 168 170 #[.int .u8 0, .int .u32 0, .string ByteArray.empty, .slice none 0 0] z R := by intro h; exact absurd h (by decide)
 k6 : t = 205 → n = 1 → UmP 88 173 #[.int .u32 0, .int .u32 0, .slice none 0 0] z R := by intro h h2; first | exact absurd h (by decide) | exact absurd h2 (by decide)
 k7 : t = 205 → n = 5 → UmP 89 178 #[.int .u32 0, .int .u32 0] z R := by intro h h2; first | exact absurd h (by decide) | exact absurd h2 (by decide)
 k13 : t = 205 → n = 15 → UmP 197 238 #[.bool false, .int .u8 0, .int .u8 0, .int .u16 0, .int .u32 0, .int .u32 0, .int .u16 0, .int .u16 0, .int .u32 0, .int .u8 0, .slice none 0 0, .slice none 0 0] z R := by intro h h2; first | exact absurd h (by decide) | exact absurd h2 (by decide)
 k8 : t = 205 → n = 11 → UmP 90 182 #[.int .u32 0, .slice none 0 0, .int .u32 0] z R := by intro h h2; first | exact absurd h (by decide) | exact absurd h2 (by decide)
 k9 : t = 206 → n = 1 → UmP 91 183 #[.int .u32 0, .int .u32 0] z R := by intro h h2; first | exact absurd h (by decide) | exact absurd h2 (by decide)
 k10 : t = 206 → n = 2 → UmP 92 186 #[.int .u32 0, .int .u32 0, .slice none 0 0] z R := by intro h h2; first | exact absurd h (by decide) | exact absurd h2 (by decide)
 k12 : t = 206 → n = 15 → UmP 94 196 #[.int .u32 0, .float .f32 0, .slice none 0 0] z R := by intro h h2; first | exact absurd h (by decide) | exact absurd h2 (by decide)
 k11 : t = 206 → n = 4 → UmP 93 190 #[.int .u32 0, .int .u32 0, .slice none 0 0] z R := by intro h h2; first | exact absurd h (by decide) | exact absurd h2 (by decide)
theorem fac_any (b c : Nat) (z : List Int) (w : World) {n L : Nat} {t : Int} (hd : Hd z false n t L) (hr : RowD w (· = b) (some ⟨b, 0, none⟩) z) (hbs : b < w.heap.size) (hc : z.length ≤ c) (hzl : z.length = 4 * (L + 1)) (R : Pkt → Prop) (hf : FacOk z n t R) :
  Calls Tryz.prog 77 #[.slice (some ⟨b, 0, none⟩) z.length c] w fun e w' => ∃ tp g, e = .returned (.tuple #[.iface tp (.pointer (some ⟨g, 0, none⟩)), .int .i64 (z.length : Nat), .nilIface]) ∧ NoComp tp ∧ Below w.heap.size w w' ∧ (ckEc b w.heap[b]? w.heap.size w'.heap.size (.iface tp (.pointer (some ⟨g, 0, none⟩))) R).ok w' := by
 refine go_in Tryz.func77 rfl Tryz.ntmps77 [sv b 0 z.length c] fun a hE => ?_
 have hS := stp_in w
 have hS := stp_ry1 hS 110 hr (fun x hx => ⟨hx ▸ hbs, id⟩) hd.byts
 have h4 := hd.len
 have hL : L ≤ 65535 := by have h1 := hd.ln; have h2 := rd16_lt hd.byts 2; omega
 refine rg hE hS [pu, pu, pu] (fun _ => kp [(2, .nilIface), (3, .int .i64 0), (4, .nilIface)]) kP0 fun _ a u hE hS => ?_
 refine rg hE hS [nw 103] (fun p2 => kp [(5, pt (p2 0).g 0)]) (fun p2 => kP [(103, some (.blk (p2 0).g 83 #[.bool false, .int .u8 0, .int .u8 0, .int .u16 0]))]) fun p2 a u hE hS => ?_
 refine rgp hE hS [pu, cu 71 [110] [103] (fun _ => .nilIface) (fun _ => [some (.blk (p2 0).g 83 #[.bool false, .int .u8 (n : Nat), .int .u8 t, .int .u16 (L : Nat)])]), pu] kp0 (fun _ => kP [(103, some (.blk (p2 0).g 83 #[.bool false, .int .u8 (n : Nat), .int .u8 t, .int .u16 (L : Nat)]))]) (fun _ => ⟨kr (cu_hum (w0 := w) (olds := fun _ => False) hd (D := (· = b)) 110 103 b 0 z.length c (p2 0).g rfl hc), trivial⟩) fun _ a u hE hS => ?_
 refine wp_seq ?_
 refine rg hE hS [pu, pu] (fun _ => kp [(10, .bool false)]) kP0 fun _ a u hE hS => iff hE <| wp_skip ?_
 refine rgp hE hS [pu, ld 103, pe (.int .i64 (L : Nat)), pe (.int .i64 ((L + 1 : Nat) : Int)), pe (.int .i64 (z.length : Nat)), pu] (fun _ => kp [(3, .int .i64 (z.length : Nat))]) kP0 (fun _ => ⟨kr (ciV (i64n L (by omega))), kr (ciV (show IntKind.i64.wrap (((L : Nat) : Int) + (1 : Int)) = ((L + 1 : Nat) : Int) from by rw [wiV _ (by omega)]; omega)), kr (ciV (show IntKind.i64.wrap (((L + 1 : Nat) : Int) * 4) = ((z.length : Nat) : Int) from (wiV _ (by omega)).trans (by omega))), trivial⟩) fun _ a u hE hS => ?_
 refine wp_seq ?_
 refine rgp hE hS [pu, pu, pu, pe (.bool false)] (fun _ => kp [(20, .bool false)]) kP0 (fun _ => ⟨kr (cbV (dfV (show ¬ (((z.length : Nat) : Int) > ((z.length : Nat) : Int)) by omega))), trivial⟩) fun _ a u hE hS => iff hE <| wp_skip ?_
 refine rgp hE hS [pu, pu, sc, pu] (fun _ => kp [(6, sv b 0 z.length c)]) kP0 (fun _ => ⟨kr (show 0 ≤ z.length ∧ z.length ≤ c ∧ (0 < c ∨ 0 = 0) by omega), trivial⟩) fun _ a u hE hS => ?_
 refine seq_join2 hE hS (fun (x : Nat × TypeId × TypeId × Array Value) => UmP x.2.1 x.2.2.1 x.2.2.2 z R ∧ NoComp x.2.1) (fun x => [(0, sv b 0 z.length c), (3, .int .i64 (z.length : Nat)), (6, sv b 0 z.length c), (2, .iface x.2.1 (pt x.1 0))]) (fun x => [(104, some (.blk x.1 x.2.2.1 x.2.2.2)), (110, some (.ry (· = b) (some ⟨b, 0, none⟩) z))]) (fun Kj hKj => ?_) fun x a u hI hE hS => ?_
 ·skip
  refine rg hE hS [pu, ld 103] (fun _ => kp [(26, .int .u8 t)]) kP0 fun _ a u hE hS => wp_block ?_
  by_cases h200 : t = 200
  ·skip
   refine rgp hE hS [pe (.bool true), pu] (fun _ => kp [(29, .bool true)]) kP0 (fun _ => ⟨kr (cbV (ebV (show (t : Int) = 200 by exact h200))), trivial⟩) fun _ a u hE hS => ift hE ?_
   refine rgE hE hS [nw 104, pu, pu] (fun p10 => kp [(2, .iface 79 (pt (p10 0).g 0))]) (fun p10 => kP [(104, some (.blk (p10 0).g 162 #[.int .u32 0, .int .u64 0, .int .u32 0, .int .u32 0, .int .u32 0, .slice none 0 0, .slice none 0 0]))]) (fun _ => trivial) fun p10 a u hE hS => ?_
   exact hKj ⟨(p10 0).g, 79, 162, #[.int .u32 0, .int .u64 0, .int .u32 0, .int .u32 0, .int .u32 0, .slice none 0 0, .slice none 0 0]⟩ a u _ _ ⟨hf.k1 h200, fun _ _ => by kernel_rfl⟩ hE hS (by kernel_rfl)
  refine rgp hE hS [pe (.bool false), pu] (fun _ => kp [(29, .bool false)]) kP0 (fun _ => ⟨kr (cbV (nbV (show (t : Int) ≠ 200 by exact h200))), trivial⟩) fun _ a u hE hS => iff hE ?_
  by_cases h201 : t = 201
  ·skip
   refine rgp hE hS [pe (.bool true), pu] (fun _ => kp [(33, .bool true)]) kP0 (fun _ => ⟨kr (cbV (ebV (show (t : Int) = 201 by exact h201))), trivial⟩) fun _ a u hE hS => ift hE ?_
   refine rgE hE hS [nw 104, pu, pu] (fun p13 => kp [(2, .iface 85 (pt (p13 0).g 0))]) (fun p13 => kP [(104, some (.blk (p13 0).g 164 #[.int .u32 0, .slice none 0 0, .slice none 0 0]))]) (fun _ => trivial) fun p13 a u hE hS => ?_
   exact hKj ⟨(p13 0).g, 85, 164, #[.int .u32 0, .slice none 0 0, .slice none 0 0]⟩ a u _ _ ⟨hf.k2 h201, fun _ _ => by kernel_rfl⟩ hE hS (by kernel_rfl)
  refine rgp hE hS [pe (.bool false), pu] (fun _ => kp [(33, .bool false)]) kP0 (fun _ => ⟨kr (cbV (nbV (show (t : Int) ≠ 201 by exact h201))), trivial⟩) fun _ a u hE hS => iff hE ?_
  by_cases h202 : t = 202
  ·skip
   refine rgp hE hS [pe (.bool true), pu] (fun _ => kp [(37, .bool true)]) kP0 (fun _ => ⟨kr (cbV (ebV (show (t : Int) = 202 by exact h202))), trivial⟩) fun _ a u hE hS => ift hE ?_
   refine rgE hE hS [nw 104, pu, pu] (fun p16 => kp [(2, .iface 86 (pt (p16 0).g 0))]) (fun p16 => kP [(104, some (.blk (p16 0).g 202 #[.slice none 0 0]))]) (fun _ => trivial) fun p16 a u hE hS => ?_
   exact hKj ⟨(p16 0).g, 86, 202, #[.slice none 0 0]⟩ a u _ _ ⟨hf.k3 h202, fun _ _ => by kernel_rfl⟩ hE hS (by kernel_rfl)
  refine rgp hE hS [pe (.bool false), pu] (fun _ => kp [(37, .bool false)]) kP0 (fun _ => ⟨kr (cbV (nbV (show (t : Int) ≠ 202 by exact h202))), trivial⟩) fun _ a u hE hS => iff hE ?_
  by_cases h203 : t = 203
  ·skip
   refine rgp hE hS [pe (.bool true), pu] (fun _ => kp [(41, .bool true)]) kP0 (fun _ => ⟨kr (cbV (ebV (show (t : Int) = 203 by exact h203))), trivial⟩) fun _ a u hE hS => ift hE ?_
   refine rgE hE hS [nw 104, pu, pu] (fun p19 => kp [(2, .iface 87 (pt (p19 0).g 0))]) (fun p19 => kP [(104, some (.blk (p19 0).g 167 #[.slice none 0 0, .string ByteArray.empty]))]) (fun _ => trivial) fun p19 a u hE hS => ?_
   exact hKj ⟨(p19 0).g, 87, 167, #[.slice none 0 0, .string ByteArray.empty]⟩ a u _ _ ⟨hf.k4 h203, fun _ _ => by kernel_rfl⟩ hE hS (by kernel_rfl)
  refine rgp hE hS [pe (.bool false), pu] (fun _ => kp [(41, .bool false)]) kP0 (fun _ => ⟨kr (cbV (nbV (show (t : Int) ≠ 203 by exact h203))), trivial⟩) fun _ a u hE hS => iff hE ?_
  by_cases h205 : t = 205
  ·skip
   refine rgp hE hS [pe (.bool true), pu] (fun _ => kp [(45, .bool true)]) kP0 (fun _ => ⟨kr (cbV (ebV (show (t : Int) = 205 by exact h205))), trivial⟩) fun _ a u hE hS => ift hE ?_
   refine rg hE hS [pu, ld 103] (fun _ => kp [(48, .int .u8 (n : Nat))]) kP0 fun _ a u hE hS => wp_block ?_
   by_cases c1 : n = 1
   ·skip
    refine rgp hE hS [pe (.bool true), pu] (fun _ => kp [(51, .bool true)]) kP0 (fun _ => ⟨kr (cbV (ebV (show (((n : Nat) : Int) : Int) = 1 by omega))), trivial⟩) fun _ a u hE hS => ift hE ?_
    refine rgE hE hS [nw 104, pu, pu] (fun p24 => kp [(2, .iface 88 (pt (p24 0).g 0))]) (fun p24 => kP [(104, some (.blk (p24 0).g 173 #[.int .u32 0, .int .u32 0, .slice none 0 0]))]) (fun _ => trivial) fun p24 a u hE hS => ?_
    exact hKj ⟨(p24 0).g, 88, 173, #[.int .u32 0, .int .u32 0, .slice none 0 0]⟩ a u _ _ ⟨hf.k6 h205 c1, fun _ _ => by kernel_rfl⟩ hE hS (by kernel_rfl)
   refine rgp hE hS [pe (.bool false), pu] (fun _ => kp [(51, .bool false)]) kP0 (fun _ => ⟨kr (cbV (nbV (show (((n : Nat) : Int) : Int) ≠ 1 by omega))), trivial⟩) fun _ a u hE hS => iff hE ?_
   by_cases c5 : n = 5
   ·skip
    refine rgp hE hS [pe (.bool true), pu] (fun _ => kp [(55, .bool true)]) kP0 (fun _ => ⟨kr (cbV (ebV (show (((n : Nat) : Int) : Int) = 5 by omega))), trivial⟩) fun _ a u hE hS => ift hE ?_
    refine rgE hE hS [nw 104, pu, pu] (fun p27 => kp [(2, .iface 89 (pt (p27 0).g 0))]) (fun p27 => kP [(104, some (.blk (p27 0).g 178 #[.int .u32 0, .int .u32 0]))]) (fun _ => trivial) fun p27 a u hE hS => ?_
    exact hKj ⟨(p27 0).g, 89, 178, #[.int .u32 0, .int .u32 0]⟩ a u _ _ ⟨hf.k7 h205 c5, fun _ _ => by kernel_rfl⟩ hE hS (by kernel_rfl)
   refine rgp hE hS [pe (.bool false), pu] (fun _ => kp [(55, .bool false)]) kP0 (fun _ => ⟨kr (cbV (nbV (show (((n : Nat) : Int) : Int) ≠ 5 by omega))), trivial⟩) fun _ a u hE hS => iff hE ?_
   by_cases c15 : n = 15
   ·skip
    refine rgp hE hS [pe (.bool true), pu] (fun _ => kp [(59, .bool true)]) kP0 (fun _ => ⟨kr (cbV (ebV (show (((n : Nat) : Int) : Int) = 15 by omega))), trivial⟩) fun _ a u hE hS => ift hE ?_
    refine rgE hE hS [nw 104, pu, pu] (fun p30 => kp [(2, .iface 197 (pt (p30 0).g 0))]) (fun p30 => kP [(104, some (.blk (p30 0).g 238 #[.bool false, .int .u8 0, .int .u8 0, .int .u16 0, .int .u32 0, .int .u32 0, .int .u16 0, .int .u16 0, .int .u32 0, .int .u8 0, .slice none 0 0, .slice none 0 0]))]) (fun _ => trivial) fun p30 a u hE hS => ?_
    exact hKj ⟨(p30 0).g, 197, 238, #[.bool false, .int .u8 0, .int .u8 0, .int .u16 0, .int .u32 0, .int .u32 0, .int .u16 0, .int .u16 0, .int .u32 0, .int .u8 0, .slice none 0 0, .slice none 0 0]⟩ a u _ _ ⟨hf.k13 h205 c15, fun _ _ => by kernel_rfl⟩ hE hS (by kernel_rfl)
   refine rgp hE hS [pe (.bool false), pu] (fun _ => kp [(59, .bool false)]) kP0 (fun _ => ⟨kr (cbV (nbV (show (((n : Nat) : Int) : Int) ≠ 15 by omega))), trivial⟩) fun _ a u hE hS => iff hE ?_
   by_cases c11 : n = 11
   ·skip
    refine rgp hE hS [pe (.bool true), pu] (fun _ => kp [(63, .bool true)]) kP0 (fun _ => ⟨kr (cbV (ebV (show (((n : Nat) : Int) : Int) = 11 by omega))), trivial⟩) fun _ a u hE hS => ift hE ?_
    refine rgE hE hS [nw 104, pu, pu] (fun p33 => kp [(2, .iface 90 (pt (p33 0).g 0))]) (fun p33 => kP [(104, some (.blk (p33 0).g 182 #[.int .u32 0, .slice none 0 0, .int .u32 0]))]) (fun _ => trivial) fun p33 a u hE hS => ?_
    exact hKj ⟨(p33 0).g, 90, 182, #[.int .u32 0, .slice none 0 0, .int .u32 0]⟩ a u _ _ ⟨hf.k8 h205 c11, fun _ _ => by kernel_rfl⟩ hE hS (by kernel_rfl)
   refine rgp hE hS [pe (.bool false), pu] (fun _ => kp [(63, .bool false)]) kP0 (fun _ => ⟨kr (cbV (nbV (show (((n : Nat) : Int) : Int) ≠ 11 by omega))), trivial⟩) fun _ a u hE hS => iff hE ?_
   refine absurd ?_ hf.known
   unfold kindOf
   first | (rw [if_neg h200, if_neg h201, if_neg h202, if_neg h203, if_neg (by omega), if_pos h205, if_neg (by omega), if_neg (by omega), if_neg (by omega), if_neg (by omega)]) | (rw [if_neg h200, if_neg h201, if_neg h202, if_neg h203, if_neg (by omega), if_neg h205, if_pos h206, if_neg (by omega), if_neg (by omega), if_neg (by omega), if_neg (by omega)]) | (rw [if_neg h200, if_neg h201, if_neg h202, if_neg h203, if_neg (by omega), if_neg h205, if_neg h206])
  refine rgp hE hS [pe (.bool false), pu] (fun _ => kp [(45, .bool false)]) kP0 (fun _ => ⟨kr (cbV (nbV (show (t : Int) ≠ 205 by exact h205))), trivial⟩) fun _ a u hE hS => iff hE ?_
  by_cases h206 : t = 206
  ·skip
   refine rgp hE hS [pe (.bool true), pu] (fun _ => kp [(67, .bool true)]) kP0 (fun _ => ⟨kr (cbV (ebV (show (t : Int) = 206 by exact h206))), trivial⟩) fun _ a u hE hS => ift hE ?_
   refine rg hE hS [pu, ld 103] (fun _ => kp [(70, .int .u8 (n : Nat))]) kP0 fun _ a u hE hS => wp_block ?_
   by_cases c1 : n = 1
   ·skip
    refine rgp hE hS [pe (.bool true), pu] (fun _ => kp [(73, .bool true)]) kP0 (fun _ => ⟨kr (cbV (ebV (show (((n : Nat) : Int) : Int) = 1 by omega))), trivial⟩) fun _ a u hE hS => ift hE ?_
    refine rgE hE hS [nw 104, pu, pu] (fun p39 => kp [(2, .iface 91 (pt (p39 0).g 0))]) (fun p39 => kP [(104, some (.blk (p39 0).g 183 #[.int .u32 0, .int .u32 0]))]) (fun _ => trivial) fun p39 a u hE hS => ?_
    exact hKj ⟨(p39 0).g, 91, 183, #[.int .u32 0, .int .u32 0]⟩ a u _ _ ⟨hf.k9 h206 c1, fun _ _ => by kernel_rfl⟩ hE hS (by kernel_rfl)
   refine rgp hE hS [pe (.bool false), pu] (fun _ => kp [(73, .bool false)]) kP0 (fun _ => ⟨kr (cbV (nbV (show (((n : Nat) : Int) : Int) ≠ 1 by omega))), trivial⟩) fun _ a u hE hS => iff hE ?_
   by_cases c2 : n = 2
   ·skip
    refine rgp hE hS [pe (.bool true), pu] (fun _ => kp [(77, .bool true)]) kP0 (fun _ => ⟨kr (cbV (ebV (show (((n : Nat) : Int) : Int) = 2 by omega))), trivial⟩) fun _ a u hE hS => ift hE ?_
    refine rgE hE hS [nw 104, pu, pu] (fun p42 => kp [(2, .iface 92 (pt (p42 0).g 0))]) (fun p42 => kP [(104, some (.blk (p42 0).g 186 #[.int .u32 0, .int .u32 0, .slice none 0 0]))]) (fun _ => trivial) fun p42 a u hE hS => ?_
    exact hKj ⟨(p42 0).g, 92, 186, #[.int .u32 0, .int .u32 0, .slice none 0 0]⟩ a u _ _ ⟨hf.k10 h206 c2, fun _ _ => by kernel_rfl⟩ hE hS (by kernel_rfl)
   refine rgp hE hS [pe (.bool false), pu] (fun _ => kp [(77, .bool false)]) kP0 (fun _ => ⟨kr (cbV (nbV (show (((n : Nat) : Int) : Int) ≠ 2 by omega))), trivial⟩) fun _ a u hE hS => iff hE ?_
   by_cases c15 : n = 15
   ·skip
    refine rgp hE hS [pe (.bool true), pu] (fun _ => kp [(81, .bool true)]) kP0 (fun _ => ⟨kr (cbV (ebV (show (((n : Nat) : Int) : Int) = 15 by omega))), trivial⟩) fun _ a u hE hS => ift hE ?_
    refine rgE hE hS [nw 104, pu, pu] (fun p45 => kp [(2, .iface 94 (pt (p45 0).g 0))]) (fun p45 => kP [(104, some (.blk (p45 0).g 196 #[.int .u32 0, .float .f32 0, .slice none 0 0]))]) (fun _ => trivial) fun p45 a u hE hS => ?_
    exact hKj ⟨(p45 0).g, 94, 196, #[.int .u32 0, .float .f32 0, .slice none 0 0]⟩ a u _ _ ⟨hf.k12 h206 c15, fun _ _ => by kernel_rfl⟩ hE hS (by kernel_rfl)
   refine rgp hE hS [pe (.bool false), pu] (fun _ => kp [(81, .bool false)]) kP0 (fun _ => ⟨kr (cbV (nbV (show (((n : Nat) : Int) : Int) ≠ 15 by omega))), trivial⟩) fun _ a u hE hS => iff hE ?_
   by_cases c4 : n = 4
   ·skip
    refine rgp hE hS [pe (.bool true), pu] (fun _ => kp [(85, .bool true)]) kP0 (fun _ => ⟨kr (cbV (ebV (show (((n : Nat) : Int) : Int) = 4 by omega))), trivial⟩) fun _ a u hE hS => ift hE ?_
    refine rgE hE hS [nw 104, pu, pu] (fun p48 => kp [(2, .iface 93 (pt (p48 0).g 0))]) (fun p48 => kP [(104, some (.blk (p48 0).g 190 #[.int .u32 0, .int .u32 0, .slice none 0 0]))]) (fun _ => trivial) fun p48 a u hE hS => ?_
    exact hKj ⟨(p48 0).g, 93, 190, #[.int .u32 0, .int .u32 0, .slice none 0 0]⟩ a u _ _ ⟨hf.k11 h206 c4, fun _ _ => by kernel_rfl⟩ hE hS (by kernel_rfl)
   refine rgp hE hS [pe (.bool false), pu] (fun _ => kp [(85, .bool false)]) kP0 (fun _ => ⟨kr (cbV (nbV (show (((n : Nat) : Int) : Int) ≠ 4 by omega))), trivial⟩) fun _ a u hE hS => iff hE ?_
   refine absurd ?_ hf.known
   unfold kindOf
   first | (rw [if_neg h200, if_neg h201, if_neg h202, if_neg h203, if_neg (by omega), if_pos h205, if_neg (by omega), if_neg (by omega), if_neg (by omega), if_neg (by omega)]) | (rw [if_neg h200, if_neg h201, if_neg h202, if_neg h203, if_neg (by omega), if_neg h205, if_pos h206, if_neg (by omega), if_neg (by omega), if_neg (by omega), if_neg (by omega)]) | (rw [if_neg h200, if_neg h201, if_neg h202, if_neg h203, if_neg (by omega), if_neg h205, if_neg h206])
  refine rgp hE hS [pe (.bool false), pu] (fun _ => kp [(67, .bool false)]) kP0 (fun _ => ⟨kr (cbV (nbV (show (t : Int) ≠ 206 by exact h206))), trivial⟩) fun _ a u hE hS => iff hE ?_
  by_cases h204 : t = 204
  ·skip
   refine rgp hE hS [pe (.bool true), pu] (fun _ => kp [(89, .bool true)]) kP0 (fun _ => ⟨kr (cbV (ebV (show (t : Int) = 204 by exact h204))), trivial⟩) fun _ a u hE hS => ift hE ?_
   refine rgE hE hS [nw 104, pu, pu] (fun p52 => kp [(2, .iface 168 (pt (p52 0).g 0))]) (fun p52 => kP [(104, some (.blk (p52 0).g 170 #[.int .u8 0, .int .u32 0, .string ByteArray.empty, .slice none 0 0]))]) (fun _ => trivial) fun p52 a u hE hS => ?_
   exact hKj ⟨(p52 0).g, 168, 170, #[.int .u8 0, .int .u32 0, .string ByteArray.empty, .slice none 0 0]⟩ a u _ _ ⟨hf.k5 h204, fun _ _ => by kernel_rfl⟩ hE hS (by kernel_rfl)
  refine rgp hE hS [pe (.bool false), pu] (fun _ => kp [(89, .bool false)]) kP0 (fun _ => ⟨kr (cbV (nbV (show (t : Int) ≠ 204 by exact h204))), trivial⟩) fun _ a u hE hS => iff hE ?_
  refine absurd ?_ hf.known
  unfold kindOf
  first | (rw [if_neg h200, if_neg h201, if_neg h202, if_neg h203, if_neg (by omega), if_pos h205, if_neg (by omega), if_neg (by omega), if_neg (by omega), if_neg (by omega)]) | (rw [if_neg h200, if_neg h201, if_neg h202, if_neg h203, if_neg (by omega), if_neg h205, if_pos h206, if_neg (by omega), if_neg (by omega), if_neg (by omega), if_neg (by omega)]) | (rw [if_neg h200, if_neg h201, if_neg h202, if_neg h203, if_neg (by omega), if_neg h205, if_neg h206])
 ·skip
  obtain ⟨g, tp, T, zc⟩ := x
  simp only at hI
  obtain ⟨hU, hNC⟩ := hI
  refine rgp hE hS [pu, pu, ivA "Unmarshal" [110] [104, 95] (fun _ => .nilIface) (fun y => [none, some (.ck (ckFc g b w.heap[b]? y.g y.c (.iface tp (.pointer (some ⟨g, 0, none⟩))) R))]), pu] (fun _ => kn [(4, .nilIface)] [3, 2]) (fun p54 => kN [(95, some (.ck (ckFc g b w.heap[b]? (p54 2).g (p54 2).c (.iface tp (pt g 0)) R)))] [110]) (fun _ => ⟨kr (iv_fac (w0 := w) (g := g) (b := b) (c := c) 110 104 95 (u := none) hU hbs hc), trivial⟩) fun p54 a u hE hS => ?_
  refine rg hE hS [pu, pu, pu, pu, pu, pu] kp0 kP0 fun _ a u hE hS => ?_
  refine wp_ret ?_
  have hok := hS.ok 95 (ckFc g b w.heap[b]? (p54 2).g (p54 2).c (.iface tp (.pointer (some ⟨g, 0, none⟩))) R) (by kernel_rfl)
  have hlt := hS.lt 95 (ckFc g b w.heap[b]? (p54 2).g (p54 2).c (.iface tp (.pointer (some ⟨g, 0, none⟩))) R) (by kernel_rfl)
  refine bodyPost_ret (v := .tuple #[(.iface tp (.pointer (some ⟨g, 0, none⟩))), .int .i64 (z.length : Nat), .nilIface]) (by simp [results, Tryz.results77, hE.get 2 (v := (.iface tp (.pointer (some ⟨g, 0, none⟩)))) (by kernel_rfl), hE.get 3 (v := .int .i64 (z.length : Nat)) (by kernel_rfl), hE.get 4 (v := .nilIface) (by kernel_rfl)]) hE.defers ⟨tp, g, rfl, hNC, hS.below, ?_⟩
  exact fun w2 h1 h2 => hok w2 (fun x hx => h1 x ⟨(hlt x hx).2.resolve_right id, (hlt x hx).1⟩) h2
end Go.Proofs.YtmmfpgoodfgkbaaGreatDoor
