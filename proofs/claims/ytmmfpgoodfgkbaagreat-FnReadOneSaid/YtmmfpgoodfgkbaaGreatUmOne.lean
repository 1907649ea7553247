/-
  THE WALKS of the thin package's reading of one packet, guard and closure. Condition: the contracts of the making of an empty packet, of its reading and of its plain form.
-/
import Derived.Test.YtmmfpgoodfgkbaaGreatInvkA
import Derived.Test.YtmmfpgoodfgkbaaGreatMLaw
import Derived.Test.YtmmfpgoodfgkbaaGreatPl
import Derived.Test.YtmmfpgoodfgkbaaGreatPktVal
import Derived.Test.YtmmfpgoodfgkbaaGreatRone
namespace Go.Proofs.YtmmfpgoodfgkbaaGreat
open Go Go.RowKit
set_option linter.unusedVariables false
set_option linter.unusedSimpArgs false

theorem Pkt.NewX.liesH {q : Pkt} {w : World} {B C D : Nat} (h : q.NewX w B C) (hl : ∀ g, B ≤ g ∧ g < C → g < D) : q.Lies w D :=
  ⟨h.new.reports.readsH hl, h.ext.readsH hl, h.new.chunks.readsH hl, fun x hx => (h.new.items x hx).readsH hl, h.src.readsH hl, h.data.readsH hl, h.new.pairs.readsH hl, h.new.slices.readsH hl, h.new.entries.readsH hl, h.new.blocks.readsH hl, fun x hx => (h.new.mets x hx).readsH hl, h.new.stats.readsH hl, fun x hx => (h.lists x hx).readsH hl, h.new.deltas.readsH hl⟩
def ckU (g b B E : Nat) (v : Value) (R : Pkt → Prop) : Ck :=
  ⟨fun x => x = g ∨ x = b ∨ (B ≤ x ∧ x < E), fun w => ∀ w', (∀ x, x = g ∨ x = b ∨ (B ≤ x ∧ x < E) → w'.heap[x]? = w.heap[x]?) → Calls Tryz.prog 45 #[v] w' (PlainOut w' R), fun _ _ h hw w2 h2 => hw w2 fun g hg => (h2 g hg).trans (h g hg)⟩
theorem ckU.plain {g b B E : Nat} {v : Value} {R : Pkt → Prop} {w : World} (h : (ckU g b B E v R).ok w) : Calls Tryz.prog 45 #[v] w (PlainOut w R) := h w fun _ _ => rfl
def ckQ (R : Pkt → Prop) (x : Pay) : Ck := ⟨fun y => x.g ≤ y ∧ y < x.c, fun w => (dP x.v).NewX w x.g x.c ∧ R (dP x.v), fun w w' hk h => ⟨h.1.st hk, h.2⟩⟩
def UmP (tp T : TypeId) (zc : Array Value) (z : List Int) (R : Pkt → Prop) : Prop :=
  ∀ g b c w, Blk w g T zc → RowD w (· = b) (some ⟨b, 0, none⟩) z → b < w.heap.size → b ≠ g → z.length ≤ c → Invk Tryz.prog w (.iface tp (.pointer (some ⟨g, 0, none⟩))) "Unmarshal" #[.slice (some ⟨b, 0, none⟩) z.length c] fun e w' => e = .returned .nilIface ∧ w.grownBy w' (some g) ∧ (ckU g b w.heap.size w'.heap.size (.iface tp (.pointer (some ⟨g, 0, none⟩))) R).ok w'
def NilOk (tp : TypeId) : Prop := ∀ g w, (nilAhead (Tryz.prog.types.size + Made.depth) tp (.pointer (some ⟨g, 0, none⟩)) "Unmarshal").run Tryz.prog w = .ok (some false) w
def nckO : Oper := { dst := none, op := .nilCheck (.tmp 0), type := 0, pos := "", after := #[], guard := none }
theorem nilck_run {tp : TypeId} (h : NilOk tp) (g : Nat) : ∀ w, (execOp (fun _ => .func (.method "Unmarshal") #[.iface tp (.pointer (some ⟨g, 0, none⟩))] #[]) nckO).run Tryz.prog w = .ok (.value (.func (.method "Unmarshal") #[.iface tp (.pointer (some ⟨g, 0, none⟩))] #[])) w := fun w => by
  have h2 := h g w
  simp only [execOp, nckO]
  rw [show (#[Value.iface tp (.pointer (some ⟨g, 0, none⟩))])[0]? = some (Value.iface tp (.pointer (some ⟨g, 0, none⟩))) from rfl]
  simp only [Sem.run_bind, run_program, Result.andThen_ok, h2]
  rfl
def Bu0 (k : Int) (tp T : TypeId) (zc : Array Value) : Prop :=
  ∀ w, Calls Tryz.prog 29 #[.agg (pFb k 0 0).cells] w fun e w' => ∃ g, e = .returned (.iface tp (.pointer (some ⟨g, 0, none⟩))) ∧ Blk w' g T zc ∧ w.heap.size ≤ g ∧ Below w.heap.size w w'
section
variable {P : Program} {olds : Nat → Prop} {w0 : World}
def ivA (name : String) (rd wr : List Nat) (V : Pay → Value) (W : Pay → List (Option Pc)) : Step P olds w0 where
  rd := rd
  wr := wr
  skip := false
  must := true
  V _ x := V x
  W _ x := W x
  chk i := [(.r fun w => i.sem.run P w, .r fun w => (callMethod (i.vals.headD undef) name i.vals.tail.toArray).run P w)]
  pre i := ∀ (L : PL) (w : World), i.ps = (rd ++ wr).map (lookP L) → Stp olds w0 w (restr (rd ++ wr) (lookM (den olds w0 L))) →
    Invk P w (i.vals.headD undef) name i.vals.tail.toArray fun e w' => ∃ x, e = .returned (V x) ∧ Stp (blksOf (lookM (den olds w0 L)) wr) w w' (lookM (den olds w0 (zipW wr (W x))))
  ok _ i L a w K Q hc hp hs _ hL hS hK := by
    have h1 := hc _ (List.mem_singleton.2 rfl)
    injection h1 with h1
    obtain ⟨f, fas, hr, hcl⟩ := hp rfl L w hL hS
    refine calls_op (f := f) (args := fas) (by rw [hs]; exact (congrFun h1 w).trans hr) (R := fun v w' => ∃ x, v = V x ∧ Stp (blksOf (lookM (den olds w0 L)) wr) w w' (lookM (den olds w0 (zipW wr (W x)))))
      (hcl.mono fun e w' ⟨x, he, hst⟩ => ⟨_, he, x, rfl, hst⟩) fun v w' ⟨x, hv, hst⟩ => ?_
    rw [hv]
    exact hK x w' hst
end
section
variable {olds : Nat → Prop} {w0 : World}
theorem cu_b0 {k0 : Int} {tp T : TypeId} {zc : Array Value} {ps : List (Option Pc)} (k : Nat) (hb : Bu0 k0 tp T zc)
    (L : PL) (w : World) (_ : ps = ([] ++ [k]).map (lookP L)) (hS : Stp olds w0 w (restr ([] ++ [k]) (lookM (den olds w0 L)))) :
    Calls Tryz.prog 29 #[.agg (pFb k0 0 0).cells] w fun e w' => ∃ x : Pay, e = .returned (.iface tp (.pointer (some ⟨x.g, 0, none⟩))) ∧ Stp (blksOf (lookM (den olds w0 L)) [k]) w w' (lookM (den olds w0 (zipW [k] [some (.blk x.g T zc)]))) := by
  refine (hb w).mono ?_
  rintro e w' ⟨g, rfl, hbl, hg, hB⟩
  exact ⟨⟨g, 0, undef, none⟩, rfl, stp_make (c' := .blk g T zc) hB hbl fun y hy => by have e : y = g := hy; subst e; exact ⟨hbl.lt, hg⟩⟩
theorem cu_cl8 {B0 : Nat} {ps : List (Option Pc)} (k : Nat) (A : Option Addr) (c : Nat) (z : List Int) (hz : z.length ≤ 262144) (hB : B0 ≤ w0.heap.size) (ho : ∀ g, olds g → B0 ≤ g) (hr : Reads w0 B0 1 A z.length (u8s z))
    (L : PL) (w : World) (_ : ps = ([] ++ [k]).map (lookP L)) (hS : Stp olds w0 w (restr ([] ++ [k]) (lookM (den olds w0 L)))) :
    Calls Tryz.prog 44 #[.slice A z.length c] w fun e w' => ∃ x : Pay, e = .returned (.slice x.a z.length x.c) ∧ Stp (blksOf (lookM (den olds w0 L)) [k]) w w' (lookM (den olds w0 (zipW [k] [some (.row w0.heap.size 5 1 (.slice x.a z.length x.c) z.length (u8s z))]))) := by
  have hBw := hS.old B0 hB ho
  refine (clone8 B0 A z.length c (u8s z) w (hr.below hBw) (u8s_one z) (Nat.le_trans hB hS.size) (by omega)).mono ?_
  rintro e w' ⟨v, rfl, hown, hB2⟩
  obtain ⟨A2, c2, rfl⟩ := own_form hown
  exact ⟨⟨0, c2, undef, A2⟩, rfl, stp_make hB2 (own_base hown hS.size) fun g hg => ⟨(hown.lt g hg).2, (hown.lt g hg).1⟩⟩
theorem iv_um {tp T : TypeId} {zc : Array Value} {z : List Int} {R : Pkt → Prop} {g base : Nat} {A : Option Addr} {c : Nat} (k j i : Nat) {u : Option Pc} (hz : 0 < z.length) (hkj : k ≠ j) (hU : UmP tp T zc z R) (L : PL) (w : World)
    (hps : [some (.blk g T zc), some (.row base 5 1 (.slice A z.length c) z.length (u8s z)), u] = ([] ++ [k, j, i]).map (lookP L)) (hS : Stp olds w0 w (restr ([] ++ [k, j, i]) (lookM (den olds w0 L)))) :
    Invk Tryz.prog w (.iface tp (.pointer (some ⟨g, 0, none⟩))) "Unmarshal" #[.slice A z.length c] fun e w' => ∃ x : Pay, e = .returned .nilIface ∧ Stp (blksOf (lookM (den olds w0 L)) [k, j, i]) w w' (lookM (den olds w0 (zipW [k, j, i] [none, none, some (.ck (ckU g (blkA x.a) x.g x.c (.iface tp (.pointer (some ⟨g, 0, none⟩))) R))]))) := by
  simp only [List.nil_append, List.map_cons, List.map_nil, List.cons.injEq] at hps
  have hl1 : lookM (den olds w0 L) k = some (ckB g T zc) := by rw [lookM_den, ← hps.1]; rfl
  have hl2 : lookM (den olds w0 L) j = some (ckR base 5 1 (.slice A z.length c) z.length (u8s z)) := by rw [lookM_den, ← hps.2.1]; rfl
  have r1 : restr ([] ++ [k, j, i]) (lookM (den olds w0 L)) k = some (ckB g T zc) := by simp [restr, hasN, hl1]
  have r2 : restr ([] ++ [k, j, i]) (lookM (den olds w0 L)) j = some (ckR base 5 1 (.slice A z.length c) z.length (u8s z)) := by simp [restr, hasN, hl2]
  have hb := hS.blk k r1
  have hr := hS.row j r2
  obtain ⟨b, cap, hv, hbb, hbl⟩ := hr.form hz
  injection hv with hA _ _
  subst hA
  have hne : b ≠ g := fun e => hS.apart k j _ _ r1 r2 hkj g rfl (by show Value.ownBlock _ = some g; rw [← e]; rfl)
  have hcap : z.length ≤ c := by
    rcases hr.2 with ⟨h1, h2⟩ | ⟨g', cap', cur, hv', h1, h2, h3, h4⟩
    · injection h1 with h1; cases h1
    · injection hv' with _ _ e2; omega
  refine (hU g b c w hb (fun _ => ⟨_, rfl, rfl, hr.cells (g := b) rfl⟩) hbl hne hcap).mono ?_
  rintro e w' ⟨rfl, hgr, hok⟩
  refine ⟨⟨w.heap.size, w'.heap.size, undef, some ⟨b, 0, none⟩⟩, rfl, ?_⟩
  have h1 : Stp (blksOf (lookM (den olds w0 L)) [k, j, i]) w w' (lookM [(i, some (ckU g b w.heap.size w'.heap.size (.iface tp (.pointer (some ⟨g, 0, none⟩))) R))]) :=
    stp_one i _ (.inr ⟨g, ⟨k, by simp, _, hl1, rfl⟩, hgr⟩) hok fun x hx => by
      have hsz := hgr.size
      have hg := hb.lt
      rcases hx with e | e | e
      · exact ⟨by omega, .inr ⟨k, by simp, _, hl1, e⟩⟩
      · exact ⟨by omega, .inr ⟨j, by simp, _, hl2, by show Value.ownBlock _ = some x; rw [e]; rfl⟩⟩
      · exact ⟨e.2, .inl e.1⟩
  refine h1.sub fun n c' hc => ?_
  show lookM [(i, some (ckU g b w.heap.size w'.heap.size (.iface tp (.pointer (some ⟨g, 0, none⟩))) R))] n = some c'
  have hc' : lookM [(k, none), (j, none), (i, some (ckU g b w.heap.size w'.heap.size (.iface tp (.pointer (some ⟨g, 0, none⟩))) R))] n = some c' := hc
  simp only [lookM] at hc' ⊢
  cases hq : Nat.beq k n with
  | true => rw [hq] at hc'; cases hc'
  | false =>
    rw [hq] at hc'
    simp only [cond_false] at hc'
    cases hq2 : Nat.beq j n with
    | true => rw [hq2] at hc'; cases hc'
    | false => rw [hq2] at hc'; exact hc'
theorem cu_plain {R : Pkt → Prop} {g b B E : Nat} {v : Value} (j k : Nat) {u : Option Pc} (L : PL) (w : World)
    (hps : [some (.ck (ckU g b B E v R)), u] = ([j] ++ [k]).map (lookP L)) (hS : Stp olds w0 w (restr ([j] ++ [k]) (lookM (den olds w0 L)))) :
    Calls Tryz.prog 45 #[v] w fun e w' => ∃ x : Pay, e = .returned (.agg (dP x.v).cells) ∧ Stp (blksOf (lookM (den olds w0 L)) [k]) w w' (lookM (den olds w0 (zipW [k] [some (.ck (ckQ R x))]))) := by
  simp only [List.cons_append, List.nil_append, List.map_cons, List.map_nil, List.cons.injEq] at hps
  have hl1 : lookM (den olds w0 L) j = some (ckU g b B E v R) := by rw [lookM_den, ← hps.1]; rfl
  have r1 : restr ([j] ++ [k]) (lookM (den olds w0 L)) j = some (ckU g b B E v R) := by simp [restr, hasN, hl1]
  refine (ckU.plain (hS.ok j _ r1)).mono ?_
  rintro e w' ⟨q, rfl, hB, hN, hR⟩
  refine ⟨⟨w.heap.size, w'.heap.size, vP q, none⟩, by rw [dP_v], ?_⟩
  exact stp_make (c' := .ck (ckQ R ⟨w.heap.size, w'.heap.size, vP q, none⟩)) hB ⟨by rw [dP_v]; exact hN, by rw [dP_v]; exact hR⟩ fun y hy => ⟨hy.2, hy.1⟩
end
set_option maxHeartbeats 4000000 in
set_option maxRecDepth 100000 in
theorem umClo {k : Int} {tp T : TypeId} {zc : Array Value} (A : Option Addr) (c : Nat) (z : List Int) (R : Pkt → Prop) (hz : 0 < z.length) (hz2 : z.length ≤ 262144) (hN : NilOk tp) (hb : Bu0 k tp T zc) (hU : UmP tp T zc z R) (g0 g1 g2 : Nat) {w0 : World} (hr : Reads w0 w0.heap.size 1 A z.length (u8s z)) (olds : Nat → Prop) (w : World) (hBw : Below w0.heap.size w0 w) (ho : ∀ g, olds g → w0.heap.size ≤ g) (hS0 : Stp olds w w (lookM (den olds w (zipW [103, 102, 101, 94] [some (.blk g2 53 pNul.cells), some (.blk g1 25 #[.slice A z.length c]), some (.blk g0 3 #[.int .i64 k]), none])))) :
    Calls Tryz.prog 43 #[.pointer (some ⟨g0, 0, none⟩), .pointer (some ⟨g1, 0, none⟩), .pointer (some ⟨g2, 0, none⟩)] w fun e w' => ∃ x : Pay, e = .returned (.bool true) ∧ Stp olds w w' (lookM (den olds w (zipW [103, 102, 101, 94] ((fun x => [some (.blk g2 53 (dP x.v).cells), some (.blk g1 25 #[.slice A z.length c]), some (.blk g0 3 #[.int .i64 k]), some (.ck (ckQ R x))]) x)))) := by
  refine go_in Tryz.func43 rfl Tryz.ntmps43 [pt g0 0, pt g1 0, pt g2 0] fun a hE => ?_
  have hS := stp_rem hS0 [(103, some (.blk g2 53 pNul.cells)), (102, some (.blk g1 25 #[.slice A z.length c])), (101, some (.blk g0 3 #[.int .i64 k]))] (by kernel_rfl)
  refine rg hE hS [pu] (fun _ => kp [(3, .bool false)]) (fun _ => kP []) fun _ a u hE hS => ?_
  refine rgp hE hS [ld 101, pu, cu 29 [] [96] (fun y => .iface tp (.pointer (some ⟨y.g, 0, none⟩))) (fun y => [some (.blk y.g T zc)]), pu] (fun p2 => kp [(4, .iface tp (pt (p2 2).g 0))]) (fun p2 => kP [(96, some (.blk (p2 2).g T zc))]) (fun _ => ⟨kr (cu_b0 (olds := olds) (w0 := w) (ps := [none]) 96 hb), trivial⟩) fun p2 a u hE hS => ?_
  refine dgp hE hS [pu, ld 102, cu 44 [] [97] (fun y => .slice y.a z.length y.c) (fun y => [some (.row w.heap.size 5 1 (.slice y.a z.length y.c) z.length (u8s z))]), pu, pf (.func (.method "Unmarshal") #[.iface tp (.pointer (some ⟨(p2 2).g, 0, none⟩))] #[]), pu, ivA "Unmarshal" [] [96, 97, 95] (fun _ => .nilIface) (fun y => [none, none, some (.ck (ckU (p2 2).g (blkA y.a) y.g y.c (.iface tp (.pointer (some ⟨(p2 2).g, 0, none⟩))) R))]), pu] (fun _ => kn [(5, .nilIface)] [2, 3, 4]) (fun p3 => kN [(95, some (.ck (ckU (p2 2).g (blkA (p3 6).a) (p3 6).g (p3 6).c (.iface tp (pt (p2 2).g 0)) R)))] [103, 102, 101]) (fun p3 => ⟨kr (cu_cl8 (olds := olds) (w0 := w) (ps := [none]) (B0 := w0.heap.size) 97 A c z hz2 hBw.size ho (hr.below hBw)), kr (nilck_run hN (p2 2).g), kr (iv_um (olds := olds) (w0 := w) (g := (p2 2).g) (A := (p3 2).a) (c := (p3 2).c) (base := w.heap.size) 96 97 95 (u := none) hz (by decide) hU), trivial⟩) fun p3 a u hE hS => ?_
  refine rgp hE hS [pu, cu 45 [95] [94] (fun y => .agg (dP y.v).cells) (fun y => [some (.ck (ckQ R y))]), st 103] (fun _ => kp []) (fun p4 => kP [(94, some (.ck (ckQ R (p4 1)))), (103, some (.blk g2 53 ((dP (p4 1).v).cells)))]) (fun _ => ⟨kr (cu_plain (olds := olds) (w0 := w) (R := R) (g := (p2 2).g) (b := blkA (p3 6).a) (B := (p3 6).g) (E := (p3 6).c) (v := .iface tp (.pointer (some ⟨(p2 2).g, 0, none⟩))) 95 94 (u := none)), trivial⟩) fun p4 a u hE hS => ?_
  refine rg hE hS [pu, pu, pu] (fun _ => kp [(3, .bool true)]) (fun _ => kP []) fun _ a u hE hS => ?_
  refine wp_ret ?_
  exact ret1 hE Tryz.results43 (.bool true) ⟨p4 1, rfl, end_mem (s := ⟨[], _⟩) (s' := ⟨[], _⟩) (fst_snd (by kernel_rfl)) hS⟩
set_option maxHeartbeats 4000000 in
set_option maxRecDepth 100000 in
theorem unmarshalOne_any {k : Int} {tp T : TypeId} {zc : Array Value} (A : Option Addr) (c : Nat) (z : List Int) (R : Pkt → Prop) (hz : 0 < z.length) (hz2 : z.length ≤ 262144) (hN : NilOk tp) (hb : Bu0 k tp T zc) (hU : UmP tp T zc z R) (w : World) (hr : Reads w w.heap.size 1 A z.length (u8s z)) :
    Calls Tryz.prog 18 #[.int .i64 k, .slice A z.length c] w fun e w' => ∃ q : Pkt, e = .returned (.tuple #[.agg q.cells, .bool true]) ∧ q.Lies w' w'.heap.size ∧ R q ∧ Below w.heap.size w w' := by
  refine go_in Tryz.func18 rfl Tryz.ntmps18 [.int .i64 k, .slice A z.length c] fun a hE => ?_
  have hS := stp_in w
  refine rg hE hS [nw 101, nw 102, nw 103, pu] (fun p1 => kp [(2, pt (p1 0).g 0), (3, pt (p1 1).g 0), (4, pt (p1 2).g 0), (5, .bool false)]) (fun p1 => kP [(101, some (.blk (p1 0).g 3 #[.int .i64 k])), (102, some (.blk (p1 1).g 25 #[.slice A z.length c])), (103, some (.blk (p1 2).g 53 #[.int .i64 0, .int .u32 0, .int .u32 0, .int .u64 0, .int .u32 0, .int .u32 0, .int .u32 0, .slice none 0 0, .slice none 0 0, .slice none 0 0, .slice none 0 0, .string ByteArray.empty, .int .u8 0, .slice none 0 0, .slice none 0 0, .slice none 0 0, .slice none 0 0, .int .u32 0, .slice none 0 0, .int .u32 0, .int .u16 0, .int .u16 0, .int .u32 0, .int .u8 0, .slice none 0 0, .slice none 0 0, .bool false, .int .u8 0, .int .u8 0, .int .u16 0]))]) fun p1 a u hE hS => ?_
  refine rgp hE hS [pu, cu 26 [] [103, 102, 101, 94] (fun _ => .bool true) (fun x => [some (.blk (p1 2).g 53 (dP x.v).cells), some (.blk (p1 1).g 25 #[.slice A z.length c]), some (.blk (p1 0).g 3 #[.int .i64 k]), some (.ck (ckQ R x))]), pu] (fun _ => kp [(5, .bool true)]) (fun p2 => kP [(103, some (.blk (p1 2).g 53 ((dP (p2 1).v).cells))), (94, some (.ck (ckQ R (p2 1))))]) (fun _ => ⟨kr (try_cu (w0 := w) (ps := [some (.blk (p1 2).g 53 pNul.cells), some (.blk (p1 1).g 25 #[.slice A z.length c]), some (.blk (p1 0).g 3 #[.int .i64 k]), none]) (W := fun x => [some (.blk (p1 2).g 53 (dP x.v).cells), some (.blk (p1 1).g 25 #[.slice A z.length c]), some (.blk (p1 0).g 3 #[.int .i64 k]), some (.ck (ckQ R x))]) (fun _ => by kernel_rfl) (fun _ _ _ _ => rfl) (fun _ _ _ _ _ => rfl) fun olds w2 hB2 ho hS2 => umClo A c z R hz hz2 hN hb hU (p1 0).g (p1 1).g (p1 2).g hr olds w2 hB2 ho hS2), trivial⟩) fun p2 a u hE hS => ?_
  refine wp_seq ?_
  refine rg hE hS [pu, pu] (fun _ => kp [(9, .bool false)]) (fun _ => kP []) fun _ a u hE hS => ?_
  refine iff hE ?_
  refine wp_skip ?_
  refine rg hE hS [ld 103, st 103, pu] (fun _ => kp []) (fun _ => kP []) fun _ a u hE hS => ?_
  refine wp_ret ?_
  have hq := hS.ok 94 (ckQ R (p2 1)) (by kernel_rfl)
  exact retct hE hS Tryz.results18 103 (p1 2).g 53 (dP (p2 1).v).cells (.agg (dP (p2 1).v).cells) (.bool true) ⟨dP (p2 1).v, rfl, hq.1.liesH (fun g hg => (hS.lt 94 (ckQ R (p2 1)) (by kernel_rfl) g hg).1), hq.2, hS.below⟩
end Go.Proofs.YtmmfpgoodfgkbaaGreat
