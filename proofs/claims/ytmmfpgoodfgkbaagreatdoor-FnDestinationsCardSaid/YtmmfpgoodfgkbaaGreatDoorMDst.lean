/-
  THE WALK of the thin package's parsing of the sources out of raw bytes, guard and closure. Condition: the contract of the parsing.
-/
import Derived.Test.YtmmfpgoodfgkbaaGreatDoorPrs
import Derived.Test.YtmmfpgoodfgkbaaGreatDoorUmP
namespace Go.Proofs.YtmmfpgoodfgkbaaGreatDoor
open Go Go.RowKit
set_option maxHeartbeats 4000000
set_option maxRecDepth 100000
set_option linter.unusedVariables false
set_option linter.unusedSimpArgs false

def PrsP (z : List Int) (ds : List Int) : Prop :=
 ∀ b c w, RowD w (· = b) (some ⟨b, 0, none⟩) z → b < w.heap.size → z.length ≤ c → Calls Tryz.prog 48 #[.slice (some ⟨b, 0, none⟩) z.length c, .slice none 0 0] w (DstP w ds)
theorem cu_prs {olds : Nat → Prop} {w0 : World} {base : Nat} {A : Option Addr} {c : Nat} {z ds : List Int} (j k : Nat) {u : Option Pc} (hz : 0 < z.length) (hP : PrsP z ds) (L : PL) (w : World)
  (hps : [some (.row base 5 1 (.slice A z.length c) z.length (u8s z)), u] = ([j] ++ [k]).map (lookP L)) (hS : Stp olds w0 w (restr ([j] ++ [k]) (lookM (den olds w0 L)))) :
  Calls Tryz.prog 48 #[.slice A z.length c, .slice none 0 0] w fun e w' => ∃ x : Pay, e = .returned (.tuple #[.slice x.a ds.length x.c, .nilIface]) ∧ Stp (blksOf (lookM (den olds w0 L)) [k]) w w' (lookM (den olds w0 (zipW [k] [some (.ck (ck32 x.a ds.length (ds.flatMap u32c)))]))) := by
 simp only [List.cons_append, List.nil_append, List.map_cons, List.map_nil, List.cons.injEq] at hps
 have hl2 : lookM (den olds w0 L) j = some (ckR base 5 1 (.slice A z.length c) z.length (u8s z)) := by rw [lookM_den, ← hps.1]; rfl
 have r2 : restr ([j] ++ [k]) (lookM (den olds w0 L)) j = some (ckR base 5 1 (.slice A z.length c) z.length (u8s z)) := by simp [restr, hasN, hl2]
 have hr := hS.row j r2
 obtain ⟨b, cap, hv, hbb, hbl⟩ := hr.form hz
 injection hv with hA _ _
 subst hA
 have hcap : z.length ≤ c := by
  rcases hr.2 with ⟨h1, h2⟩ | ⟨g', cap', cur, hv', h1, h2, h3, h4⟩
  ·injection h1 with h1; cases h1
  ·injection hv' with _ _ e2; omega
 refine (hP b c w (fun _ => ⟨_, rfl, rfl, hr.cells (g := b) rfl⟩) hbl hcap).mono ?_
 rintro e w' ⟨A2, m, c2, rfl, hrow, hB⟩
 have hm : m = ds.length := by have h1 := hrow.1; rw [u32c_len] at h1; omega
 subst hm
 exact ⟨⟨0, c2, undef, A2⟩, rfl, stp_32 hB hrow⟩
theorem rawClo (A : Option Addr) (c : Nat) (z : List Int) (ds : List Int) (hz : 0 < z.length) (hz2 : z.length ≤ 262144) (hP : PrsP z ds) (g0 g1 : Nat) {w0 : World} (hr : Reads w0 w0.heap.size 1 A z.length (u8s z)) (olds : Nat → Prop) (w : World) (hBw : Below w0.heap.size w0 w) (ho : ∀ g, olds g → w0.heap.size ≤ g) (hS0 : Stp olds w w (lookM (den olds w (zipW [102, 101, 94] [some (.blk g1 27 #[.slice none 0 0]), some (.blk g0 25 #[.slice A z.length c]), none])))) :
  Calls Tryz.prog 47 #[.pointer (some ⟨g0, 0, none⟩), .pointer (some ⟨g1, 0, none⟩)] w fun e w' => ∃ x : Pay, e = .returned (.bool true) ∧ Stp olds w w' (lookM (den olds w (zipW [102, 101, 94] ((fun x => [some (.blk g1 27 #[.slice x.a ds.length x.c]), some (.blk g0 25 #[.slice A z.length c]), some (.ck (ck32 x.a ds.length (ds.flatMap u32c)))]) x)))) := by
 refine go_in Tryz.func47 rfl Tryz.ntmps47 [pt g0 0, pt g1 0] fun a hE => ?_
 have hS := stp_rem hS0 [(102, some (.blk g1 27 #[.slice none 0 0])), (101, some (.blk g0 25 #[.slice A z.length c]))] (by kernel_rfl)
 refine rg hE hS [pu] (fun _ => kp [(2, .bool false)]) kP0 fun _ a u hE hS => ?_
 refine rgp hE hS [ld 101, cu 45 [] [97] (fun y => .slice y.a z.length y.c) (fun y => [some (.row w.heap.size 5 1 (.slice y.a z.length y.c) z.length (u8s z))]), cu 48 [97] [94] (fun y => .tuple #[.slice y.a ds.length y.c, .nilIface]) (fun y => [some (.ck (ck32 y.a ds.length (ds.flatMap u32c)))]), pu, pu, pu, pu, pu] (fun p2 => kp [(3, .slice (p2 2).a ds.length (p2 2).c), (4, .nilIface)]) (fun p2 => kP [(94, some (.ck (ck32 (p2 2).a ds.length (ds.flatMap u32c)))), (97, some (.row w.heap.size 5 1 (.slice (p2 1).a z.length (p2 1).c) z.length (u8s z)))]) (fun p2 => ⟨kr (cu_cl8 (olds := olds) (w0 := w) (ps := [none]) (B0 := w0.heap.size) 97 A c z hz2 hBw.size ho (hr.below hBw)), kr (cu_prs (olds := olds) (w0 := w) (base := w.heap.size) (A := (p2 1).a) (c := (p2 1).c) 97 94 (u := none) hz hP), trivial⟩) fun p2 a u hE hS => ?_
 refine rg hE hS [pu, st 102] kp0 (fun _ => kP [(102, some (.blk g1 27 #[.slice (p2 2).a ds.length (p2 2).c]))]) fun _ a u hE hS => ?_
 refine rg hE hS [pu, pu, pu] (fun _ => kp [(2, .bool true)]) kP0 fun _ a u hE hS => ?_
 refine wp_ret ?_
 exact ret1 hE Tryz.results47 (.bool true) ⟨p2 2, rfl, end_mem (s := ⟨[], _⟩) (s' := ⟨[], _⟩) (fst_snd (by kernel_rfl)) hS⟩
theorem rawD_any (A : Option Addr) (c : Nat) (z : List Int) (ds : List Int) (hz : 0 < z.length) (hz2 : z.length ≤ 262144) (hP : PrsP z ds) (w : World) (hr : Reads w w.heap.size 1 A z.length (u8s z)) :
  Calls Tryz.prog 12 #[.slice A z.length c] w fun e w' => ∃ (A2 : Option Addr) (n c2 : Nat), e = .returned (.tuple #[.slice A2 n c2, .bool true]) ∧ InRows w' w.heap.size w'.heap.size 1 A2 n (ds.flatMap u32c) ∧ Below w.heap.size w w' := by
 refine go_in Tryz.func12 rfl Tryz.ntmps12 [.slice A z.length c] fun a hE => ?_
 have hS := stp_in w
 refine rg hE hS [nw 101, nw 102, pu] (fun p1 => kp [(1, pt (p1 0).g 0), (2, pt (p1 1).g 0), (3, .bool false)]) (fun p1 => kP [(101, some (.blk (p1 0).g 25 #[.slice A z.length c])), (102, some (.blk (p1 1).g 27 #[.slice none 0 0]))]) fun p1 a u hE hS => ?_
 refine rgp hE hS [pu, cu 20 [] [102, 101, 94] (fun _ => .bool true) (fun x => [some (.blk (p1 1).g 27 #[.slice x.a ds.length x.c]), some (.blk (p1 0).g 25 #[.slice A z.length c]), some (.ck (ck32 x.a ds.length (ds.flatMap u32c)))]), pu] (fun _ => kp [(3, .bool true)]) (fun p2 => kP [(102, some (.blk (p1 1).g 27 #[.slice (p2 1).a ds.length (p2 1).c])), (94, some (.ck (ck32 (p2 1).a ds.length (ds.flatMap u32c))))]) (fun _ => ⟨kr (try_cu (w0 := w) (ps := [some (.blk (p1 1).g 27 #[.slice none 0 0]), some (.blk (p1 0).g 25 #[.slice A z.length c]), none]) (W := fun x => [some (.blk (p1 1).g 27 #[.slice x.a ds.length x.c]), some (.blk (p1 0).g 25 #[.slice A z.length c]), some (.ck (ck32 x.a ds.length (ds.flatMap u32c)))]) (fun _ => by kernel_rfl) (fun _ _ _ _ => rfl) (fun _ _ _ _ _ => rfl) fun olds w2 hB2 ho hS2 => rawClo A c z ds hz hz2 hP (p1 0).g (p1 1).g hr olds w2 hB2 ho hS2), trivial⟩) fun p2 a u hE hS => ?_
 refine wp_seq ?_
 refine rg hE hS [pu, pu] (fun _ => kp [(7, .bool false)]) kP0 fun _ a u hE hS => iff hE <| wp_skip ?_
 refine rg hE hS [ld 102, st 102, pu] kp0 kP0 fun _ a u hE hS => ?_
 refine wp_ret ?_
 exact retct hE hS Tryz.results12 102 (p1 1).g 27 #[.slice (p2 1).a ds.length (p2 1).c] (.slice (p2 1).a ds.length (p2 1).c) (.bool true) ⟨_, _, _, rfl, in_of32 hS 94, hS.below⟩
end Go.Proofs.YtmmfpgoodfgkbaaGreatDoor
namespace Go.Proofs.YtmmfpgoodfgkbaaGreatDoor
open Go Go.RowKit
set_option maxHeartbeats 4000000
set_option maxRecDepth 100000
set_option linter.unusedVariables false
set_option linter.unusedSimpArgs false

def ckD (B E : Nat) (v : Value) (ds : List Int) : Ck :=
 ⟨fun g => B ≤ g ∧ g < E, fun w => ∀ w', (∀ g, B ≤ g ∧ g < E → w'.heap[g]? = w.heap[g]?) → Invk Tryz.prog w' v "DestinationSSRC" #[] (U32Out (fun g => B ≤ g ∧ g < E) w' ds), fun _ _ h hw w2 h2 => hw w2 fun g hg => (h2 g hg).trans (h g hg)⟩
def BuiltD (w : World) (ds : List Int) (e : Ending) (w' : World) : Prop := ∃ v, e = .returned v ∧ (ckD w.heap.size w'.heap.size v ds).ok w' ∧ Below w.heap.size w w'
section
variable {olds : Nat → Prop} {w0 : World}
theorem cu_builtD {B0 : Nat} {ps : List (Option Pc)} (k : Nat) (q : Pkt) (ds : List Int) (hB : B0 ≤ w0.heap.size) (ho : ∀ g, olds g → B0 ≤ g) (hb : ∀ w', Below B0 w0 w' → Calls Tryz.prog 22 #[.agg q.cells] w' (BuiltD w' ds))
  (L : PL) (w : World) (_ : ps = ([] ++ [k]).map (lookP L)) (hS : Stp olds w0 w (restr ([] ++ [k]) (lookM (den olds w0 L)))) :
  Calls Tryz.prog 22 #[.agg q.cells] w fun e w' => ∃ x : Pay, e = .returned x.v ∧ Stp (blksOf (lookM (den olds w0 L)) [k]) w w' (lookM (den olds w0 (zipW [k] [some (.ck (ckD x.c x.g x.v ds))]))) := by
 refine (hb w (hS.old B0 hB ho)).mono ?_
 rintro e w' ⟨v, rfl, hok, hBl⟩
 exact ⟨⟨w'.heap.size, w.heap.size, v, none⟩, rfl, stp_make (c' := .ck (ckD w.heap.size w'.heap.size v ds)) hBl hok fun y hy => ⟨hy.2, hy.1⟩⟩
theorem iv_dst {B E : Nat} {v : Value} {ds : List Int} (k j : Nat) {u : Option Pc} (L : PL) (w : World) (hps : [some (.ck (ckD B E v ds)), u] = ([] ++ [k, j]).map (lookP L)) (hS : Stp olds w0 w (restr ([] ++ [k, j]) (lookM (den olds w0 L)))) :
  Invk Tryz.prog w v "DestinationSSRC" #[] fun e w' => ∃ x : Pay, e = .returned (.slice x.a ds.length x.c) ∧ Stp (blksOf (lookM (den olds w0 L)) [k, j]) w w' (lookM (den olds w0 (zipW [k, j] [none, some (.ck (ck32 x.a ds.length (ds.flatMap u32c)))]))) := by
 have hl : lookP L k = some (.ck (ckD B E v ds)) := by simp only [List.nil_append, List.map_cons, List.map_nil, List.cons.injEq] at hps; exact hps.1.symm
 have hM : lookM (den olds w0 L) k = some (ckD B E v ds) := by rw [lookM_den, hl]; rfl
 have hr : restr ([] ++ [k, j]) (lookM (den olds w0 L)) k = some (ckD B E v ds) := by simp [restr, hasN, hM]
 have hk : (ckD B E v ds).ok w := hS.ok k _ hr
 refine (hk w fun _ _ => rfl).mono ?_
 rintro e w' ⟨A, m, c, rfl, hrow, hB⟩
 have hm : m = ds.length := by have h1 := hrow.1; rw [u32c_len] at h1; omega
 subst hm
 refine ⟨⟨0, c, undef, A⟩, rfl, ?_⟩
 have h1 : Stp (blksOf (lookM (den olds w0 L)) [k, j]) w w' (lookM [(j, some (ck32 A ds.length (ds.flatMap u32c)))]) := stp_one j (ck32 A ds.length (ds.flatMap u32c)) (.inl (grownBy_of_below hB none)) ⟨hrow.1, fun hn => by obtain ⟨ad, e, _, h2, h3⟩ := hrow.2 hn; exact ⟨ad, e, trivial, h2, h3⟩⟩ fun g hg => by
  obtain ⟨hn, ad, he, hg⟩ := hg
  obtain ⟨ad2, he2, hD, hlt, hc⟩ := hrow.2 hn
  rw [he] at he2
  injection he2 with he2
  subst he2 hg
  exact ⟨hlt, hD.symm.imp id fun h => ⟨k, List.mem_cons_self, _, hM, h⟩⟩
 refine h1.sub fun n c hc => ?_
 show lookM [(j, some (ck32 A ds.length (ds.flatMap u32c)))] n = some c
 have hc' : lookM [(k, none), (j, some (ck32 A ds.length (ds.flatMap u32c)))] n = some c := hc
 simp only [lookM] at hc' ⊢
 cases hq : Nat.beq k n with
 | true => rw [hq] at hc'; cases hc'
 | false => rw [hq] at hc'; exact hc'
theorem cu_cl32 {A : Option Addr} {c n : Nat} {ds : List Int} (j k : Nat) {u : Option Pc} (hn : n ≤ 1048576) (L : PL) (w : World)
  (hps : [some (.ck (ck32 A n (ds.flatMap u32c))), u] = ([j] ++ [k]).map (lookP L)) (hS : Stp olds w0 w (restr ([j] ++ [k]) (lookM (den olds w0 L)))) :
  Calls Tryz.prog 50 #[.slice A n c] w fun e w' => ∃ x : Pay, e = .returned (.slice x.a n x.c) ∧ Stp (blksOf (lookM (den olds w0 L)) [k]) w w' (lookM (den olds w0 (zipW [k] [some (.ck (ck32 x.a n (ds.flatMap u32c)))]))) := by
 simp only [List.cons_append, List.nil_append, List.map_cons, List.map_nil, List.cons.injEq] at hps
 have hM : lookM (den olds w0 L) j = some (ck32 A n (ds.flatMap u32c)) := by rw [lookM_den, ← hps.1]; rfl
 have hr : restr ([j] ++ [k]) (lookM (den olds w0 L)) j = some (ck32 A n (ds.flatMap u32c)) := by simp [restr, hasN, hM]
 have hk : R32 w (fun _ => True) A n (ds.flatMap u32c) := hS.ok j _ hr
 refine (clone32 w.heap.size A n c (ds.flatMap u32c) w hk.reads (u32c_oneP ds) (Nat.le_refl _) (by omega)).mono ?_
 rintro e w' ⟨v, rfl, hown, hB⟩
 obtain ⟨A2, c2, rfl⟩ := own_form hown
 exact ⟨⟨0, c2, undef, A2⟩, rfl, stp_32 hB (InRows.of_own hown)⟩
end
section
variable {P : Program} {olds : Nat → Prop} {w0 : World} {n : Nat} {a : Act} {w : World} {Q : Exit → Act → World → Prop} {l0 : List (Nat × Value)} {L0 : PL}
theorem retc1 {fn : Func} {R : Ending → World → Prop} {p : Tmp} {ty : TypeId} (hE : Env n l0 a) (hS : Stp olds w0 w (lookM (den olds w0 L0))) (h : fn.results = #[.cell p ty]) (k : Nat) (g : Nat) (T : TypeId) (cs : Array Value) (v1 : Value) (hR : R (.returned v1) w)
  (h1 : look l0 p = some (pt g 0) := by kernel_rfl) (h2 : lookP L0 k = some (.blk g T cs) := by kernel_rfl) (h3 : ldB P ty cs.toList 0 = true := by kernel_rfl) (h4 : ldV P ty cs.toList 0 = v1 := by kernel_rfl) : bodyPost P fn R .ret a w := by
 have hv := run_var (P := P) (hS.blk k (g := g) (t := T) (cs := cs) (by rw [lookM_den, h2]; rfl)) h3
 exact bodyPost_ret (v := v1) (by simp [results, h, hE.get p h1, asAddr, hv, h4]) hE.defers hR
end
theorem dstClo (q : Pkt) (ds : List Int) (hn : ds.length ≤ 1048576) (g0 g1 : Nat) {w0 : World} (hb : ∀ w', Below w0.heap.size w0 w' → Calls Tryz.prog 22 #[.agg q.cells] w' (BuiltD w' ds)) (olds : Nat → Prop) (w : World) (hBw : Below w0.heap.size w0 w) (ho : ∀ g, olds g → w0.heap.size ≤ g) (hS0 : Stp olds w w (lookM (den olds w (zipW [102, 101, 94] [some (.blk g1 27 #[.slice none 0 0]), some (.blk g0 56 q.cells), none])))) :
  Calls Tryz.prog 49 #[.pointer (some ⟨g0, 0, none⟩), .pointer (some ⟨g1, 0, none⟩)] w fun e w' => ∃ x : Pay, e = .returned (.bool true) ∧ Stp olds w w' (lookM (den olds w (zipW [102, 101, 94] ((fun x => [some (.blk g1 27 #[.slice x.a ds.length x.c]), some (.blk g0 56 q.cells), some (.ck (ck32 x.a ds.length (ds.flatMap u32c)))]) x)))) := by
 refine go_in Tryz.func49 rfl Tryz.ntmps49 [pt g0 0, pt g1 0] fun a hE => ?_
 have hS := stp_rem hS0 [(102, some (.blk g1 27 #[.slice none 0 0])), (101, some (.blk g0 56 q.cells))] (by kernel_rfl)
 refine rg hE hS [pu] (fun _ => kp [(2, .bool false)]) kP0 fun _ a u hE hS => ?_
 refine rgp hE hS [ld 101, cu 22 [] [96] (fun y => y.v) (fun y => [some (.ck (ckD y.c y.g y.v ds))]), ivA "DestinationSSRC" [] [96, 95] (fun y => .slice y.a ds.length y.c) (fun y => [none, some (.ck (ck32 y.a ds.length (ds.flatMap u32c)))]), cu 50 [95] [94] (fun y => .slice y.a ds.length y.c) (fun y => [some (.ck (ck32 y.a ds.length (ds.flatMap u32c)))]), st 102] kp0 (fun p2 => kP [(94, some (.ck (ck32 (p2 3).a ds.length (ds.flatMap u32c)))), (95, some (.ck (ck32 (p2 2).a ds.length (ds.flatMap u32c)))), (102, some (.blk g1 27 #[.slice (p2 3).a ds.length (p2 3).c]))]) (fun p2 => ⟨kr (cu_builtD (olds := olds) (w0 := w) (ps := [none]) (B0 := w0.heap.size) 96 q ds hBw.size ho (fun w' hw' => hb w' (hBw.trans hw'))), kr (iv_dst (olds := olds) (w0 := w) (B := (p2 1).c) (E := (p2 1).g) (v := (p2 1).v) (ds := ds) 96 95 (u := none)), kr (cu_cl32 (olds := olds) (w0 := w) (A := (p2 2).a) (c := (p2 2).c) (n := ds.length) (ds := ds) 95 94 (u := none) hn), trivial⟩) fun p2 a u hE hS => ?_
 refine rg hE hS [pu] (fun _ => kp [(2, .bool true)]) kP0 fun _ a u hE hS => ?_
 refine wp_ret ?_
 exact ret1 hE Tryz.results49 (.bool true) ⟨p2 3, rfl, end_mem (s := ⟨[], _⟩) (s' := ⟨[], _⟩) (fst_snd (by kernel_rfl)) hS⟩
theorem dstD_any (q : Pkt) (ds : List Int) (hn : ds.length ≤ 1048576) (w : World) (hb : ∀ w', Below w.heap.size w w' → Calls Tryz.prog 22 #[.agg q.cells] w' (BuiltD w' ds)) :
  Calls Tryz.prog 13 #[.agg q.cells] w fun e w' => ∃ (A2 : Option Addr) (n c2 : Nat), e = .returned (.slice A2 n c2) ∧ InRows w' w.heap.size w'.heap.size 1 A2 n (ds.flatMap u32c) ∧ Below w.heap.size w w' := by
 refine go_in Tryz.func13 rfl Tryz.ntmps13 [.agg q.cells] fun a hE => ?_
 have hS := stp_in w
 refine rg hE hS [nw 101, nw 102] (fun p1 => kp [(1, pt (p1 0).g 0), (2, pt (p1 1).g 0)]) (fun p1 => kP [(101, some (.blk (p1 0).g 56 q.cells)), (102, some (.blk (p1 1).g 27 #[.slice none 0 0]))]) fun p1 a u hE hS => ?_
 refine wp_seq ?_
 refine rgp hE hS [pu, cu 20 [] [102, 101, 94] (fun _ => .bool true) (fun x => [some (.blk (p1 1).g 27 #[.slice x.a ds.length x.c]), some (.blk (p1 0).g 56 q.cells), some (.ck (ck32 x.a ds.length (ds.flatMap u32c)))]), pu] (fun _ => kp [(5, .bool false)]) (fun p2 => kP [(102, some (.blk (p1 1).g 27 #[.slice (p2 1).a ds.length (p2 1).c])), (94, some (.ck (ck32 (p2 1).a ds.length (ds.flatMap u32c))))]) (fun _ => ⟨kr (try_cu (w0 := w) (ps := [some (.blk (p1 1).g 27 #[.slice none 0 0]), some (.blk (p1 0).g 56 q.cells), none]) (W := fun x => [some (.blk (p1 1).g 27 #[.slice x.a ds.length x.c]), some (.blk (p1 0).g 56 q.cells), some (.ck (ck32 x.a ds.length (ds.flatMap u32c)))]) (fun _ => by kernel_rfl) (fun _ _ _ _ => rfl) (fun _ _ _ _ _ => rfl) fun olds w2 hB2 ho hS2 => dstClo q ds hn (p1 0).g (p1 1).g hb olds w2 hB2 ho hS2), trivial⟩) fun p2 a u hE hS => iff hE <| wp_skip ?_
 refine rg hE hS [ld 102, st 102] kp0 kP0 fun _ a u hE hS => ?_
 refine wp_ret ?_
 exact retc1 hE hS Tryz.results13 102 (p1 1).g 27 #[.slice (p2 1).a ds.length (p2 1).c] (.slice (p2 1).a ds.length (p2 1).c) ⟨_, _, _, rfl, in_of32 hS 94, hS.below⟩
end Go.Proofs.YtmmfpgoodfgkbaaGreatDoor
