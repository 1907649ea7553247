/-
  THE WALK of the package's reading of transport-wide feedback. Condition: the bytes lie in memory, apart from the packet's block; the header says the kind; the reference reads them.
-/
import Derived.Test.YtmmfpgoodfgkbaaGreatDoorUm13a
import Derived.Test.YtmmfpgoodfgkbaaGreatDoorUm8
namespace Go.Proofs.YtmmfpgoodfgkbaaGreatDoor
open Go Go.RowKit
set_option maxHeartbeats 4000000
set_option maxRecDepth 100000
set_option linter.unusedVariables false
set_option linter.unusedSimpArgs false

def pr (c : Int) (y : List Int) (k : Nat) : Int := if tl c y k ≤ 0 then c else c - tl c y k
def cblk (c : Nat × Sta) : Nat × TypeId × Array Value := bif c.2.vec then (c.1, 244, #[.nilIface, .int .u16 1, .int .u16 c.2.size, c.2.list.val]) else (c.1, 247, #[.nilIface, .int .u16 0, .int .u16 c.2.sym, .int .u16 c.2.run])
def cval (c : Nat × Sta) : Value := .iface (bif c.2.vec then 239 else 245) (.pointer (some ⟨c.1, 0, none⟩))
def fz (gs : List Nat) (rs : List Int) : List (Nat × TypeId × Array Value) := List.zipWith (fun g x => (g, 249, #[Value.int .u16 x, .int .i64 0])) gs rs
def fd (gs : List Nat) (ds : List Dlt) : List (Nat × TypeId × Array Value) := List.zipWith (fun g d => (g, 249, #[Value.int .u16 d.ty, .int .i64 d.d])) gs ds
def ptrs (gs : List Nat) : List Value := gs.map fun g => .pointer (some ⟨g, 0, none⟩)
theorem fz_snoc {gs : List Nat} {rs : List Int} (h : gs.length = rs.length) (g : Nat) (x : Int) : fz gs rs ++ [(g, 249, #[Value.int .u16 x, .int .i64 0])] = fz (gs ++ [g]) (rs ++ [x]) := by
 unfold fz
 rw [List.zipWith_append h]
 rfl
theorem fd_snoc {gs : List Nat} {ds : List Dlt} (h : gs.length = ds.length) (g : Nat) (d : Dlt) : fd gs ds ++ [(g, 249, #[Value.int .u16 d.ty, .int .i64 d.d])] = fd (gs ++ [g]) (ds ++ [d]) := by
 unfold fd
 rw [List.zipWith_append h]
 rfl
theorem fz_pop {gs : List Nat} {rs : List Int} {i g : Nat} {x : Int} (h1 : gs[i]? = some g) (h2 : rs[i]? = some x) : fz (gs.drop i) (rs.drop i) = (g, 249, #[Value.int .u16 x, .int .i64 0]) :: fz (gs.drop (i + 1)) (rs.drop (i + 1)) := by
 obtain ⟨l1, rfl⟩ := List.getElem?_eq_some_iff.1 h1
 obtain ⟨l2, rfl⟩ := List.getElem?_eq_some_iff.1 h2
 rw [List.drop_eq_getElem_cons l1, List.drop_eq_getElem_cons l2]
 rfl
theorem tk_snoc {gs : List Nat} {i g : Nat} (h : gs[i]? = some g) : gs.take i ++ [g] = gs.take (i + 1) := by
 rw [List.take_add_one, h]
 rfl
theorem ptrs_at {gs : List Nat} {i g : Nat} (h : gs[i]? = some g) : (ptrs gs)[i]? = some (.pointer (some ⟨g, 0, none⟩)) := by
 unfold ptrs
 rw [List.getElem?_map, h]
 rfl
theorem min_g {P : Program} {ts : Array TypeId} {t : TypeId} (x y m : Int) (h : (if y < x then y else x) = m) : ∀ w, ((do let v ← Builtin.min_ ts t #[.int .i64 x, .int .i64 y]; pure (Next.value v) : Sem Next).run P w) = .ok (.value (.int .i64 m)) w := fun w => by
 rw [Sem.run_bind, run_min_int2, h]
 rfl
theorem rcv_cut {v lf : Int} {m : Nat} (h : WOk lf v) (hm : m = (symL v).length ∨ lf ≤ m) : rcv ((symL v).take m) = rcv (symL v) := by
 rcases hm with rfl | hm
 ·rw [List.take_length]
 ·have e : rcv ((symL v).drop m) = [] := by
   unfold rcv
   rw [List.filter_eq_nil_iff]
   intro x hx
   obtain ⟨j, hj⟩ := List.mem_iff_getElem?.1 hx
   rw [List.getElem?_drop] at hj
   have := (h.sym (m + j) x hj).2 (by omega)
   simp [this]
  conv => rhs; rw [← List.take_append_drop m (symL v), rcv_append, e, List.append_nil]
theorem vec_one {v : Int} (hr : ¬ v < 32768) (hs : v / 16384 % 2 = 0) {j : Nat} {x : Int} (h : (symL v)[j]? = some x) : 0 ≤ x ∧ x < 2 := by
 have := List.mem_of_getElem? h
 unfold symL vecN at this
 rw [if_neg hr, if_pos hs] at this
 obtain ⟨i, _, rfl⟩ := List.mem_map.1 this
 omega
theorem rcv_rep (n : Nat) (x : Int) : rcv (List.replicate n x) = if x = 1 ∨ x = 2 then List.replicate n x else [] := by
 unfold rcv
 by_cases h : x = 1 ∨ x = 2
 ·rw [if_pos h, List.filter_eq_self]
  intro y hy
  rw [(List.mem_replicate.1 hy).2]
  simpa using h
 ·rw [if_neg h, List.filter_eq_nil_iff]
  intro y hy
  rw [(List.mem_replicate.1 hy).2]
  simpa using h
def cs13U (L : Nat) (sd md bs C rf fb : Int) (ch dl : Value) : Array Value := #[.bool false, .int .u8 (15 : Nat), .int .u8 205, .int .u16 (L : Nat), .int .u32 sd, .int .u32 md, .int .u16 bs, .int .u16 C, .int .u32 rf, .int .u8 fb, ch, dl]
theorem cblk_fst (c : Nat × Sta) : (cblk c).1 = c.1 := by unfold cblk; cases c.2.vec <;> rfl
theorem tok_len {c : Int} {y : List Int} {n : Nat} (h : TOk c y n) : 2 * n + 1 ≤ y.length ∧ 0 < n := by
 cases hr : rcvN y n with
 | nil => exact absurd hr h.got
 | cons x l =>
  have h0 := h.dl 0 (by rw [hr]; simp)
  have hx : x = 1 ∨ x = 2 := rcvN_mem (y := y) (n := n) (by rw [hr]; simp)
  have e : dPos (rcvN y n) (0 + 1) = 0 + x.toNat := by rw [hr]; rfl
  refine ⟨by rw [e] at h0; omega, ?_⟩
  cases n with
  | zero => simp [rcvN] at hr
  | succ n => omega
theorem fam_at {g : Nat} {w0 w : World} {L : PL} {l : List (Nat × TypeId × Array Value)} (k : Nat) {T2 : TypeId} {cs2 : Array Value} (hS : Stp (· = g) w0 w (lookM (den (· = g) w0 L))) (hne : k ≠ 101) (h : lookP L k = some (pcK l)) (h2 : lookP L 101 = some (.blk g T2 cs2)) : ∀ x ∈ l, (w0.heap.size ≤ x.1 ∧ x.1 < w.heap.size) ∧ Blk w x.1 x.2.1 x.2.2 := fun x hx => by
 have m1 : lookM (den (· = g) w0 L) k = some (ckF l) := by rw [lookM_den, h]; rfl
 have hb : (ckF l).blks x.1 := List.mem_map_of_mem hx
 have hl := hS.lt k _ m1 x.1 hb
 exact ⟨⟨hl.2.resolve_right fun e => hS.apart k 101 _ _ m1 (by rw [lookM_den, h2]; rfl) hne x.1 hb e, hl.1⟩, (hS.ok k _ m1).2 x hx⟩
theorem um_13 (g b o c : Nat) (z : List Int) (D : Nat → Prop) (w : World) {L : Nat} (hd : Hd z false 15 205 L) (hb : Blk w g 238 #[.bool false, .int .u8 0, .int .u8 0, .int .u16 0, .int .u32 0, .int .u32 0, .int .u16 0, .int .u16 0, .int .u32 0, .int .u8 0, .slice none 0 0, .slice none 0 0]) (hr : RowD w D (some ⟨b, o, none⟩) z) (hD : ∀ x, D x → x < w.heap.size ∧ x ≠ g) (hc : z.length ≤ c) (hzl : z.length = 4 * (L + 1)) (n : Nat) (hl20 : 20 ≤ z.length) (hT : TOk (rd16 (z.drop 14) 0) (z.drop 20) n) :
  Calls Tryz.prog 183 #[.pointer (some ⟨g, 0, none⟩), .slice (some ⟨b, o, none⟩) z.length c] w fun e w' => e = .returned .nilIface ∧ w.grownBy w' (some g) ∧ ∃ (A : Option Addr) (c1 : Nat) (A2 : Option Addr) (c2 : Nat) (cvs : List (Nat × Sta)) (gs : List Nat), Blk w' g 238 (cs13U L (rd32 (z.drop 4) 0) (rd32 (z.drop 8) 0) (rd16 (z.drop 12) 0) (rd16 (z.drop 14) 0) (rd24 ((z.take 19).drop 16) 0) (gi z 19) (.slice A (cvs.length : Nat) c1) (.slice A2 (gs.length : Nat) c2)) ∧ InRows w' w.heap.size w'.heap.size 1 A cvs.length (cvs.map cval) ∧ (∀ c ∈ cvs, (w.heap.size ≤ c.1 ∧ c.1 < w'.heap.size) ∧ Blk w' c.1 (cblk c).2.1 (cblk c).2.2) ∧ (∀ c ∈ cvs, InRows w' w.heap.size w'.heap.size 1 c.2.list.A c.2.list.l.length (c.2.list.l.flatMap u16c)) ∧ (cvs.map fun c => c.2.cln) = stasN (z.drop 20) n ∧ InRows w' w.heap.size w'.heap.size 1 A2 gs.length (ptrs gs) ∧ gs.length = (rcvN (z.drop 20) n).length ∧ ∀ x ∈ fd gs (dltN (rcvN (z.drop 20) n) ((z.drop 20).drop (2 * n)) (rcvN (z.drop 20) n).length), (w.heap.size ≤ x.1 ∧ x.1 < w'.heap.size) ∧ Blk w' x.1 x.2.1 x.2.2 := by
 refine go_in Tryz.func183 rfl Tryz.ntmps183 [pt g 0, sv b o z.length c] fun a hE => ?_
 have hS := stp_blk1 101 hb
 have hS := stp_ry1 hS 110 hr (fun x hx => ⟨(hD x hx).1, (hD x hx).2⟩) hd.byts
 have h4 := hd.len
 have hL : L ≤ 65535 := by have h1 := hd.ln; have h2 := rd16_lt hd.byts 2; omega
 refine rg hE hS [pu] (fun _ => kp [(4, .nilIface)]) kP0 fun _ a u hE hS => ?_
 refine wp_seq ?_
 refine rgp hE hS [pu, pu, pe (.bool false)] (fun _ => kp [(26, .bool false)]) kP0 (fun _ => ⟨kr (cbV (dfV (show ¬ (((z.length : Nat) : Int) < 8) by omega))), trivial⟩) fun _ a u hE hS => iff hE <| wp_skip ?_
 refine wp_seq ?_
 refine rgp hE hS [pu, pu, pu, pu, cu 71 [110] [101] (fun _ => .nilIface) (fun _ => [some (.blk g 238 #[.bool false, .int .u8 (15 : Nat), .int .u8 205, .int .u16 (L : Nat), .int .u32 0, .int .u32 0, .int .u16 0, .int .u16 0, .int .u32 0, .int .u8 0, .slice none 0 0, .slice none 0 0])]), pu] (fun _ => kp [(5, .nilIface)]) (fun _ => kP [(101, some (.blk g 238 #[.bool false, .int .u8 (15 : Nat), .int .u8 205, .int .u16 (L : Nat), .int .u32 0, .int .u32 0, .int .u16 0, .int .u16 0, .int .u32 0, .int .u8 0, .slice none 0 0, .slice none 0 0]))]) (fun _ => ⟨kr (cu_ub (olds := (· = g)) (w0 := w) (D := D) (T := 238) (cs := #[.bool false, .int .u8 0, .int .u8 0, .int .u16 0, .int .u32 0, .int .u32 0, .int .u16 0, .int .u16 0, .int .u32 0, .int .u8 0, .slice none 0 0, .slice none 0 0]) (A := some ⟨b, o, none⟩) (l := z) (g := g) (f := 71) (cs' := #[.bool false, .int .u8 (15 : Nat), .int .u8 205, .int .u16 (L : Nat), .int .u32 0, .int .u32 0, .int .u16 0, .int .u16 0, .int .u32 0, .int .u8 0, .slice none 0 0, .slice none 0 0]) 110 101 z.length c rfl fun w4 hb4 hr4 hD4 hz4 => hdrUmT_any g b o c z D w4 hd hb4 hr4 hD4 hc), trivial⟩) fun _ a u hE hS => ?_
 refine rg hE hS [pu, pu] (fun _ => kp [(34, .bool false)]) kP0 fun _ a u hE hS => iff hE <| wp_skip ?_
 refine rgp hE hS [pu, pu, pu, pu, ld 101, pe (.int .i64 (L : Nat)), pe (.int .i64 ((L + 1 : Nat) : Int)), pe (.int .i64 ((4 * (L + 1) : Nat) : Int)), pu] (fun _ => kp [(6, .int .i64 (4 * (L + 1) : Nat))]) kP0 (fun _ => ⟨kr (ciV (wiV ((L : Nat) : Int) (by omega))), kr (ciV (show IntKind.i64.wrap (((L : Nat) : Int) + (1 : Int)) = ((L + 1 : Nat) : Int) from by rw [wiV _ (by omega)]; omega)), kr (ciV (show IntKind.i64.wrap ((4 : Int) * ((L + 1 : Nat) : Int)) = ((4 * (L + 1) : Nat) : Int) from by rw [wiV _ (by omega)]; omega)), trivial⟩) fun _ a u hE hS => ?_
 have hE := end_env (s := ⟨_, []⟩) (s' := ⟨[(0, pt g 0), (1, sv b o z.length c), (4, .nilIface), (6, .int .i64 (4 * (L + 1) : Nat))], []⟩) (fst_snd (by kernel_rfl)) hE
 have hS := end_mem (s := ⟨[], _⟩) (s' := ⟨[], [(110, some (.ry D (some ⟨b, o, none⟩) z)), (101, some (.blk g 238 #[.bool false, .int .u8 (15 : Nat), .int .u8 205, .int .u16 (L : Nat), .int .u32 0, .int .u32 0, .int .u16 0, .int .u16 0, .int .u32 0, .int .u8 0, .slice none 0 0, .slice none 0 0]))]⟩) (fst_snd (by kernel_rfl)) hS
 refine wp_seq ?_
 refine rgp hE hS [pu, pe (.bool false)] (fun _ => kp [(45, .bool false)]) kP0 (fun _ => ⟨kr (cbV (dfV (show ¬ (((4 * (L + 1) : Nat) : Int) < 20) by omega))), trivial⟩) fun _ a u hE hS => iff hE <| wp_skip ?_
 refine wp_seq ?_
 refine rgp hE hS [pu, pu, pu, pe (.bool false)] (fun _ => kp [(50, .bool false)]) kP0 (fun _ => ⟨kr (cbV (dfV (show ¬ (((z.length : Nat) : Int) < ((4 * (L + 1) : Nat) : Int)) by omega))), trivial⟩) fun _ a u hE hS => iff hE <| wp_skip ?_
 refine wp_seq ?_
 refine rg hE hS [pu, pu, pu, pu, ld 101, pu, pu, pu, pu, pu, pu, ld 101, pu, pu] (fun _ => kp [(65, .bool false)]) kP0 fun _ a u hE hS => iff hE <| wp_skip ?_
 refine rgp hE hS [pu, pu, rsl 110 111, cl cB32 [111] [], pu, pu, st 101] kp0 (fun _ => kP [(101, some (.blk g 238 #[.bool false, .int .u8 (15 : Nat), .int .u8 205, .int .u16 (L : Nat), .int .u32 (rd32 (z.drop 4) 0), .int .u32 0, .int .u16 0, .int .u16 0, .int .u32 0, .int .u8 0, .slice none 0 0, .slice none 0 0]))]) (fun _ => ⟨kr (show 4 ≤ z.length ∧ z.length ≤ z.length ∧ z.length ≤ c by omega), kr (show 4 ≤ (z.drop 4).length ∧ (z.drop 4).length ≤ (c - 4) ∧ 0 < (z.drop 4).length by simp only [List.length_drop]; omega), trivial⟩) fun _ a u hE hS => ?_
 refine rgp hE hS [pu, pu, rsl 110 111, cl cB32 [111] [], pu, pu, st 101] kp0 (fun _ => kP [(101, some (.blk g 238 #[.bool false, .int .u8 (15 : Nat), .int .u8 205, .int .u16 (L : Nat), .int .u32 (rd32 (z.drop 4) 0), .int .u32 (rd32 (z.drop 8) 0), .int .u16 0, .int .u16 0, .int .u32 0, .int .u8 0, .slice none 0 0, .slice none 0 0]))]) (fun _ => ⟨kr (show 8 ≤ z.length ∧ z.length ≤ z.length ∧ z.length ≤ c by omega), kr (show 4 ≤ (z.drop 8).length ∧ (z.drop 8).length ≤ (c - 8) ∧ 0 < (z.drop 8).length by simp only [List.length_drop]; omega), trivial⟩) fun _ a u hE hS => ?_
 have hE := end_env (s := ⟨_, []⟩) (s' := ⟨[(0, pt g 0), (1, sv b o z.length c), (4, .nilIface), (6, .int .i64 (4 * (L + 1) : Nat))], []⟩) (fst_snd (by kernel_rfl)) hE
 have hS := end_mem (s := ⟨[], _⟩) (s' := ⟨[], [(110, some (.ry D (some ⟨b, o, none⟩) z)), (101, some (.blk g 238 #[.bool false, .int .u8 (15 : Nat), .int .u8 205, .int .u16 (L : Nat), .int .u32 (rd32 (z.drop 4) 0), .int .u32 (rd32 (z.drop 8) 0), .int .u16 0, .int .u16 0, .int .u32 0, .int .u8 0, .slice none 0 0, .slice none 0 0]))]⟩) (fst_snd (by kernel_rfl)) hS
 refine rgp hE hS [pu, pu, rsl 110 111, cl cB16 [111] [], pu, pu, st 101] kp0 (fun _ => kP [(101, some (.blk g 238 #[.bool false, .int .u8 (15 : Nat), .int .u8 205, .int .u16 (L : Nat), .int .u32 (rd32 (z.drop 4) 0), .int .u32 (rd32 (z.drop 8) 0), .int .u16 (rd16 (z.drop 12) 0), .int .u16 0, .int .u32 0, .int .u8 0, .slice none 0 0, .slice none 0 0]))]) (fun _ => ⟨kr (show 12 ≤ z.length ∧ z.length ≤ z.length ∧ z.length ≤ c by omega), kr (show 2 ≤ (z.drop 12).length ∧ (z.drop 12).length ≤ (c - 12) ∧ 0 < (z.drop 12).length by simp only [List.length_drop]; omega), trivial⟩) fun _ a u hE hS => ?_
 refine rgp hE hS [pu, pu, rsl 110 111, cl cB16 [111] [], pu, pu, st 101] kp0 (fun _ => kP [(101, some (.blk g 238 #[.bool false, .int .u8 (15 : Nat), .int .u8 205, .int .u16 (L : Nat), .int .u32 (rd32 (z.drop 4) 0), .int .u32 (rd32 (z.drop 8) 0), .int .u16 (rd16 (z.drop 12) 0), .int .u16 (rd16 (z.drop 14) 0), .int .u32 0, .int .u8 0, .slice none 0 0, .slice none 0 0]))]) (fun _ => ⟨kr (show 14 ≤ z.length ∧ z.length ≤ z.length ∧ z.length ≤ c by omega), kr (show 2 ≤ (z.drop 14).length ∧ (z.drop 14).length ≤ (c - 14) ∧ 0 < (z.drop 14).length by simp only [List.length_drop]; omega), trivial⟩) fun _ a u hE hS => ?_
 refine rgp hE hS [pu, pu, rsl 110 111, cl cG24 [111] [], pu, pu, st 101] kp0 (fun _ => kP [(101, some (.blk g 238 #[.bool false, .int .u8 (15 : Nat), .int .u8 205, .int .u16 (L : Nat), .int .u32 (rd32 (z.drop 4) 0), .int .u32 (rd32 (z.drop 8) 0), .int .u16 (rd16 (z.drop 12) 0), .int .u16 (rd16 (z.drop 14) 0), .int .u32 (rd24 ((z.take 19).drop 16) 0), .int .u8 0, .slice none 0 0, .slice none 0 0]))]) (fun _ => ⟨kr (show 16 ≤ 19 ∧ 19 ≤ z.length ∧ z.length ≤ c by omega), kr (show 3 ≤ ((z.take 19).drop 16).length ∧ ((z.take 19).drop 16).length ≤ (c - 16) ∧ 0 < ((z.take 19).drop 16).length by simp only [List.length_drop, List.length_take]; omega), trivial⟩) fun _ a u hE hS => ?_
 refine rgp hE hS [pu, pu, ix, rb 110 19, pu, pu, st 101] kp0 (fun _ => kP [(101, some (.blk g 238 #[.bool false, .int .u8 (15 : Nat), .int .u8 205, .int .u16 (L : Nat), .int .u32 (rd32 (z.drop 4) 0), .int .u32 (rd32 (z.drop 8) 0), .int .u16 (rd16 (z.drop 12) 0), .int .u16 (rd16 (z.drop 14) 0), .int .u32 (rd24 ((z.take 19).drop 16) 0), .int .u8 (gi z 19), .slice none 0 0, .slice none 0 0]))]) (fun _ => ⟨kr (show 19 < z.length by omega), kr (show 19 < (z).length by omega), trivial⟩) fun _ a u hE hS => ?_
 obtain ⟨sd, hsd⟩ : ∃ x, rd32 (z.drop 4) 0 = x := ⟨_, rfl⟩
 obtain ⟨md, hmd⟩ : ∃ x, rd32 (z.drop 8) 0 = x := ⟨_, rfl⟩
 obtain ⟨bs, hbs⟩ : ∃ x, rd16 (z.drop 12) 0 = x := ⟨_, rfl⟩
 obtain ⟨C, hC⟩ : ∃ x, rd16 (z.drop 14) 0 = x := ⟨_, rfl⟩
 obtain ⟨rf, hrf⟩ : ∃ x, rd24 ((z.take 19).drop 16) 0 = x := ⟨_, rfl⟩
 obtain ⟨fb, hfb⟩ : ∃ x, gi z 19 = x := ⟨_, rfl⟩
 rw [hsd, hmd, hbs, hC, hrf, hfb] at hS
 have hC16 := rd16_lt (hd.byts.drop 14) 0
 rw [hC] at hC16
 obtain ⟨y, hy⟩ : ∃ y, z.drop 20 = y := ⟨_, rfl⟩
 have hyl : y.length = z.length - 20 := by rw [← hy]; exact List.length_drop
 have hzy : Byts y := by rw [← hy]; exact hd.byts.drop 20
 rw [hC, hy] at hT
 have hds := tok_len hT
 refine rg hE hS [pu] (fun _ => kp [(7, .int .i64 ((20 + 2 * 0 : Nat) : Int))]) kP0 fun _ a u hE hS => ?_
 have hE := end_env (s := ⟨_, []⟩) (s' := ⟨[(0, pt g 0), (1, sv b o z.length c), (4, .nilIface), (6, .int .i64 (4 * (L + 1) : Nat)), (7, .int .i64 ((20 + 2 * 0 : Nat) : Int))], []⟩) (fst_snd (by kernel_rfl)) hE
 have hS := end_mem (s := ⟨[], _⟩) (s' := ⟨[], [(110, some (.ry D (some ⟨b, o, none⟩) z)), (101, some (.blk g 238 ((cs13U L sd md bs C rf fb (.slice none 0 0) (.slice none 0 0)))))]⟩) (fst_snd (by kernel_rfl)) hS
 refine rg hE hS [pu] (fun _ => kn [(8, .int .u16 0)] [0, 1, 4, 6, 7]) (fun _ => kN [] [110, 101]) fun _ a u hE hS => ?_
 have hS := stp_row0 hS 1 w.heap.size 242 1
 have hS := stp_fam0 hS 2
 have hS := stp_syms0 hS 3 w.heap.size
 have hS := stp_row0 hS 4 w.heap.size 248 1
 have hS := stp_fam0 hS 5
 refine wp_seq ?_
 refine wp_block ?_
 refine loop_k hE hS n (fun k x => kd [7, 8] [(7, .int .i64 ((20 + 2 * k : Nat) : Int)), (8, .int .u16 x.y.2.2.1)]) (fun k x => kN [(101, some (.blk g 238 ((cs13U L sd md bs C rf fb (.slice x.p.a x.n x.p.c) (.slice x.y.2.2.2.p.a x.y.2.2.2.n x.y.2.2.2.p.c))))), (1, some (.row w.heap.size 242 1 (.slice x.p.a x.n x.p.c) x.n x.xs)), (2, some (pcK (x.y.1.map cblk))), (3, some (ckSyms w.heap.size x.y.2.1)), (4, some (.row w.heap.size 248 1 (.slice x.y.2.2.2.p.a x.y.2.2.2.n x.y.2.2.2.p.c) x.y.2.2.2.n x.y.2.2.2.xs)), (5, some (pcK (fz x.y.2.2.2.y (rcvN y k))))] [110]) (fun k (x : Lx (List (Nat × Sta) × List (Sl Int) × Int × Lx (List Nat))) => x.n = k ∧ x.xs = x.y.1.map cval ∧ (x.y.1.map fun c => c.2.cln) = stasN y k ∧ x.y.1.length = k ∧ (∀ c ∈ x.y.1, c.2.list.l = [] ∨ c.2.list ∈ x.y.2.1) ∧ x.y.2.2.1 = pr C y k ∧ x.y.2.2.2.n = (rcvN y k).length ∧ x.y.2.2.2.xs = ptrs x.y.2.2.2.y ∧ x.y.2.2.2.y.length = (rcvN y k).length) ⟨pay0, 0, [], [], [], 0, pay0, 0, [], []⟩ (⟨rfl, rfl, rfl, rfl, fun c hc => (by cases hc), by show (0 : Int) = _; unfold pr tl; split <;> omega, rfl, rfl, rfl⟩) ?_
 intro k x a u hkk hI hE hS K hK
 obtain ⟨hk1, hk2, hk3, hk4, hk5, hk6, hk7, hk8, hk9⟩ := hI
 obtain ⟨xp, xn, xs, cvs, rows, pv, rp, rn, rs, gs⟩ := x
 simp only at hk1 hk2 hk3 hk4 hk5 hk6 hk7 hk8 hk9
 by_cases hlt : k < n
 ·skip
  obtain ⟨hkq, htl, hw⟩ := hT.ok k hlt
  obtain ⟨V, hVt⟩ : ∃ V, tw y k = V := ⟨_, rfl⟩
  obtain ⟨lf, hlf⟩ : ∃ lf, tl C y k = lf := ⟨_, rfl⟩
  have htb := tl_le hzy C k
  have hV16 := tw_lt hzy k
  have hrl := rcvN_le hzy k
  have hpv : pv = C - lf := by rw [hk6]; unfold pr; rw [if_neg (by omega), hlf]
  have hsl := symL_le hV16.1
  rw [hlf] at htl hw htb
  rw [hVt] at hw hV16 hsl
  have hkn : 2 * k + 2 < y.length := by omega
  have hwr := hw.run
  have hb0 : gi ((z.take (20 + 2 * k + 1)).drop (20 + 2 * k)) 0 = gi y (2 * k) := by rw [gi_cut z _ _ _ (by omega), gi_drop, ← hy, gi_drop]; congr 1
  have hg0 := hzy.gi (2 * k)
  have hg1 := hzy.gi (2 * k + 1)
  have hVg : V = gi y (2 * k) * 256 + gi y (2 * k + 1) := by rw [← hVt]; rfl
  have hbb : 0 ≤ gi ((z.take (20 + 2 * k + 1)).drop (20 + 2 * k)) 0 ∧ gi ((z.take (20 + 2 * k + 1)).drop (20 + 2 * k)) 0 < 256 := by rw [hb0]; exact hg0
  have hY2 : rd16 ((z.take (20 + 2 * k + 2)).drop (20 + 2 * k)) 0 = V := by rw [rd16_cut z _ _ (by omega), ← hVt]; unfold tw; rw [← hy, rd16_drop, rd16_drop]; congr 1
  have hYl : ((z.take (20 + 2 * k + 2)).drop (20 + 2 * k)).length = 2 := by rw [List.length_drop, List.length_take, Nat.min_eq_left (by omega)]; omega
  refine wp_seq ?_
  refine rgp hE hS [pu, pu, pu, pu, ld 101, pe (.bool true)] (fun _ => kp [(108, .bool true)]) kP0 (fun _ => ⟨kr (cbV (dtV (show pv < C by omega))), trivial⟩) fun _ a u hE hS => ift hE <| wp_skip <| wp_block ?_
  refine wp_seq ?_
  refine rgp hE hS [pu, pe (.int .i64 ((20 + 2 * k + 2 : Nat) : Int)), pu, pe (.bool false)] (fun _ => kp [(112, .bool false)]) kP0 (fun _ => ⟨kr (ciV (show IntKind.i64.wrap (((20 + 2 * k : Nat) : Int) + (2 : Int)) = ((20 + 2 * k + 2 : Nat) : Int) from by rw [wiV _ (by omega)]; omega)), kr (cbV (dfV (show ¬ (((20 + 2 * k + 2 : Nat) : Int) ≥ ((4 * (L + 1) : Nat) : Int)) by omega))), trivial⟩) fun _ a u hE hS => iff hE <| wp_skip ?_
  refine rgp hE hS [pu, pu, pu, pe (.int .i64 ((20 + 2 * k + 1 : Nat) : Int)), rsl 110 111, ix, rb 111 0, cu 185 [] [] (fun _ => .int .u16 (V / 32768)) (fun _ => []), pu] (fun _ => kp [(9, .int .u16 (V / 32768))]) kP0 (fun _ => ⟨kr (ciV (show IntKind.i64.wrap (((20 + 2 * k : Nat) : Int) + (1 : Int)) = ((20 + 2 * k + 1 : Nat) : Int) from by rw [wiV _ (by omega)]; omega)), kr (show (20 + 2 * k) ≤ (20 + 2 * k + 1) ∧ (20 + 2 * k + 1) ≤ z.length ∧ z.length ≤ c by omega), kr (show 0 < ((z.take (20 + 2 * k + 1)).drop (20 + 2 * k)).length by rw [List.length_drop, List.length_take, Nat.min_eq_left (by omega)]; omega), kr (show 0 < ((z.take (20 + 2 * k + 1)).drop (20 + 2 * k)).length by rw [List.length_drop, List.length_take, Nat.min_eq_left (by omega)]; omega), kr (cu_cpt (olds := (· = g)) (w0 := w) fun w4 => (getN_any (gi ((z.take (20 + 2 * k + 1)).drop (20 + 2 * k)) 0) 0 1 w4 (by omega) (by omega) (by omega)).mono fun e w5 ⟨e1, e2⟩ => ⟨e1.trans (congrArg (fun x => Ending.returned (Value.int .u16 x)) (show gi ((z.take (20 + 2 * k + 1)).drop (20 + 2 * k)) 0 / 2 ^ (8 - (0 + 1)) % 2 ^ 1 = V / 32768 by rw [hb0]; omega)), e2⟩), trivial⟩) fun _ a u hE hS => ?_
  refine rg hE hS [pu] (fun _ => kn [(10, .nilIface)] [0, 1, 4, 6, 7, 8, 9]) (fun _ => kN [] [101, 1, 2, 3, 4, 5, 110]) fun _ a u hE hS => ?_
  have hE := end_env (s := ⟨_, []⟩) (s' := ⟨[(0, pt g 0), (1, sv b o z.length c), (4, .nilIface), (6, .int .i64 (4 * (L + 1) : Nat)), (7, .int .i64 ((20 + 2 * k : Nat) : Int)), (8, .int .u16 pv), (9, .int .u16 (V / 32768)), (10, .nilIface)], []⟩) (fst_snd (by kernel_rfl)) hE
  have hS := end_mem (s := ⟨[], _⟩) (s' := ⟨[], [(101, some (.blk g 238 ((cs13U L sd md bs C rf fb (.slice xp.a xn xp.c) (.slice rp.a rn rp.c))))), (1, some (.row w.heap.size 242 1 (.slice xp.a xn xp.c) xn xs)), (2, some (pcK (cvs.map cblk))), (3, some (ckSyms w.heap.size rows)), (4, some (.row w.heap.size 248 1 (.slice rp.a rn rp.c) rn rs)), (5, some (pcK (fz gs (rcvN y k)))), (110, some (.ry D (some ⟨b, o, none⟩) z))]⟩) (fst_snd (by kernel_rfl)) hS
  have hrcn : rcvN y (k + 1) = rcvN y k ++ rcv (symL V) := by rw [← hVt]; rfl
  have htn : tl C y (k + 1) = lf - (symL V).length := by rw [← hVt, ← hlf]; rfl
  refine seq_join2 hE hS (fun (x : Nat × Sta × List (Sl Int) × Int × Lx (List Nat)) => x.2.1.cln = staC V ∧ (x.2.1.list.l = [] ∨ x.2.1.list ∈ x.2.2.1) ∧ (∀ s ∈ rows, s ∈ x.2.2.1) ∧ x.2.2.2.1 = pr C y (k + 1) ∧ x.2.2.2.2.n = (rcvN y (k + 1)).length ∧ x.2.2.2.2.xs = ptrs x.2.2.2.2.y ∧ x.2.2.2.2.y.length = (rcvN y (k + 1)).length) (fun x => [(0, .pointer (some ⟨g, 0, none⟩)), (1, .slice (some ⟨b, o, none⟩) z.length c), (4, .nilIface), (6, .int .i64 (4 * (L + 1) : Nat)), (7, .int .i64 ((20 + 2 * k : Nat) : Int)), (8, .int .u16 x.2.2.2.1), (10, cval (x.1, x.2.1))]) (fun x => [(101, some (.blk g 238 ((cs13U L sd md bs C rf fb (.slice xp.a xn xp.c) (.slice x.2.2.2.2.p.a x.2.2.2.2.n x.2.2.2.2.p.c))))), (110, some (.ry D (some ⟨b, o, none⟩) z)), (1, some (.row w.heap.size 242 1 (.slice xp.a xn xp.c) xn xs)), (2, some (pcK (cvs.map cblk ++ [cblk (x.1, x.2.1)]))), (3, some (ckSyms w.heap.size x.2.2.1)), (4, some (.row w.heap.size 248 1 (.slice x.2.2.2.2.p.a x.2.2.2.2.n x.2.2.2.2.p.c) x.2.2.2.2.n x.2.2.2.2.xs)), (5, some (pcK (fz x.2.2.2.2.y (rcvN y (k + 1)))))]) (fun Kj hKj => ?_) fun x a u hI hE hS => ?_
  ·skip
   refine rg hE hS [pu] (fun _ => kp [(122, .int .u16 (V / 32768))]) kP0 fun _ a u hE hS => wp_block ?_
   refine rg hE hS [pu, pu] (fun _ => kp [(123, .bool (V / 32768 == 0))]) kP0 fun _ a u hE hS => ?_
   by_cases hrun : V < 32768
   ·skip
    have hv0 : V / 32768 = 0 := by omega
    rw [hv0] at hE
    refine ift hE ?_
    refine rg hE hS [pu, pu, nw 93, pu] (fun p23 => kp [(11, pt (p23 2).g 0)]) (fun p23 => kP [(93, some (.blk (p23 2).g 247 #[.nilIface, .int .u16 0, .int .u16 0, .int .u16 0]))]) fun p23 a u hE hS => ?_
    refine rg hE hS [pu, pu, pu] (fun _ => kp [(10, .iface 245 (pt (p23 2).g 0))]) kP0 fun _ a u hE hS => ?_
    refine rgp hE hS [pu, pu, pu, pu, pe (.int .i64 ((20 + 2 * k + 2 : Nat) : Int)), rsl 110 112, cu 186 [112] [93] (fun _ => .nilIface) (fun _ => [some (.blk (p23 2).g 247 #[.nilIface, .int .u16 0, .int .u16 (rd16 ((z.take (20 + 2 * k + 2)).drop (20 + 2 * k)) 0 / 8192 % 4), .int .u16 (rd16 ((z.take (20 + 2 * k + 2)).drop (20 + 2 * k)) 0 % 8192)])]), pu] (fun _ => kp [(12, .nilIface)]) (fun _ => kP [(93, some (.blk (p23 2).g 247 #[.nilIface, .int .u16 0, .int .u16 (rd16 ((z.take (20 + 2 * k + 2)).drop (20 + 2 * k)) 0 / 8192 % 4), .int .u16 (rd16 ((z.take (20 + 2 * k + 2)).drop (20 + 2 * k)) 0 % 8192)]))]) (fun p25 => ⟨kr (ciV (show IntKind.i64.wrap (((20 + 2 * k : Nat) : Int) + (2 : Int)) = ((20 + 2 * k + 2 : Nat) : Int) from by rw [wiV _ (by omega)]; omega)), kr (show (20 + 2 * k) ≤ (20 + 2 * k + 2) ∧ (20 + 2 * k + 2) ≤ z.length ∧ z.length ≤ c by omega), kr (cu_ub (olds := (· = g)) (w0 := w) (D := D) (T := 247) (cs := #[.nilIface, .int .u16 0, .int .u16 0, .int .u16 0]) (A := some ⟨(p25 5).g, (p25 5).c, none⟩) (l := ((z.take (20 + 2 * k + 2)).drop (20 + 2 * k))) (g := (p23 2).g) (f := 186) (cs' := #[.nilIface, .int .u16 0, .int .u16 (rd16 ((z.take (20 + 2 * k + 2)).drop (20 + 2 * k)) 0 / 8192 % 4), .int .u16 (rd16 ((z.take (20 + 2 * k + 2)).drop (20 + 2 * k)) 0 % 8192)]) 112 93 _ ((c - (20 + 2 * k))) rfl fun w4 hb4 hr4 hD4 hz4 => runUm_any (p23 2).g (p25 5).g (p25 5).c ((c - (20 + 2 * k))) _ D w4 hz4 hb4 hr4 hD4 (by omega) hYl), trivial⟩) fun _ a u hE hS => ?_
    have hE := end_env (s := ⟨_, []⟩) (s' := ⟨[(0, pt g 0), (1, sv b o z.length c), (4, .nilIface), (6, .int .i64 (4 * (L + 1) : Nat)), (7, .int .i64 ((20 + 2 * k : Nat) : Int)), (8, .int .u16 pv), (10, .iface 245 (pt (p23 2).g 0)), (11, pt (p23 2).g 0), (12, .nilIface)], []⟩) (fst_snd (by kernel_rfl)) hE
    have hS := end_mem (s := ⟨[], _⟩) (s' := ⟨[], [(101, some (.blk g 238 ((cs13U L sd md bs C rf fb (.slice xp.a xn xp.c) (.slice rp.a rn rp.c))))), (1, some (.row w.heap.size 242 1 (.slice xp.a xn xp.c) xn xs)), (2, some (pcK (cvs.map cblk))), (3, some (ckSyms w.heap.size rows)), (4, some (.row w.heap.size 248 1 (.slice rp.a rn rp.c) rn rs)), (5, some (pcK (fz gs (rcvN y k)))), (110, some (.ry D (some ⟨b, o, none⟩) z)), (93, some (.blk (p23 2).g 247 #[.nilIface, .int .u16 0, .int .u16 (rd16 ((z.take (20 + 2 * k + 2)).drop (20 + 2 * k)) 0 / 8192 % 4), .int .u16 (rd16 ((z.take (20 + 2 * k + 2)).drop (20 + 2 * k)) 0 % 8192)]))]⟩) (fst_snd (by kernel_rfl)) hS
    rw [hY2] at hS
    obtain ⟨hr0, hrle⟩ := hwr hrun
    refine wp_seq ?_
    refine rg hE hS [pu, pu] (fun _ => kp [(138, .bool false)]) kP0 fun _ a u hE hS => iff hE <| wp_skip ?_
    refine dgp hE hS [pu, pu, pu, ld 101, pu, pe (.int .u16 (C - pv)), pu, pu, pu, ld 93, cu 187 [] [] (fun _ => .int .u16 (V % 8192)) (fun _ => []), pu] (fun _ => kp [(13, .int .u16 (V % 8192))]) kP0 (fun _ => ⟨kr (congrArg (Value.int .u16) (show IntKind.u16.wrap (C - pv) = C - pv by rw [IntKind.wrap_u16]; omega)), kr (cu_cpt (olds := (· = g)) (w0 := w) fun w4 => (lmin_any (C - pv) (V % 8192) w4).mono fun e w5 ⟨e1, e2⟩ => ⟨e1.trans (congrArg (fun x => Ending.returned (Value.int .u16 x)) (show min (C - pv) (V % 8192) = (V % 8192) by omega)), e2⟩), trivial⟩) fun _ a u hE hS => ?_
    refine seq_join2 hE hS (fun (x : Lx (List Nat)) => x.n = (rcvN y (k + 1)).length ∧ x.xs = ptrs x.y ∧ x.y.length = (rcvN y (k + 1)).length) (fun x => [(0, .pointer (some ⟨g, 0, none⟩)), (1, .slice (some ⟨b, o, none⟩) z.length c), (4, .nilIface), (6, .int .i64 (4 * (L + 1) : Nat)), (7, .int .i64 ((20 + 2 * k : Nat) : Int)), (8, .int .u16 pv), (10, .iface 245 (.pointer (some ⟨(p23 2).g, 0, none⟩))), (11, .pointer (some ⟨(p23 2).g, 0, none⟩)), (13, .int .u16 (V % 8192))]) (fun x => [(101, some (.blk g 238 ((cs13U L sd md bs C rf fb (.slice xp.a xn xp.c) (.slice x.p.a x.n x.p.c))))), (110, some (.ry D (some ⟨b, o, none⟩) z)), (1, some (.row w.heap.size 242 1 (.slice xp.a xn xp.c) xn xs)), (2, some (pcK (cvs.map cblk))), (3, some (ckSyms w.heap.size rows)), (93, some (.blk (p23 2).g 247 #[.nilIface, .int .u16 0, .int .u16 (V / 8192 % 4), .int .u16 (V % 8192)])), (4, some (.row w.heap.size 248 1 (.slice x.p.a x.n x.p.c) x.n x.xs)), (5, some (pcK (fz x.y (rcvN y (k + 1)))))]) (fun Kr hKr => ?_) fun x a u hI hE hS => ?_
    ·skip
     by_cases hs1 : V / 8192 % 4 = 1
     ·skip
      refine rgp hE hS [pu, pu, pu, ld 93, pe (.bool true), pu, sk, sk, sk, sk, sk, pu] (fun _ => kp [(162, .bool true)]) kP0 (fun _ => ⟨kr (cbV (ebV (show ((V / 8192 % 4) : Int) = 1 by omega))), trivial⟩) fun _ a u hE hS => ift hE ?_
      refine rg hE hS [pu, pu] (fun _ => kn [(163, .int .u16 (V % 8192)), (164, .int .u16 ((0 : Nat) : Int))] [0, 1, 4, 6, 7, 8, 10, 11, 13]) (fun _ => kN [] [101, 1, 2, 3, 4, 5, 110, 93]) fun _ a u hE hS => ?_
      rw [show rcvN y k = rcvN y k ++ List.replicate 0 (V / 8192 % 4) by simp] at hS
      refine wp_block ?_
      refine loop_k hE hS (V % 8192).toNat (fun i v => kd [164] [(164, .int .u16 (i : Nat))]) (fun i v => kN [(101, some (.blk g 238 ((cs13U L sd md bs C rf fb (.slice xp.a xn xp.c) (.slice v.p.a v.n v.p.c))))), (4, some (.row w.heap.size 248 1 (.slice v.p.a v.n v.p.c) v.n v.xs)), (5, some (pcK (fz v.y (rcvN y k ++ List.replicate i (V / 8192 % 4)))))] [110, 1, 2, 3, 93]) (fun i (v : Lx (List Nat)) => v.n = (rcvN y k).length + i ∧ v.xs = ptrs v.y ∧ v.y.length = (rcvN y k).length + i) ⟨rp, rn, rs, gs⟩ (⟨hk7, hk8, hk9⟩) ?_
      intro i v a u hki hIi hE hS Ki hKi
      obtain ⟨hi1, hi2, hi3⟩ := hIi
      obtain ⟨vp, vn, vs, gv⟩ := v
      simp only at hi1 hi2 hi3
      by_cases hlt3 : i < (V % 8192).toNat
      ·skip
       refine rgp hE hS [pe (.bool true)] (fun _ => kp [(165, .bool true)]) kP0 (fun _ => ⟨kr (cbV (dtV (show ((i : Nat) : Int) < (V % 8192) by omega))), trivial⟩) fun _ a u hE hS => ?_
       have hE := end_env (s := ⟨_, []⟩) (s' := ⟨[(0, pt g 0), (1, sv b o z.length c), (4, .nilIface), (6, .int .i64 (4 * (L + 1) : Nat)), (7, .int .i64 ((20 + 2 * k : Nat) : Int)), (8, .int .u16 pv), (10, .iface 245 (pt (p23 2).g 0)), (11, pt (p23 2).g 0), (13, .int .u16 (V % 8192)), (163, .int .u16 (V % 8192)), (164, .int .u16 (i : Nat)), (165, .bool true)], []⟩) (fst_snd (by kernel_rfl)) hE
       have hS := end_mem (s := ⟨[], _⟩) (s' := ⟨[], [(101, some (.blk g 238 ((cs13U L sd md bs C rf fb (.slice xp.a xn xp.c) (.slice vp.a vn vp.c))))), (4, some (.row w.heap.size 248 1 (.slice vp.a vn vp.c) vn vs)), (5, some (pcK (fz gv (rcvN y k ++ List.replicate i (V / 8192 % 4))))), (1, some (.row w.heap.size 242 1 (.slice xp.a xn xp.c) xn xs)), (2, some (pcK (cvs.map cblk))), (3, some (ckSyms w.heap.size rows)), (110, some (.ry D (some ⟨b, o, none⟩) z)), (93, some (.blk (p23 2).g 247 #[.nilIface, .int .u16 0, .int .u16 (V / 8192 % 4), .int .u16 (V % 8192)]))]⟩) (fst_snd (by kernel_rfl)) hS
       refine wp_seq ?_
       refine ift hE <| wp_skip ?_
       refine wp_seq ?_
       refine wp_block ?_
       refine dgE hE hS [pu, pu, pu, pu, ld 101, pu, pu, pu, ld 93, pu, nw 96, nw 97, ap 4 [97], pu, pu, st 101] kp0 (fun p31 => kP [(101, some (.blk g 238 ((cs13U L sd md bs C rf fb (.slice xp.a xn xp.c) (.slice (p31 12).a (vn + 1) (p31 12).c))))), (4, some (.row w.heap.size 248 1 (.slice (p31 12).a (vn + 1) (p31 12).c) (vn + 1) (vs ++ ([pt (p31 10).g 0] : List Value)))), (96, some (.blk (p31 10).g 249 #[.int .u16 (V / 8192 % 4), .int .i64 0]))]) (fun p31 => ⟨kr (show w.heap.size ≤ w.heap.size ∧ (vn + 1) * 8 ≤ 140737488355328 ∧ ∀ u ∈ ([.pointer (some ⟨(p31 10).g, 0, none⟩)] : List Value), u.oneCell' = true from ⟨Nat.le_refl _, by omega, by intro u hu; simp at hu; rw [hu]; rfl⟩), trivial⟩) fun p31 a u hE hS => ?_
       refine rgE hE hS [pe (.int .u16 ((i + 1 : Nat) : Int)), pu] (fun _ => kp [(164, .int .u16 ((i + 1 : Nat) : Int))]) kP0 (fun _ => ⟨kr (congrArg (Value.int .u16) (show IntKind.u16.wrap (((i : Nat) : Int) + 1) = ((i + 1 : Nat) : Int) by rw [IntKind.wrap_u16]; omega)), trivial⟩) fun _ a u hE hS => ?_
       have hS := stp_famadd (l := fz gv (rcvN y k ++ List.replicate i (V / 8192 % 4))) (g := (p31 10).g) (T := 249) (cs := #[.int .u16 (V / 8192 % 4), .int .i64 0]) hS 5 96 (by decide)
       rw [fz_snoc (by rw [List.length_append, List.length_replicate]; exact hi3), List.append_assoc, ← List.replicate_succ'] at hS
       exact hKi ⟨(p31 12), vn + 1, vs ++ ([.pointer (some ⟨(p31 10).g, 0, none⟩)] : List Value), gv ++ [(p31 10).g]⟩ a u _ _ hlt3 ⟨by show vn + 1 = _; omega, by show vs ++ _ = _; rw [hi2]; simp [ptrs], by show (gv ++ [_]).length = _; simp [hi3]; omega⟩ hE hS (by kernel_rfl)
      ·have hNi : (V % 8192).toNat = i := by omega
       refine rgp hE hS [pe (.bool false)] (fun _ => kp [(165, .bool false)]) kP0 (fun _ => ⟨kr (cbV (dfV (show ¬ (((i : Nat) : Int) < (V % 8192)) by omega))), trivial⟩) fun _ a u hE hS => ?_
       refine wp_seq ?_
       refine iff hE ?_
       refine wp_exit ?_
       have hrcA : rcvN y k ++ List.replicate i (V / 8192 % 4) = rcvN y (k + 1) := by rw [hrcn]; unfold symL; rw [if_pos hrun, rcv_rep, if_pos (by omega), hNi]
       have hrcl : (rcvN y (k + 1)).length = (rcvN y k).length + i := by rw [← hrcA, List.length_append, List.length_replicate]
       rw [hrcA] at hS
       exact hKr ⟨vp, vn, vs, gv⟩ a u _ _ ⟨by rw [hrcl]; exact hi1, hi2, by rw [hrcl]; exact hi3⟩ hE hS (by kernel_rfl)
     by_cases hs2 : V / 8192 % 4 = 2
     ·skip
      refine rgp hE hS [pu, pu, pu, ld 93, pe (.bool false), pu, pu, pu, pu, ld 93, pe (.bool true), pu] (fun _ => kp [(162, .bool true)]) kP0 (fun _ => ⟨kr (cbV (nbV (show ((V / 8192 % 4) : Int) ≠ 1 by omega))), kr (cbV (ebV (show ((V / 8192 % 4) : Int) = 2 by omega))), trivial⟩) fun _ a u hE hS => ift hE ?_
      refine rg hE hS [pu, pu] (fun _ => kn [(163, .int .u16 (V % 8192)), (164, .int .u16 ((0 : Nat) : Int))] [0, 1, 4, 6, 7, 8, 10, 11, 13]) (fun _ => kN [] [101, 1, 2, 3, 4, 5, 110, 93]) fun _ a u hE hS => ?_
      have hE := end_env (s := ⟨_, []⟩) (s' := ⟨[(0, pt g 0), (1, sv b o z.length c), (4, .nilIface), (6, .int .i64 (4 * (L + 1) : Nat)), (7, .int .i64 ((20 + 2 * k : Nat) : Int)), (8, .int .u16 pv), (10, .iface 245 (pt (p23 2).g 0)), (11, pt (p23 2).g 0), (13, .int .u16 (V % 8192)), (163, .int .u16 (V % 8192)), (164, .int .u16 ((0 : Nat) : Int))], []⟩) (fst_snd (by kernel_rfl)) hE
      have hS := end_mem (s := ⟨[], _⟩) (s' := ⟨[], [(101, some (.blk g 238 ((cs13U L sd md bs C rf fb (.slice xp.a xn xp.c) (.slice rp.a rn rp.c))))), (1, some (.row w.heap.size 242 1 (.slice xp.a xn xp.c) xn xs)), (2, some (pcK (cvs.map cblk))), (3, some (ckSyms w.heap.size rows)), (4, some (.row w.heap.size 248 1 (.slice rp.a rn rp.c) rn rs)), (5, some (pcK (fz gs (rcvN y k)))), (110, some (.ry D (some ⟨b, o, none⟩) z)), (93, some (.blk (p23 2).g 247 #[.nilIface, .int .u16 0, .int .u16 (V / 8192 % 4), .int .u16 (V % 8192)]))]⟩) (fst_snd (by kernel_rfl)) hS
      rw [show rcvN y k = rcvN y k ++ List.replicate 0 (V / 8192 % 4) by simp] at hS
      refine wp_block ?_
      refine loop_k hE hS (V % 8192).toNat (fun i v => kd [164] [(164, .int .u16 (i : Nat))]) (fun i v => kN [(101, some (.blk g 238 ((cs13U L sd md bs C rf fb (.slice xp.a xn xp.c) (.slice v.p.a v.n v.p.c))))), (4, some (.row w.heap.size 248 1 (.slice v.p.a v.n v.p.c) v.n v.xs)), (5, some (pcK (fz v.y (rcvN y k ++ List.replicate i (V / 8192 % 4)))))] [110, 1, 2, 3, 93]) (fun i (v : Lx (List Nat)) => v.n = (rcvN y k).length + i ∧ v.xs = ptrs v.y ∧ v.y.length = (rcvN y k).length + i) ⟨rp, rn, rs, gs⟩ (⟨hk7, hk8, hk9⟩) ?_
      intro i v a u hki hIi hE hS Ki hKi
      obtain ⟨hi1, hi2, hi3⟩ := hIi
      obtain ⟨vp, vn, vs, gv⟩ := v
      simp only at hi1 hi2 hi3
      by_cases hlt3 : i < (V % 8192).toNat
      ·skip
       refine rgp hE hS [pe (.bool true)] (fun _ => kp [(165, .bool true)]) kP0 (fun _ => ⟨kr (cbV (dtV (show ((i : Nat) : Int) < (V % 8192) by omega))), trivial⟩) fun _ a u hE hS => ?_
       refine wp_seq ?_
       refine ift hE <| wp_skip ?_
       refine wp_seq ?_
       refine wp_block ?_
       refine dgE hE hS [pu, pu, pu, pu, ld 101, pu, pu, pu, ld 93, pu, nw 96, nw 97, ap 4 [97], pu, pu, st 101] kp0 (fun p37 => kP [(101, some (.blk g 238 ((cs13U L sd md bs C rf fb (.slice xp.a xn xp.c) (.slice (p37 12).a (vn + 1) (p37 12).c))))), (4, some (.row w.heap.size 248 1 (.slice (p37 12).a (vn + 1) (p37 12).c) (vn + 1) (vs ++ ([pt (p37 10).g 0] : List Value)))), (96, some (.blk (p37 10).g 249 #[.int .u16 (V / 8192 % 4), .int .i64 0]))]) (fun p37 => ⟨kr (show w.heap.size ≤ w.heap.size ∧ (vn + 1) * 8 ≤ 140737488355328 ∧ ∀ u ∈ ([.pointer (some ⟨(p37 10).g, 0, none⟩)] : List Value), u.oneCell' = true from ⟨Nat.le_refl _, by omega, by intro u hu; simp at hu; rw [hu]; rfl⟩), trivial⟩) fun p37 a u hE hS => ?_
       refine rgE hE hS [pe (.int .u16 ((i + 1 : Nat) : Int)), pu] (fun _ => kp [(164, .int .u16 ((i + 1 : Nat) : Int))]) kP0 (fun _ => ⟨kr (congrArg (Value.int .u16) (show IntKind.u16.wrap (((i : Nat) : Int) + 1) = ((i + 1 : Nat) : Int) by rw [IntKind.wrap_u16]; omega)), trivial⟩) fun _ a u hE hS => ?_
       have hS := stp_famadd (l := fz gv (rcvN y k ++ List.replicate i (V / 8192 % 4))) (g := (p37 10).g) (T := 249) (cs := #[.int .u16 (V / 8192 % 4), .int .i64 0]) hS 5 96 (by decide)
       rw [fz_snoc (by rw [List.length_append, List.length_replicate]; exact hi3), List.append_assoc, ← List.replicate_succ'] at hS
       exact hKi ⟨(p37 12), vn + 1, vs ++ ([.pointer (some ⟨(p37 10).g, 0, none⟩)] : List Value), gv ++ [(p37 10).g]⟩ a u _ _ hlt3 ⟨by show vn + 1 = _; omega, by show vs ++ _ = _; rw [hi2]; simp [ptrs], by show (gv ++ [_]).length = _; simp [hi3]; omega⟩ hE hS (by kernel_rfl)
      ·have hNi : (V % 8192).toNat = i := by omega
       refine rgp hE hS [pe (.bool false)] (fun _ => kp [(165, .bool false)]) kP0 (fun _ => ⟨kr (cbV (dfV (show ¬ (((i : Nat) : Int) < (V % 8192)) by omega))), trivial⟩) fun _ a u hE hS => ?_
       refine wp_seq ?_
       refine iff hE ?_
       refine wp_exit ?_
       have hrcA : rcvN y k ++ List.replicate i (V / 8192 % 4) = rcvN y (k + 1) := by rw [hrcn]; unfold symL; rw [if_pos hrun, rcv_rep, if_pos (by omega), hNi]
       have hrcl : (rcvN y (k + 1)).length = (rcvN y k).length + i := by rw [← hrcA, List.length_append, List.length_replicate]
       rw [hrcA] at hS
       exact hKr ⟨vp, vn, vs, gv⟩ a u _ _ ⟨by rw [hrcl]; exact hi1, hi2, by rw [hrcl]; exact hi3⟩ hE hS (by kernel_rfl)
     refine rgp hE hS [pu, pu, pu, ld 93, pe (.bool false), pu, pu, pu, pu, ld 93, pe (.bool false), pu] (fun _ => kp [(162, .bool false)]) kP0 (fun _ => ⟨kr (cbV (nbV (show ((V / 8192 % 4) : Int) ≠ 1 by omega))), kr (cbV (nbV (show ((V / 8192 % 4) : Int) ≠ 2 by omega))), trivial⟩) fun _ a u hE hS => ?_
     have hE := end_env (s := ⟨_, []⟩) (s' := ⟨[(0, pt g 0), (1, sv b o z.length c), (4, .nilIface), (6, .int .i64 (4 * (L + 1) : Nat)), (7, .int .i64 ((20 + 2 * k : Nat) : Int)), (8, .int .u16 pv), (10, .iface 245 (pt (p23 2).g 0)), (11, pt (p23 2).g 0), (13, .int .u16 (V % 8192)), (162, .bool false)], []⟩) (fst_snd (by kernel_rfl)) hE
     have hS := end_mem (s := ⟨[], _⟩) (s' := ⟨[], [(101, some (.blk g 238 ((cs13U L sd md bs C rf fb (.slice xp.a xn xp.c) (.slice rp.a rn rp.c))))), (1, some (.row w.heap.size 242 1 (.slice xp.a xn xp.c) xn xs)), (2, some (pcK (cvs.map cblk))), (3, some (ckSyms w.heap.size rows)), (4, some (.row w.heap.size 248 1 (.slice rp.a rn rp.c) rn rs)), (5, some (pcK (fz gs (rcvN y k)))), (110, some (.ry D (some ⟨b, o, none⟩) z)), (93, some (.blk (p23 2).g 247 #[.nilIface, .int .u16 0, .int .u16 (V / 8192 % 4), .int .u16 (V % 8192)]))]⟩) (fst_snd (by kernel_rfl)) hS
     refine iff hE <| wp_skip ?_
     have hrcA : rcvN y (k + 1) = rcvN y k := by rw [hrcn]; unfold symL; rw [if_pos hrun, rcv_rep, if_neg (by omega), List.append_nil]
     rw [← hrcA] at hS
     exact hKr ⟨rp, rn, rs, gs⟩ a u _ _ ⟨by rw [hrcA]; exact hk7, hk8, by rw [hrcA]; exact hk9⟩ hE hS (by kernel_rfl)
    ·skip
     obtain ⟨rp2, rn2, rs2, gs2⟩ := x
     simp only at hI
     obtain ⟨hj5, hj6, hj7⟩ := hI
     refine rgE hE hS [pu, pu, pe (.int .u16 (pv + V % 8192)), pu] (fun _ => kp [(8, .int .u16 (pv + V % 8192))]) kP0 (fun _ => ⟨kr (congrArg (Value.int .u16) (show IntKind.u16.wrap (pv + V % 8192) = pv + V % 8192 by rw [IntKind.wrap_u16]; omega)), trivial⟩) fun _ a u hE hS => ?_
     have hS := stp_famadd (l := cvs.map cblk) (g := (p23 2).g) (T := 247) (cs := #[.nilIface, .int .u16 0, .int .u16 (V / 8192 % 4), .int .u16 (V % 8192)]) hS 2 93 (by decide)
     have hsll : (symL V).length = (V % 8192).toNat := by rw [symL_len, if_pos hrun]
     exact hKj ((p23 2).g, ⟨false, V / 8192 % 4, 0, V % 8192, ⟨none, 0, []⟩⟩, rows, pv + V % 8192, ⟨rp2, rn2, rs2, gs2⟩) a u _ _ ⟨by unfold staC; rw [if_pos hrun]; rfl, .inl rfl, fun s hs => hs, by show pv + V % 8192 = _; unfold pr; rw [htn]; split <;> omega, hj5, hj6, hj7⟩ hE hS (by kernel_rfl)
   have hv0 : V / 32768 = 1 := by omega
   rw [hv0] at hE
   refine iff hE ?_
   refine rg hE hS [pu, pu] (fun _ => kp [(185, .bool true)]) kP0 fun _ a u hE hS => ift hE ?_
   refine rg hE hS [pu, pu, nw 93, pu] (fun p43 => kp [(14, pt (p43 2).g 0)]) (fun p43 => kP [(93, some (.blk (p43 2).g 244 #[.nilIface, .int .u16 1, .int .u16 0, .slice none 0 0]))]) fun p43 a u hE hS => ?_
   refine rg hE hS [pu, pu, pu] (fun _ => kp [(10, .iface 239 (pt (p43 2).g 0))]) kP0 fun _ a u hE hS => ?_
   refine rgp hE hS [pu, pu, pu, pu, pe (.int .i64 ((20 + 2 * k + 2 : Nat) : Int)), rsl 110 112, cu 188 [112] [93, 94] (fun _ => .nilIface) (fun x => [some (.blk (p43 2).g 244 #[.nilIface, .int .u16 1, .int .u16 (rd16 ((z.take (20 + 2 * k + 2)).drop (20 + 2 * k)) 0 / 16384 % 2), .slice x.a ((symL (rd16 ((z.take (20 + 2 * k + 2)).drop (20 + 2 * k)) 0)).length : Nat) x.c]), some (.row w.heap.size 32 1 (.slice x.a ((symL (rd16 ((z.take (20 + 2 * k + 2)).drop (20 + 2 * k)) 0)).length : Nat) x.c) (symL (rd16 ((z.take (20 + 2 * k + 2)).drop (20 + 2 * k)) 0)).length ((symL (rd16 ((z.take (20 + 2 * k + 2)).drop (20 + 2 * k)) 0)).flatMap u16c))]), pu] (fun _ => kp [(15, .nilIface)]) (fun p45 => kP [(93, some (.blk (p43 2).g 244 #[.nilIface, .int .u16 1, .int .u16 (rd16 ((z.take (20 + 2 * k + 2)).drop (20 + 2 * k)) 0 / 16384 % 2), .slice (p45 6).a ((symL (rd16 ((z.take (20 + 2 * k + 2)).drop (20 + 2 * k)) 0)).length : Nat) (p45 6).c])), (94, some (.row w.heap.size 32 1 (.slice (p45 6).a ((symL (rd16 ((z.take (20 + 2 * k + 2)).drop (20 + 2 * k)) 0)).length : Nat) (p45 6).c) ((symL (rd16 ((z.take (20 + 2 * k + 2)).drop (20 + 2 * k)) 0)).length) ((symL (rd16 ((z.take (20 + 2 * k + 2)).drop (20 + 2 * k)) 0)).flatMap u16c)))]) (fun p45 => ⟨kr (ciV (show IntKind.i64.wrap (((20 + 2 * k : Nat) : Int) + (2 : Int)) = ((20 + 2 * k + 2 : Nat) : Int) from by rw [wiV _ (by omega)]; omega)), kr (show (20 + 2 * k) ≤ (20 + 2 * k + 2) ∧ (20 + 2 * k + 2) ≤ z.length ∧ z.length ≤ c by omega), kr (cu_ubr (olds := (· = g)) (w0 := w) (D := D) (T := 244) (cs := #[.nilIface, .int .u16 1, .int .u16 0, .slice none 0 0]) (A := some ⟨(p45 5).g, (p45 5).c, none⟩) (l := ((z.take (20 + 2 * k + 2)).drop (20 + 2 * k))) (g := (p43 2).g) (f := 188) (cs' := fun A c => #[.nilIface, .int .u16 1, .int .u16 (rd16 ((z.take (20 + 2 * k + 2)).drop (20 + 2 * k)) 0 / 16384 % 2), .slice A ((symL (rd16 ((z.take (20 + 2 * k + 2)).drop (20 + 2 * k)) 0)).length : Nat) c]) 32 1 _ _ 112 93 94 _ ((c - (20 + 2 * k))) (u := none) (by decide) rfl fun w4 hb4 hr4 hD4 hz4 => vecUm_any (p43 2).g (p45 5).g (p45 5).c ((c - (20 + 2 * k))) _ D w4 hz4 hb4 hr4 hD4 (by omega) hYl (by rw [hY2]; exact hrun)), trivial⟩) fun p45 a u hE hS => ?_
   have hE := end_env (s := ⟨_, []⟩) (s' := ⟨[(0, pt g 0), (1, sv b o z.length c), (4, .nilIface), (6, .int .i64 (4 * (L + 1) : Nat)), (7, .int .i64 ((20 + 2 * k : Nat) : Int)), (8, .int .u16 pv), (10, .iface 239 (pt (p43 2).g 0)), (14, pt (p43 2).g 0), (15, .nilIface)], []⟩) (fst_snd (by kernel_rfl)) hE
   have hS := end_mem (s := ⟨[], _⟩) (s' := ⟨[], [(101, some (.blk g 238 ((cs13U L sd md bs C rf fb (.slice xp.a xn xp.c) (.slice rp.a rn rp.c))))), (1, some (.row w.heap.size 242 1 (.slice xp.a xn xp.c) xn xs)), (2, some (pcK (cvs.map cblk))), (3, some (ckSyms w.heap.size rows)), (4, some (.row w.heap.size 248 1 (.slice rp.a rn rp.c) rn rs)), (5, some (pcK (fz gs (rcvN y k)))), (110, some (.ry D (some ⟨b, o, none⟩) z)), (93, some (.blk (p43 2).g 244 #[.nilIface, .int .u16 1, .int .u16 (rd16 ((z.take (20 + 2 * k + 2)).drop (20 + 2 * k)) 0 / 16384 % 2), .slice (p45 6).a ((symL (rd16 ((z.take (20 + 2 * k + 2)).drop (20 + 2 * k)) 0)).length : Nat) (p45 6).c])), (94, some (.row w.heap.size 32 1 (.slice (p45 6).a ((symL (rd16 ((z.take (20 + 2 * k + 2)).drop (20 + 2 * k)) 0)).length : Nat) (p45 6).c) ((symL (rd16 ((z.take (20 + 2 * k + 2)).drop (20 + 2 * k)) 0)).length) ((symL (rd16 ((z.take (20 + 2 * k + 2)).drop (20 + 2 * k)) 0)).flatMap u16c)))]⟩) (fst_snd (by kernel_rfl)) hS
   rw [hY2] at hS
   obtain ⟨M, hM⟩ : ∃ M : Nat, M = min lf.toNat (symL V).length := ⟨_, rfl⟩
   have hvl : (symL V).length = 14 ∨ (symL V).length = 7 := by rw [symL_len, if_neg hrun]; exact vecM_or V
   have hrcM : rcv ((symL V).take M) = rcv (symL V) := rcv_cut hw (by omega)
   refine wp_seq ?_
   refine rg hE hS [pu, pu] (fun _ => kp [(200, .bool false)]) kP0 fun _ a u hE hS => iff hE <| wp_skip ?_
   refine dgp hE hS [pu, pu, pu, ld 101, pu, pe (.int .u16 (C - pv)), pe (.int .i64 (C - pv)), pu, pu, pu, ld 93, pu, pf (.int .i64 ((M : Nat) : Int)), pu] (fun _ => kp [(16, .int .i64 ((M : Nat) : Int))]) kP0 (fun _ => ⟨kr (congrArg (Value.int .u16) (show IntKind.u16.wrap (C - pv) = C - pv by rw [IntKind.wrap_u16]; omega)), kr (ciV (wiV (C - pv) (by omega))), kr (min_g (P := Tryz.prog) (ts := #[3, 3]) (t := 3) (C - pv) (((symL V).length : Nat) : Int) ((M : Nat) : Int) (by split <;> omega)), trivial⟩) fun _ a u hE hS => ?_
   refine wp_seq ?_
   by_cases hs1 : V / 16384 % 2 = 0
   ·skip
    refine rgp hE hS [pu, pu, pu, ld 93, pe (.bool true)] (fun _ => kp [(219, .bool true)]) kP0 (fun _ => ⟨kr (cbV (ebV (show (V / 16384 % 2 : Int) = 0 by omega))), trivial⟩) fun _ a u hE hS => ift hE ?_
    refine rg hE hS [pu, pu] (fun _ => kn [(220, .int .i64 ((M : Nat) : Int)), (221, .int .i64 0)] [0, 1, 4, 6, 7, 8, 10, 14, 16]) (fun _ => kN [] [101, 1, 2, 3, 4, 5, 110, 93, 94]) fun _ a u hE hS => ?_
    rw [show rcvN y k = rcvN y k ++ rcv ((symL V).take 0) by simp [rcv]] at hS
    refine range_up hE hS 221 M (fun _ _ => kd [221, 222, 243] []) (fun j v => kP [(101, some (.blk g 238 ((cs13U L sd md bs C rf fb (.slice xp.a xn xp.c) (.slice v.p.a v.n v.p.c))))), (4, some (.row w.heap.size 248 1 (.slice v.p.a v.n v.p.c) v.n v.xs)), (5, some (pcK (fz v.y (rcvN y k ++ rcv ((symL V).take j)))))]) (fun j (v : Lx (List Nat)) => v.n = (rcvN y k ++ rcv ((symL V).take j)).length ∧ v.xs = ptrs v.y ∧ v.y.length = (rcvN y k ++ rcv ((symL V).take j)).length) ⟨rp, rn, rs, gs⟩ (by omega) (⟨by simp [rcv]; exact hk7, hk8, by simp [rcv]; exact hk9⟩) (fun j v a u hjM hI hE hS K5 hK5 RK5 hRK5 => ?_) fun ⟨vq, vn, vs, gv⟩ a u hI hE hS => ?_
    ·obtain ⟨hj1, hj2, hj3⟩ := hI
     obtain ⟨vp, vn, vs, gv⟩ := v
     simp only at hj1 hj2 hj3
     obtain ⟨s, hs⟩ : ∃ s, (symL V)[j]? = some s := ⟨_, List.getElem?_eq_getElem (by omega)⟩
     have hrt := rcv_take hs
     have hrj : (rcv ((symL V).take j)).length ≤ j := Nat.le_trans (rcv_le _) (by simp; omega)
     have hvn := hj1
     rw [List.length_append] at hvn
     have hv1 := vec_one hrun hs1 hs
     refine rg hE hS [pu, pu] (fun _ => kp [(17, .int .i64 (j : Nat))]) kP0 fun _ a u hE hS => ?_
     have hE := end_env (s := ⟨_, []⟩) (s' := ⟨[(0, pt g 0), (1, sv b o z.length c), (4, .nilIface), (6, .int .i64 (4 * (L + 1) : Nat)), (7, .int .i64 ((20 + 2 * k : Nat) : Int)), (8, .int .u16 pv), (10, .iface 239 (pt (p43 2).g 0)), (14, pt (p43 2).g 0), (16, .int .i64 ((M : Nat) : Int)), (220, .int .i64 ((M : Nat) : Int)), (221, .int .i64 (j : Nat)), (17, .int .i64 (j : Nat))], []⟩) (fst_snd (by kernel_rfl)) hE
     have hS := end_mem (s := ⟨[], _⟩) (s' := ⟨[], [(101, some (.blk g 238 ((cs13U L sd md bs C rf fb (.slice xp.a xn xp.c) (.slice vp.a vn vp.c))))), (1, some (.row w.heap.size 242 1 (.slice xp.a xn xp.c) xn xs)), (2, some (pcK (cvs.map cblk))), (3, some (ckSyms w.heap.size rows)), (4, some (.row w.heap.size 248 1 (.slice vp.a vn vp.c) vn vs)), (5, some (pcK (fz gv (rcvN y k ++ rcv ((symL V).take j))))), (110, some (.ry D (some ⟨b, o, none⟩) z)), (93, some (.blk (p43 2).g 244 #[.nilIface, .int .u16 1, .int .u16 (V / 16384 % 2), .slice (p45 6).a ((symL V).length : Nat) (p45 6).c])), (94, some (.row w.heap.size 32 1 (.slice (p45 6).a ((symL V).length : Nat) (p45 6).c) (symL V).length ((symL V).flatMap u16c)))]⟩) (fst_snd (by kernel_rfl)) hS
     by_cases hsa : s = 1
     ·skip
      refine rgp hE hS [pu, pu, pu, ld 93, pu, ir 94, lr 94 j (.int .u16 s), pe (.bool true)] (fun _ => kp [(231, .bool true)]) kP0 (fun _ => ⟨kr (show j < (symL V).length by omega), kr (show ((symL V).flatMap u16c)[j]? = some (.int .u16 s) ∧ 0 < (symL V).length from ⟨u16c_at hs, by omega⟩), kr (cbV (ebV (show (s : Int) = 1 by omega))), trivial⟩) fun _ a u hE hS => ift hE ?_
      subst hsa
      refine rgE hE hS [pu, pu, pu, pu, ld 101, pu, nw 96, nw 97, ap 4 [97], pu, pu, st 101] kp0 (fun p52 => kP [(101, some (.blk g 238 ((cs13U L sd md bs C rf fb (.slice xp.a xn xp.c) (.slice (p52 8).a (vn + 1) (p52 8).c))))), (4, some (.row w.heap.size 248 1 (.slice (p52 8).a (vn + 1) (p52 8).c) (vn + 1) (vs ++ ([pt (p52 6).g 0] : List Value)))), (96, some (.blk (p52 6).g 249 #[.int .u16 1, .int .i64 0]))]) (fun p52 => ⟨kr (show w.heap.size ≤ w.heap.size ∧ (vn + 1) * 8 ≤ 140737488355328 ∧ ∀ u ∈ ([.pointer (some ⟨(p52 6).g, 0, none⟩)] : List Value), u.oneCell' = true from ⟨Nat.le_refl _, by omega, by intro u hu; simp at hu; rw [hu]; rfl⟩), trivial⟩) fun p52 a u hE hS => ?_
      have hry : rcv [1] = [1] := rcv_yes (by omega)
      have hS := stp_famadd (l := fz gv (rcvN y k ++ rcv ((symL V).take j))) (g := (p52 6).g) (T := 249) (cs := #[.int .u16 1, .int .i64 0]) hS 5 96 (by decide)
      rw [fz_snoc hj3, List.append_assoc, ← hry, ← hrt] at hS
      exact hK5 ⟨(p52 8), vn + 1, vs ++ ([.pointer (some ⟨(p52 6).g, 0, none⟩)] : List Value), gv ++ [(p52 6).g]⟩ a u _ _ ⟨by show vn + 1 = _; rw [hrt, hry, ← List.append_assoc, List.length_append, ← hj1]; rfl, by show vs ++ _ = _; rw [hj2]; simp [ptrs], by show (gv ++ [_]).length = _; rw [hrt, hry, ← List.append_assoc, List.length_append, List.length_append, hj3]; rfl⟩ hE hS (by kernel_rfl)
     refine rgp hE hS [pu, pu, pu, ld 93, pu, ir 94, lr 94 j (.int .u16 s), pe (.bool false)] (fun _ => kp [(231, .bool false)]) kP0 (fun _ => ⟨kr (show j < (symL V).length by omega), kr (show ((symL V).flatMap u16c)[j]? = some (.int .u16 s) ∧ 0 < (symL V).length from ⟨u16c_at hs, by omega⟩), kr (cbV (nbV (show (s : Int) ≠ 1 by omega))), trivial⟩) fun _ a u hE hS => iff hE <| wp_skip ?_
     have hrx : rcv ((symL V).take (j + 1)) = rcv ((symL V).take j) := by rw [hrt, rcv_no hsa (by omega), List.append_nil]
     rw [← hrx] at hS
     exact hK5 ⟨vp, vn, vs, gv⟩ a u _ _ ⟨by rw [hrx]; exact hj1, hj2, by rw [hrx]; exact hj3⟩ hE hS (by kernel_rfl)
    simp only at hI
    obtain ⟨hm1, hm2, hm3⟩ := hI
    rw [hrcM, ← hrcn] at hm1 hm3 hS
    refine wp_seq ?_
    refine rgp hE hS [pu, pu, pu, ld 93, pe (.bool false)] (fun _ => kp [(248, .bool false)]) kP0 (fun _ => ⟨kr (cbV (nbV (show (V / 16384 % 2 : Int) ≠ 1 by omega))), trivial⟩) fun _ a u hE hS => iff hE <| wp_skip ?_
    refine rgE hE hS [pu, pu, pe (.int .u16 ((M : Nat) : Int)), pe (.int .u16 (pv + ((M : Nat) : Int))), pu] (fun _ => kp [(8, .int .u16 (pv + ((M : Nat) : Int)))]) kP0 (fun _ => ⟨kr (congrArg (Value.int .u16) (show IntKind.u16.wrap ((M : Nat) : Int) = ((M : Nat) : Int) by rw [IntKind.wrap_u16]; omega)), kr (congrArg (Value.int .u16) (show IntKind.u16.wrap (pv + ((M : Nat) : Int)) = pv + ((M : Nat) : Int) by rw [IntKind.wrap_u16]; omega)), trivial⟩) fun _ a u hE hS => ?_
    have hS := stp_famadd (l := cvs.map cblk) (g := (p43 2).g) (T := 244) (cs := #[.nilIface, .int .u16 1, .int .u16 (V / 16384 % 2), .slice (p45 6).a ((symL V).length : Nat) (p45 6).c]) hS 2 93 (by decide)
    have hS := stp_syms (B := w.heap.size) (l := rows) hS 3 94 (⟨(p45 6).a, (p45 6).c, symL V⟩ : Sl Int) (by decide)
    exact hKj ((p43 2).g, ⟨true, 0, V / 16384 % 2, 0, ⟨(p45 6).a, (p45 6).c, symL V⟩⟩, rows ++ [⟨(p45 6).a, (p45 6).c, symL V⟩], pv + ((M : Nat) : Int), ⟨vq, vn, vs, gv⟩) a u _ _ ⟨by unfold staC; rw [if_neg hrun]; rfl, .inr (List.mem_append_right _ (List.mem_singleton.2 rfl)), fun s hs => List.mem_append_left _ hs, by show pv + ((M : Nat) : Int) = _; unfold pr; rw [htn]; split <;> omega, hm1, hm2, hm3⟩ hE hS (by kernel_rfl)
   refine rgp hE hS [pu, pu, pu, ld 93, pe (.bool false)] (fun _ => kp [(219, .bool false)]) kP0 (fun _ => ⟨kr (cbV (nbV (show (V / 16384 % 2 : Int) ≠ 0 by omega))), trivial⟩) fun _ a u hE hS => ?_
   have hE := end_env (s := ⟨_, []⟩) (s' := ⟨[(0, pt g 0), (1, sv b o z.length c), (4, .nilIface), (6, .int .i64 (4 * (L + 1) : Nat)), (7, .int .i64 ((20 + 2 * k : Nat) : Int)), (8, .int .u16 pv), (10, .iface 239 (pt (p43 2).g 0)), (14, pt (p43 2).g 0), (16, .int .i64 ((M : Nat) : Int)), (219, .bool false)], []⟩) (fst_snd (by kernel_rfl)) hE
   have hS := end_mem (s := ⟨[], _⟩) (s' := ⟨[], [(101, some (.blk g 238 ((cs13U L sd md bs C rf fb (.slice xp.a xn xp.c) (.slice rp.a rn rp.c))))), (1, some (.row w.heap.size 242 1 (.slice xp.a xn xp.c) xn xs)), (2, some (pcK (cvs.map cblk))), (3, some (ckSyms w.heap.size rows)), (4, some (.row w.heap.size 248 1 (.slice rp.a rn rp.c) rn rs)), (5, some (pcK (fz gs (rcvN y k)))), (110, some (.ry D (some ⟨b, o, none⟩) z)), (93, some (.blk (p43 2).g 244 #[.nilIface, .int .u16 1, .int .u16 (V / 16384 % 2), .slice (p45 6).a ((symL V).length : Nat) (p45 6).c])), (94, some (.row w.heap.size 32 1 (.slice (p45 6).a ((symL V).length : Nat) (p45 6).c) (symL V).length ((symL V).flatMap u16c)))]⟩) (fst_snd (by kernel_rfl)) hS
   refine iff hE <| wp_skip ?_
   refine wp_seq ?_
   refine rgp hE hS [pu, pu, pu, ld 93, pe (.bool true)] (fun _ => kp [(248, .bool true)]) kP0 (fun _ => ⟨kr (cbV (ebV (show (V / 16384 % 2 : Int) = 1 by omega))), trivial⟩) fun _ a u hE hS => ift hE ?_
   refine rg hE hS [pu, pu] (fun _ => kn [(249, .int .i64 ((M : Nat) : Int)), (250, .int .i64 0)] [0, 1, 4, 6, 7, 8, 10, 14, 16]) (fun _ => kN [] [101, 1, 2, 3, 4, 5, 110, 93, 94]) fun _ a u hE hS => ?_
   rw [show rcvN y k = rcvN y k ++ rcv ((symL V).take 0) by simp [rcv]] at hS
   refine range_up hE hS 250 M (fun _ _ => kd [250, 251, 289] []) (fun j v => kP [(101, some (.blk g 238 ((cs13U L sd md bs C rf fb (.slice xp.a xn xp.c) (.slice v.p.a v.n v.p.c))))), (4, some (.row w.heap.size 248 1 (.slice v.p.a v.n v.p.c) v.n v.xs)), (5, some (pcK (fz v.y (rcvN y k ++ rcv ((symL V).take j)))))]) (fun j (v : Lx (List Nat)) => v.n = (rcvN y k ++ rcv ((symL V).take j)).length ∧ v.xs = ptrs v.y ∧ v.y.length = (rcvN y k ++ rcv ((symL V).take j)).length) ⟨rp, rn, rs, gs⟩ (by omega) (⟨by simp [rcv]; exact hk7, hk8, by simp [rcv]; exact hk9⟩) (fun j v a u hjM hI hE hS K5 hK5 RK5 hRK5 => ?_) fun ⟨vq, vn, vs, gv⟩ a u hI hE hS => ?_
   ·obtain ⟨hj1, hj2, hj3⟩ := hI
    obtain ⟨vp, vn, vs, gv⟩ := v
    simp only at hj1 hj2 hj3
    obtain ⟨s, hs⟩ : ∃ s, (symL V)[j]? = some s := ⟨_, List.getElem?_eq_getElem (by omega)⟩
    have hrt := rcv_take hs
    have hrj : (rcv ((symL V).take j)).length ≤ j := Nat.le_trans (rcv_le _) (by simp; omega)
    have hvn := hj1
    rw [List.length_append] at hvn
    refine rg hE hS [pu, pu] (fun _ => kp [(18, .int .i64 (j : Nat))]) kP0 fun _ a u hE hS => ?_
    by_cases hsa : s = 1
    ·skip
     refine rgp hE hS [pu, pu, pu, ld 93, pu, ir 94, lr 94 j (.int .u16 s), pe (.bool true), pu, sk, sk, sk, sk, sk, sk, sk, sk, pu] (fun _ => kp [(270, .bool true)]) kP0 (fun _ => ⟨kr (show j < (symL V).length by omega), kr (show ((symL V).flatMap u16c)[j]? = some (.int .u16 s) ∧ 0 < (symL V).length from ⟨u16c_at hs, by omega⟩), kr (cbV (ebV (show (s : Int) = 1 by omega))), trivial⟩) fun _ a u hE hS => ift hE ?_
     refine dgE hE hS [pu, pu, pu, pu, ld 101, pu, pu, pu, ld 93, pu, ir 94, lr 94 j (.int .u16 s), pu, nw 96, nw 97, ap 4 [97], pu, pu, st 101] kp0 (fun p61 => kP [(101, some (.blk g 238 ((cs13U L sd md bs C rf fb (.slice xp.a xn xp.c) (.slice (p61 15).a (vn + 1) (p61 15).c))))), (4, some (.row w.heap.size 248 1 (.slice (p61 15).a (vn + 1) (p61 15).c) (vn + 1) (vs ++ ([pt (p61 13).g 0] : List Value)))), (96, some (.blk (p61 13).g 249 #[.int .u16 s, .int .i64 0]))]) (fun p61 => ⟨kr (show j < (symL V).length by omega), kr (show ((symL V).flatMap u16c)[j]? = some (.int .u16 s) ∧ 0 < (symL V).length from ⟨u16c_at hs, by omega⟩), kr (show w.heap.size ≤ w.heap.size ∧ (vn + 1) * 8 ≤ 140737488355328 ∧ ∀ u ∈ ([.pointer (some ⟨(p61 13).g, 0, none⟩)] : List Value), u.oneCell' = true from ⟨Nat.le_refl _, by omega, by intro u hu; simp at hu; rw [hu]; rfl⟩), trivial⟩) fun p61 a u hE hS => ?_
     have hry : rcv [s] = [s] := rcv_yes (by omega)
     have hS := stp_famadd (l := fz gv (rcvN y k ++ rcv ((symL V).take j))) (g := (p61 13).g) (T := 249) (cs := #[.int .u16 s, .int .i64 0]) hS 5 96 (by decide)
     rw [fz_snoc hj3, List.append_assoc, ← hry, ← hrt] at hS
     exact hK5 ⟨(p61 15), vn + 1, vs ++ ([.pointer (some ⟨(p61 13).g, 0, none⟩)] : List Value), gv ++ [(p61 13).g]⟩ a u _ _ ⟨by show vn + 1 = _; rw [hrt, hry, ← List.append_assoc, List.length_append, ← hj1]; rfl, by show vs ++ _ = _; rw [hj2]; simp [ptrs], by show (gv ++ [_]).length = _; rw [hrt, hry, ← List.append_assoc, List.length_append, List.length_append, hj3]; rfl⟩ hE hS (by kernel_rfl)
    by_cases hsb : s = 2
    ·skip
     refine rgp hE hS [pu, pu, pu, ld 93, pu, ir 94, lr 94 j (.int .u16 s), pe (.bool false), pu, pu, pu, pu, ld 93, pu, ir 94, lr 94 j (.int .u16 s), pe (.bool true), pu] (fun _ => kp [(270, .bool true)]) kP0 (fun _ => ⟨kr (show j < (symL V).length by omega), kr (show ((symL V).flatMap u16c)[j]? = some (.int .u16 s) ∧ 0 < (symL V).length from ⟨u16c_at hs, by omega⟩), kr (cbV (nbV (show (s : Int) ≠ 1 by omega))), kr (show j < (symL V).length by omega), kr (show ((symL V).flatMap u16c)[j]? = some (.int .u16 s) ∧ 0 < (symL V).length from ⟨u16c_at hs, by omega⟩), kr (cbV (ebV (show (s : Int) = 2 by omega))), trivial⟩) fun _ a u hE hS => ?_
     have hE := end_env (s := ⟨_, []⟩) (s' := ⟨[(0, pt g 0), (1, sv b o z.length c), (4, .nilIface), (6, .int .i64 (4 * (L + 1) : Nat)), (7, .int .i64 ((20 + 2 * k : Nat) : Int)), (8, .int .u16 pv), (10, .iface 239 (pt (p43 2).g 0)), (14, pt (p43 2).g 0), (16, .int .i64 ((M : Nat) : Int)), (249, .int .i64 ((M : Nat) : Int)), (250, .int .i64 (j : Nat)), (18, .int .i64 (j : Nat)), (270, .bool true)], []⟩) (fst_snd (by kernel_rfl)) hE
     have hS := end_mem (s := ⟨[], _⟩) (s' := ⟨[], [(101, some (.blk g 238 ((cs13U L sd md bs C rf fb (.slice xp.a xn xp.c) (.slice vp.a vn vp.c))))), (1, some (.row w.heap.size 242 1 (.slice xp.a xn xp.c) xn xs)), (2, some (pcK (cvs.map cblk))), (3, some (ckSyms w.heap.size rows)), (4, some (.row w.heap.size 248 1 (.slice vp.a vn vp.c) vn vs)), (5, some (pcK (fz gv (rcvN y k ++ rcv ((symL V).take j))))), (110, some (.ry D (some ⟨b, o, none⟩) z)), (93, some (.blk (p43 2).g 244 #[.nilIface, .int .u16 1, .int .u16 (V / 16384 % 2), .slice (p45 6).a ((symL V).length : Nat) (p45 6).c])), (94, some (.row w.heap.size 32 1 (.slice (p45 6).a ((symL V).length : Nat) (p45 6).c) (symL V).length ((symL V).flatMap u16c)))]⟩) (fst_snd (by kernel_rfl)) hS
     refine ift hE ?_
     refine dgE hE hS [pu, pu, pu, pu, ld 101, pu, pu, pu, ld 93, pu, ir 94, lr 94 j (.int .u16 s), pu, nw 96, nw 97, ap 4 [97], pu, pu, st 101] kp0 (fun p63 => kP [(101, some (.blk g 238 ((cs13U L sd md bs C rf fb (.slice xp.a xn xp.c) (.slice (p63 15).a (vn + 1) (p63 15).c))))), (4, some (.row w.heap.size 248 1 (.slice (p63 15).a (vn + 1) (p63 15).c) (vn + 1) (vs ++ ([pt (p63 13).g 0] : List Value)))), (96, some (.blk (p63 13).g 249 #[.int .u16 s, .int .i64 0]))]) (fun p63 => ⟨kr (show j < (symL V).length by omega), kr (show ((symL V).flatMap u16c)[j]? = some (.int .u16 s) ∧ 0 < (symL V).length from ⟨u16c_at hs, by omega⟩), kr (show w.heap.size ≤ w.heap.size ∧ (vn + 1) * 8 ≤ 140737488355328 ∧ ∀ u ∈ ([.pointer (some ⟨(p63 13).g, 0, none⟩)] : List Value), u.oneCell' = true from ⟨Nat.le_refl _, by omega, by intro u hu; simp at hu; rw [hu]; rfl⟩), trivial⟩) fun p63 a u hE hS => ?_
     have hry : rcv [s] = [s] := rcv_yes (by omega)
     have hS := stp_famadd (l := fz gv (rcvN y k ++ rcv ((symL V).take j))) (g := (p63 13).g) (T := 249) (cs := #[.int .u16 s, .int .i64 0]) hS 5 96 (by decide)
     rw [fz_snoc hj3, List.append_assoc, ← hry, ← hrt] at hS
     exact hK5 ⟨(p63 15), vn + 1, vs ++ ([.pointer (some ⟨(p63 13).g, 0, none⟩)] : List Value), gv ++ [(p63 13).g]⟩ a u _ _ ⟨by show vn + 1 = _; rw [hrt, hry, ← List.append_assoc, List.length_append, ← hj1]; rfl, by show vs ++ _ = _; rw [hj2]; simp [ptrs], by show (gv ++ [_]).length = _; rw [hrt, hry, ← List.append_assoc, List.length_append, List.length_append, hj3]; rfl⟩ hE hS (by kernel_rfl)
    refine rgp hE hS [pu, pu, pu, ld 93, pu, ir 94, lr 94 j (.int .u16 s), pe (.bool false), pu, pu, pu, pu, ld 93, pu, ir 94, lr 94 j (.int .u16 s), pe (.bool false), pu] (fun _ => kp [(270, .bool false)]) kP0 (fun _ => ⟨kr (show j < (symL V).length by omega), kr (show ((symL V).flatMap u16c)[j]? = some (.int .u16 s) ∧ 0 < (symL V).length from ⟨u16c_at hs, by omega⟩), kr (cbV (nbV (show (s : Int) ≠ 1 by omega))), kr (show j < (symL V).length by omega), kr (show ((symL V).flatMap u16c)[j]? = some (.int .u16 s) ∧ 0 < (symL V).length from ⟨u16c_at hs, by omega⟩), kr (cbV (nbV (show (s : Int) ≠ 2 by omega))), trivial⟩) fun _ a u hE hS => iff hE <| wp_skip ?_
    have hrx : rcv ((symL V).take (j + 1)) = rcv ((symL V).take j) := by rw [hrt, rcv_no hsa hsb, List.append_nil]
    rw [← hrx] at hS
    exact hK5 ⟨vp, vn, vs, gv⟩ a u _ _ ⟨by rw [hrx]; exact hj1, hj2, by rw [hrx]; exact hj3⟩ hE hS (by kernel_rfl)
   simp only at hI
   obtain ⟨hm1, hm2, hm3⟩ := hI
   rw [hrcM, ← hrcn] at hm1 hm3 hS
   refine rgE hE hS [pu, pu, pe (.int .u16 ((M : Nat) : Int)), pe (.int .u16 (pv + ((M : Nat) : Int))), pu] (fun _ => kp [(8, .int .u16 (pv + ((M : Nat) : Int)))]) kP0 (fun _ => ⟨kr (congrArg (Value.int .u16) (show IntKind.u16.wrap ((M : Nat) : Int) = ((M : Nat) : Int) by rw [IntKind.wrap_u16]; omega)), kr (congrArg (Value.int .u16) (show IntKind.u16.wrap (pv + ((M : Nat) : Int)) = pv + ((M : Nat) : Int) by rw [IntKind.wrap_u16]; omega)), trivial⟩) fun _ a u hE hS => ?_
   have hS := stp_famadd (l := cvs.map cblk) (g := (p43 2).g) (T := 244) (cs := #[.nilIface, .int .u16 1, .int .u16 (V / 16384 % 2), .slice (p45 6).a ((symL V).length : Nat) (p45 6).c]) hS 2 93 (by decide)
   have hS := stp_syms (B := w.heap.size) (l := rows) hS 3 94 (⟨(p45 6).a, (p45 6).c, symL V⟩ : Sl Int) (by decide)
   exact hKj ((p43 2).g, ⟨true, 0, V / 16384 % 2, 0, ⟨(p45 6).a, (p45 6).c, symL V⟩⟩, rows ++ [⟨(p45 6).a, (p45 6).c, symL V⟩], pv + ((M : Nat) : Int), ⟨vq, vn, vs, gv⟩) a u _ _ ⟨by unfold staC; rw [if_neg hrun]; rfl, .inr (List.mem_append_right _ (List.mem_singleton.2 rfl)), fun s hs => List.mem_append_left _ hs, by show pv + ((M : Nat) : Int) = _; unfold pr; rw [htn]; split <;> omega, hm1, hm2, hm3⟩ hE hS (by kernel_rfl)
  ·skip
   obtain ⟨cg, sta, rows2, pv2, rp2, rn2, rs2, gs2⟩ := x
   simp only at hI
   obtain ⟨hj1, hj2, hj3, hj4, hj5, hj6, hj7⟩ := hI
   refine rgp hE hS [pu, pe (.int .i64 ((20 + 2 * (k + 1) : Nat) : Int)), pu] (fun _ => kp [(7, .int .i64 (20 + 2 * (k + 1) : Nat))]) kP0 (fun _ => ⟨kr (ciV (show IntKind.i64.wrap (((20 + 2 * k : Nat) : Int) + (2 : Int)) = ((20 + 2 * (k + 1) : Nat) : Int) from by rw [wiV _ (by omega)]; omega)), trivial⟩) fun _ a u hE hS => ?_
   refine rgE hE hS [pu, pu, pu, pu, ld 101, pu, nw 92, ap 1 [92], pu, pu, st 101] kp0 (fun p67 => kP [(101, some (.blk g 238 ((cs13U L sd md bs C rf fb (.slice (p67 7).a (xn + 1) (p67 7).c) (.slice rp2.a rn2 rp2.c))))), (1, some (.row w.heap.size 242 1 (.slice (p67 7).a (xn + 1) (p67 7).c) (xn + 1) (xs ++ ([cval (cg, sta)] : List Value))))]) (fun _ => ⟨kr (show w.heap.size ≤ w.heap.size ∧ (xn + 1) * 16 ≤ 140737488355328 ∧ ∀ u ∈ ([cval (cg, sta)] : List Value), u.oneCell' = true from ⟨Nat.le_refl _, by omega, by intro u hu; simp at hu; rw [hu]; rfl⟩), trivial⟩) fun p67 a u hE hS => ?_
   rw [show cvs.map cblk ++ [cblk (cg, sta)] = (cvs ++ [(cg, sta)]).map cblk by simp] at hS
   exact hK ⟨(p67 7), xn + 1, xs ++ [cval (cg, sta)], cvs ++ [(cg, sta)], rows2, pv2, rp2, rn2, rs2, gs2⟩ a u _ _ hlt ⟨congrArg (· + 1) hk1, by show xs ++ _ = _; rw [hk2]; simp, by show (cvs ++ [(cg, sta)]).map _ = _; rw [List.map_append, hk3, stasN_succ, hVt, ← hj1]; rfl, by show (cvs ++ [_]).length = _; simp [hk4], fun c hc => by
     rcases List.mem_append.1 hc with h | h
     ·exact (hk5 c h).imp id fun h => hj3 _ h
     ·rw [List.mem_singleton.1 h]; exact hj2, hj4, hj5, hj6, hj7⟩ hE hS (by kernel_rfl)
 ·have hNk : n = k := by omega
  have hst := hT.stop
  rw [hNk] at hst
  have hpv : pv = C := by rw [hk6]; unfold pr; rw [if_pos hst]
  refine wp_seq ?_
  refine rgp hE hS [pu, pu, pu, pu, ld 101, pe (.bool false)] (fun _ => kp [(108, .bool false)]) kP0 (fun _ => ⟨kr (cbV (dfV (show ¬ (pv < C) by omega))), trivial⟩) fun _ a u hE hS => iff hE ?_
  refine wp_exit ?_
  refine rg hE hS [pu, pu] (fun _ => kp [(19, .int .i64 ((20 + 2 * k : Nat) : Int))]) kP0 fun _ a u hE hS => ?_
  refine wp_seq ?_
  obtain ⟨RS, hRS⟩ : ∃ RS, rcvN y k = RS := ⟨_, rfl⟩
  rw [hNk] at hds
  rw [hRS] at hk7 hk9 hS
  have hRm : ∀ x ∈ RS, x = 1 ∨ x = 2 := fun x hx => rcvN_mem (y := y) (n := k) (by rw [hRS]; exact hx)
  have hRl := rcvN_le hzy k
  rw [hRS] at hRl
  have hdl := hT.dl
  rw [hNk, hRS] at hdl
  obtain ⟨bb, hbb⟩ : ∃ bb, y.drop (2 * k) = bb := ⟨_, rfl⟩
  have hbz : bb = z.drop (20 + 2 * k) := by rw [← hbb, ← hy, List.drop_drop]
  refine rg hE hS [pu, pu, pu, ld 101, pu, pu] (fun _ => kn [(310, .slice rp.a rn rp.c), (311, .int .i64 (rn : Nat)), (312, .int .i64 0)] [1, 4, 6, 19]) (fun _ => kN [] [101, 1, 2, 3, 4, 5, 110]) fun _ a u hE hS => ?_
  have hE := end_env (s := ⟨_, []⟩) (s' := ⟨[(1, sv b o z.length c), (4, .nilIface), (6, .int .i64 (4 * (L + 1) : Nat)), (19, .int .i64 ((20 + 2 * k : Nat) : Int)), (310, .slice rp.a rn rp.c), (311, .int .i64 (rn : Nat)), (312, .int .i64 0)], []⟩) (fst_snd (by kernel_rfl)) hE
  have hS := end_mem (s := ⟨[], _⟩) (s' := ⟨[], [(101, some (.blk g 238 ((cs13U L sd md bs C rf fb (.slice xp.a xn xp.c) (.slice rp.a rn rp.c))))), (1, some (.row w.heap.size 242 1 (.slice xp.a xn xp.c) xn xs)), (2, some (pcK (cvs.map cblk))), (3, some (ckSyms w.heap.size rows)), (4, some (.row w.heap.size 248 1 (.slice rp.a rn rp.c) rn rs)), (5, some (pcK (fz gs RS))), (110, some (.ry D (some ⟨b, o, none⟩) z))]⟩) (fst_snd (by kernel_rfl)) hS
  have hS := stp_fam0 hS 6
  refine range_up hE hS 312 rn (fun i x => kd [312, 313, 360] [(19, .int .i64 ((20 + 2 * k + dPos RS i : Nat) : Int))]) (fun i x => kP [(5, some (pcK (fz (gs.drop i) (RS.drop i)))), (6, some (pcK (fd (gs.take i) (dltN RS bb i))))]) (fun i (x : Unit) => True) () (by omega) (trivial) (fun i x a u hin hI hE hS K9 hK9 RK9 hRK9 => ?_) fun _ a u hI hE hS => ?_
  ·obtain hi1 := hI
   obtain ⟨s, hs⟩ : ∃ s, RS[i]? = some s := ⟨_, List.getElem?_eq_getElem (by omega)⟩
   obtain ⟨gd, hgd⟩ : ∃ gd, gs[i]? = some gd := ⟨_, List.getElem?_eq_getElem (by omega)⟩
   have hs12 : s = 1 ∨ s = 2 := hRm s (List.mem_of_getElem? hs)
   have hge : RS.getD i 0 = s := by rw [List.getD, hs]; rfl
   have hdn : dPos RS (i + 1) = dPos RS i + s.toNat := by show dPos RS i + (RS.getD i 0).toNat = _; rw [hge]
   have hdi := hdl i (by omega)
   rw [fz_pop hgd hs] at hS
   have hS := stp_fampop (l := fz (gs.drop (i + 1)) (RS.drop (i + 1))) (g := gd) (T := 249) (cs := #[.int .u16 s, .int .i64 0]) hS 5 93 (by decide)
   have hE := end_env (s := ⟨_, []⟩) (s' := ⟨[(1, sv b o z.length c), (4, .nilIface), (6, .int .i64 (4 * (L + 1) : Nat)), (19, .int .i64 ((20 + 2 * k + dPos RS i : Nat) : Int)), (310, .slice rp.a rn rp.c), (311, .int .i64 (rn : Nat)), (312, .int .i64 (i : Nat))], []⟩) (fst_snd (by kernel_rfl)) hE
   have hS := end_mem (s := ⟨[], _⟩) (s' := ⟨[], [(93, some (.blk gd 249 #[.int .u16 s, .int .i64 0])), (6, some (pcK (fd (gs.take i) (dltN RS bb i)))), (101, some (.blk g 238 ((cs13U L sd md bs C rf fb (.slice xp.a xn xp.c) (.slice rp.a rn rp.c))))), (1, some (.row w.heap.size 242 1 (.slice xp.a xn xp.c) xn xs)), (2, some (pcK (cvs.map cblk))), (3, some (ckSyms w.heap.size rows)), (4, some (.row w.heap.size 248 1 (.slice rp.a rn rp.c) rn rs)), (5, some (pcK (fz (gs.drop (i + 1)) (RS.drop (i + 1))))), (110, some (.ry D (some ⟨b, o, none⟩) z))]⟩) (fst_snd (by kernel_rfl)) hS
   rcases hs12 with rfl | rfl
   ·skip
    refine rgp hE hS [ir 4, lr 4 i (.pointer (some ⟨gd, 0, none⟩)), pu] (fun _ => kp [(21, pt gd 0)]) kP0 (fun _ => ⟨kr (show i < rn from hin), kr (show rs[i]? = some (.pointer (some ⟨gd, 0, none⟩)) ∧ 0 < rn from ⟨by rw [hk8]; exact ptrs_at hgd, by omega⟩), trivial⟩) fun _ a u hE hS => ?_
    refine wp_seq ?_
    refine rgp hE hS [pu, pu, pu, ld 93, pe (.bool true)] (fun _ => kp [(320, .bool true)]) kP0 (fun _ => ⟨kr (cbV (ebV (show (1 : Int) = 1 by decide))), trivial⟩) fun _ a u hE hS => ift hE ?_
    refine wp_seq ?_
    refine rgp hE hS [pu, pe (.int .i64 ((20 + 2 * k + dPos RS i + 1 : Nat) : Int)), pu, pe (.bool false)] (fun _ => kp [(324, .bool false)]) kP0 (fun _ => ⟨kr (ciV (show IntKind.i64.wrap (((20 + 2 * k + dPos RS i : Nat) : Int) + (1 : Int)) = ((20 + 2 * k + dPos RS i + 1 : Nat) : Int) from by rw [wiV _ (by omega)]; omega)), kr (cbV (dfV (show ¬ (((20 + 2 * k + dPos RS i + 1 : Nat) : Int) > ((4 * (L + 1) : Nat) : Int)) by omega))), trivial⟩) fun _ a u hE hS => iff hE <| wp_skip ?_
    have hYd : ((z.take (20 + 2 * k + dPos RS i + 1)).drop (20 + 2 * k + dPos RS i)).length = 1 := by rw [List.length_drop, List.length_take, Nat.min_eq_left (by omega)]; omega
    have hYb : dltB 1 ((z.take (20 + 2 * k + dPos RS i + 1)).drop (20 + 2 * k + dPos RS i)) = dltB 1 (bb.drop (dPos RS i)) := by rw [hbz, List.drop_drop]; unfold dltB; rw [if_neg (by decide), if_neg (by decide), gi_cut z (20 + 2 * k + dPos RS i) (20 + 2 * k + dPos RS i + 1) 0 (by omega)]
    refine rgp hE hS [pu, pu, pu, pu, pe (.int .i64 ((20 + 2 * k + dPos RS i + 1 : Nat) : Int)), rsl 110 112, cu 189 [112] [93] (fun _ => .nilIface) (fun _ => [some (.blk gd 249 #[.int .u16 (dltB 1 ((z.take (20 + 2 * k + dPos RS i + 1)).drop (20 + 2 * k + dPos RS i))).ty, .int .i64 (dltB 1 ((z.take (20 + 2 * k + dPos RS i + 1)).drop (20 + 2 * k + dPos RS i))).d])]), pu] (fun _ => kp [(22, .nilIface)]) (fun _ => kP [(93, some (.blk gd 249 #[.int .u16 (dltB 1 ((z.take (20 + 2 * k + dPos RS i + 1)).drop (20 + 2 * k + dPos RS i))).ty, .int .i64 (dltB 1 ((z.take (20 + 2 * k + dPos RS i + 1)).drop (20 + 2 * k + dPos RS i))).d]))]) (fun p74 => ⟨kr (ciV (show IntKind.i64.wrap (((20 + 2 * k + dPos RS i : Nat) : Int) + (1 : Int)) = ((20 + 2 * k + dPos RS i + 1 : Nat) : Int) from by rw [wiV _ (by omega)]; omega)), kr (show (20 + 2 * k + dPos RS i) ≤ (20 + 2 * k + dPos RS i + 1) ∧ (20 + 2 * k + dPos RS i + 1) ≤ z.length ∧ z.length ≤ c by omega), kr (cu_ub (olds := (· = g)) (w0 := w) (D := D) (T := 249) (cs := #[.int .u16 1, .int .i64 0]) (A := some ⟨(p74 5).g, (p74 5).c, none⟩) (l := ((z.take (20 + 2 * k + dPos RS i + 1)).drop (20 + 2 * k + dPos RS i))) (g := gd) (f := 189) (cs' := #[.int .u16 (dltB 1 ((z.take (20 + 2 * k + dPos RS i + 1)).drop (20 + 2 * k + dPos RS i))).ty, .int .i64 (dltB 1 ((z.take (20 + 2 * k + dPos RS i + 1)).drop (20 + 2 * k + dPos RS i))).d]) 112 93 _ ((c - (20 + 2 * k + dPos RS i))) rfl fun w4 hb4 hr4 hD4 hz4 => dltUm_any 1 gd (p74 5).g (p74 5).c ((c - (20 + 2 * k + dPos RS i))) _ D w4 hz4 hb4 hr4 hD4 (by rw [hYd]; omega) (by rw [hYd]; decide)), trivial⟩) fun _ a u hE hS => ?_
    rw [hYb] at hS
    refine wp_seq ?_
    refine rg hE hS [pu, pu] (fun _ => kp [(334, .bool false)]) kP0 fun _ a u hE hS => ?_
    have hE := end_env (s := ⟨_, []⟩) (s' := ⟨[(1, sv b o z.length c), (4, .nilIface), (6, .int .i64 (4 * (L + 1) : Nat)), (19, .int .i64 ((20 + 2 * k + dPos RS i : Nat) : Int)), (310, .slice rp.a rn rp.c), (311, .int .i64 (rn : Nat)), (312, .int .i64 (i : Nat)), (21, pt gd 0), (22, .nilIface), (334, .bool false)], []⟩) (fst_snd (by kernel_rfl)) hE
    have hS := end_mem (s := ⟨[], _⟩) (s' := ⟨[], [(93, some (.blk gd 249 #[.int .u16 (dltB 1 (bb.drop (dPos RS i))).ty, .int .i64 (dltB 1 (bb.drop (dPos RS i))).d])), (6, some (pcK (fd (gs.take i) (dltN RS bb i)))), (101, some (.blk g 238 ((cs13U L sd md bs C rf fb (.slice xp.a xn xp.c) (.slice rp.a rn rp.c))))), (1, some (.row w.heap.size 242 1 (.slice xp.a xn xp.c) xn xs)), (2, some (pcK (cvs.map cblk))), (3, some (ckSyms w.heap.size rows)), (4, some (.row w.heap.size 248 1 (.slice rp.a rn rp.c) rn rs)), (5, some (pcK (fz (gs.drop (i + 1)) (RS.drop (i + 1))))), (110, some (.ry D (some ⟨b, o, none⟩) z))]⟩) (fst_snd (by kernel_rfl)) hS
    refine iff hE <| wp_skip ?_
    refine rgE hE hS [pu, pe (.int .i64 ((20 + 2 * k + dPos RS i + 1 : Nat) : Int)), pu] (fun _ => kp [(19, .int .i64 (20 + 2 * k + dPos RS i + 1 : Nat))]) kP0 (fun _ => ⟨kr (ciV (show IntKind.i64.wrap (((20 + 2 * k + dPos RS i : Nat) : Int) + (1 : Int)) = ((20 + 2 * k + dPos RS i + 1 : Nat) : Int) from by rw [wiV _ (by omega)]; omega)), trivial⟩) fun _ a u hE hS => ?_
    refine rg hE hS [pu, pu, pu, ld 93, pu] (fun _ => kp [(342, .bool false)]) kP0 fun _ a u hE hS => iff hE <| wp_skip ?_
    have hS := stp_famadd (l := fd (gs.take i) (dltN RS bb i)) (g := gd) (T := 249) (cs := #[.int .u16 (dltB 1 (bb.drop (dPos RS i))).ty, .int .i64 (dltB 1 (bb.drop (dPos RS i))).d]) hS 6 93 (by decide)
    rw [fd_snoc (d := dltB 1 (bb.drop (dPos RS i))) (by simp [dltN]; omega), tk_snoc hgd, show dltN RS bb i ++ [dltB 1 (bb.drop (dPos RS i))] = dltN RS bb (i + 1) by rw [dltN_succ, hge]] at hS
    rw [show ((20 + 2 * k + dPos RS i + 1 : Nat) : Int) = ((20 + 2 * k + dPos RS (i + 1) : Nat) : Int) by rw [hdn]; rfl] at hE
    exact hK9 () a u _ _ trivial hE hS (by kernel_rfl)
   refine rgp hE hS [ir 4, lr 4 i (.pointer (some ⟨gd, 0, none⟩)), pu] (fun _ => kp [(21, pt gd 0)]) kP0 (fun _ => ⟨kr (show i < rn from hin), kr (show rs[i]? = some (.pointer (some ⟨gd, 0, none⟩)) ∧ 0 < rn from ⟨by rw [hk8]; exact ptrs_at hgd, by omega⟩), trivial⟩) fun _ a u hE hS => ?_
   refine wp_seq ?_
   refine rgp hE hS [pu, pu, pu, ld 93, pe (.bool false)] (fun _ => kp [(320, .bool false)]) kP0 (fun _ => ⟨kr (cbV (nbV (show (2 : Int) ≠ 1 by decide))), trivial⟩) fun _ a u hE hS => iff hE <| wp_skip ?_
   refine rg hE hS [pu, pu, pu, ld 93, pu] (fun _ => kp [(342, .bool true)]) kP0 fun _ a u hE hS => ?_
   have hE := end_env (s := ⟨_, []⟩) (s' := ⟨[(1, sv b o z.length c), (4, .nilIface), (6, .int .i64 (4 * (L + 1) : Nat)), (19, .int .i64 ((20 + 2 * k + dPos RS i : Nat) : Int)), (310, .slice rp.a rn rp.c), (311, .int .i64 (rn : Nat)), (312, .int .i64 (i : Nat)), (21, pt gd 0), (342, .bool true)], []⟩) (fst_snd (by kernel_rfl)) hE
   have hS := end_mem (s := ⟨[], _⟩) (s' := ⟨[], [(93, some (.blk gd 249 #[.int .u16 2, .int .i64 0])), (6, some (pcK (fd (gs.take i) (dltN RS bb i)))), (101, some (.blk g 238 ((cs13U L sd md bs C rf fb (.slice xp.a xn xp.c) (.slice rp.a rn rp.c))))), (1, some (.row w.heap.size 242 1 (.slice xp.a xn xp.c) xn xs)), (2, some (pcK (cvs.map cblk))), (3, some (ckSyms w.heap.size rows)), (4, some (.row w.heap.size 248 1 (.slice rp.a rn rp.c) rn rs)), (5, some (pcK (fz (gs.drop (i + 1)) (RS.drop (i + 1))))), (110, some (.ry D (some ⟨b, o, none⟩) z))]⟩) (fst_snd (by kernel_rfl)) hS
   refine ift hE ?_
   refine wp_seq ?_
   refine rgp hE hS [pu, pe (.int .i64 ((20 + 2 * k + dPos RS i + 2 : Nat) : Int)), pu, pe (.bool false)] (fun _ => kp [(346, .bool false)]) kP0 (fun _ => ⟨kr (ciV (show IntKind.i64.wrap (((20 + 2 * k + dPos RS i : Nat) : Int) + (2 : Int)) = ((20 + 2 * k + dPos RS i + 2 : Nat) : Int) from by rw [wiV _ (by omega)]; omega)), kr (cbV (dfV (show ¬ (((20 + 2 * k + dPos RS i + 2 : Nat) : Int) > ((4 * (L + 1) : Nat) : Int)) by omega))), trivial⟩) fun _ a u hE hS => iff hE <| wp_skip ?_
   have hYd : ((z.take (20 + 2 * k + dPos RS i + 2)).drop (20 + 2 * k + dPos RS i)).length = 2 := by rw [List.length_drop, List.length_take, Nat.min_eq_left (by omega)]; omega
   have hYb : dltB 2 ((z.take (20 + 2 * k + dPos RS i + 2)).drop (20 + 2 * k + dPos RS i)) = dltB 2 (bb.drop (dPos RS i)) := by rw [hbz, List.drop_drop]; unfold dltB; rw [if_pos rfl, if_pos rfl, rd16_cut z (20 + 2 * k + dPos RS i) (20 + 2 * k + dPos RS i + 2) (by omega)]
   refine rgp hE hS [pu, pu, pu, pu, pe (.int .i64 ((20 + 2 * k + dPos RS i + 2 : Nat) : Int)), rsl 110 112, cu 189 [112] [93] (fun _ => .nilIface) (fun _ => [some (.blk gd 249 #[.int .u16 (dltB 2 ((z.take (20 + 2 * k + dPos RS i + 2)).drop (20 + 2 * k + dPos RS i))).ty, .int .i64 (dltB 2 ((z.take (20 + 2 * k + dPos RS i + 2)).drop (20 + 2 * k + dPos RS i))).d])]), pu] (fun _ => kp [(23, .nilIface)]) (fun _ => kP [(93, some (.blk gd 249 #[.int .u16 (dltB 2 ((z.take (20 + 2 * k + dPos RS i + 2)).drop (20 + 2 * k + dPos RS i))).ty, .int .i64 (dltB 2 ((z.take (20 + 2 * k + dPos RS i + 2)).drop (20 + 2 * k + dPos RS i))).d]))]) (fun p82 => ⟨kr (ciV (show IntKind.i64.wrap (((20 + 2 * k + dPos RS i : Nat) : Int) + (2 : Int)) = ((20 + 2 * k + dPos RS i + 2 : Nat) : Int) from by rw [wiV _ (by omega)]; omega)), kr (show (20 + 2 * k + dPos RS i) ≤ (20 + 2 * k + dPos RS i + 2) ∧ (20 + 2 * k + dPos RS i + 2) ≤ z.length ∧ z.length ≤ c by omega), kr (cu_ub (olds := (· = g)) (w0 := w) (D := D) (T := 249) (cs := #[.int .u16 2, .int .i64 0]) (A := some ⟨(p82 5).g, (p82 5).c, none⟩) (l := ((z.take (20 + 2 * k + dPos RS i + 2)).drop (20 + 2 * k + dPos RS i))) (g := gd) (f := 189) (cs' := #[.int .u16 (dltB 2 ((z.take (20 + 2 * k + dPos RS i + 2)).drop (20 + 2 * k + dPos RS i))).ty, .int .i64 (dltB 2 ((z.take (20 + 2 * k + dPos RS i + 2)).drop (20 + 2 * k + dPos RS i))).d]) 112 93 _ ((c - (20 + 2 * k + dPos RS i))) rfl fun w4 hb4 hr4 hD4 hz4 => dltUm_any 2 gd (p82 5).g (p82 5).c ((c - (20 + 2 * k + dPos RS i))) _ D w4 hz4 hb4 hr4 hD4 (by rw [hYd]; omega) (by rw [hYd]; decide)), trivial⟩) fun _ a u hE hS => ?_
   rw [hYb] at hS
   refine wp_seq ?_
   refine rg hE hS [pu, pu] (fun _ => kp [(356, .bool false)]) kP0 fun _ a u hE hS => iff hE <| wp_skip ?_
   refine rgE hE hS [pu, pe (.int .i64 ((20 + 2 * k + dPos RS i + 2 : Nat) : Int)), pu] (fun _ => kp [(19, .int .i64 (20 + 2 * k + dPos RS i + 2 : Nat))]) kP0 (fun _ => ⟨kr (ciV (show IntKind.i64.wrap (((20 + 2 * k + dPos RS i : Nat) : Int) + (2 : Int)) = ((20 + 2 * k + dPos RS i + 2 : Nat) : Int) from by rw [wiV _ (by omega)]; omega)), trivial⟩) fun _ a u hE hS => ?_
   have hS := stp_famadd (l := fd (gs.take i) (dltN RS bb i)) (g := gd) (T := 249) (cs := #[.int .u16 (dltB 2 (bb.drop (dPos RS i))).ty, .int .i64 (dltB 2 (bb.drop (dPos RS i))).d]) hS 6 93 (by decide)
   rw [fd_snoc (d := dltB 2 (bb.drop (dPos RS i))) (by simp [dltN]; omega), tk_snoc hgd, show dltN RS bb i ++ [dltB 2 (bb.drop (dPos RS i))] = dltN RS bb (i + 1) by rw [dltN_succ, hge]] at hS
   rw [show ((20 + 2 * k + dPos RS i + 2 : Nat) : Int) = ((20 + 2 * k + dPos RS (i + 1) : Nat) : Int) by rw [hdn]; rfl] at hE
   exact hK9 () a u _ _ trivial hE hS (by kernel_rfl)
  rw [show gs.take rn = gs from List.take_of_length_le (by omega)] at hS
  refine rg hE hS [pu] kp0 kP0 fun _ a u hE hS => ?_
  have hE := end_env (s := ⟨_, []⟩) (s' := ⟨[(1, sv b o z.length c), (4, .nilIface)], []⟩) (fst_snd (by kernel_rfl)) hE
  have hS := end_mem (s := ⟨[], _⟩) (s' := ⟨[], [(6, some (pcK (fd gs (dltN RS bb rn)))), (101, some (.blk g 238 ((cs13U L sd md bs C rf fb (.slice xp.a xn xp.c) (.slice rp.a rn rp.c))))), (1, some (.row w.heap.size 242 1 (.slice xp.a xn xp.c) xn xs)), (2, some (pcK (cvs.map cblk))), (3, some (ckSyms w.heap.size rows)), (4, some (.row w.heap.size 248 1 (.slice rp.a rn rp.c) rn rs)), (5, some (pcK (fz (gs.drop rn) (RS.drop rn)))), (110, some (.ry D (some ⟨b, o, none⟩) z))]⟩) (fst_snd (by kernel_rfl)) hS
  refine wp_ret ?_
  have hrow1 := InRows.of_own (pcR (base := w.heap.size) (e := 242) (size := 1) (v := .slice xp.a xn xp.c) (n := xn) (xs := xs) hS 1)
  have hrow4 := InRows.of_own (pcR (base := w.heap.size) (e := 248) (size := 1) (v := .slice rp.a rn rp.c) (n := rn) (xs := rs) hS 4)
  have hown := fun x hx => own_syms (B := w.heap.size) (l := rows) hS 3 x hx
  have hblk := pcB (g := g) (T := 238) (cs := cs13U L sd md bs C rf fb (.slice xp.a xn xp.c) (.slice rp.a rn rp.c)) hS 101
  have hxl : xn = cvs.length := by omega
  have hrl : rn = gs.length := by omega
  rw [hxl, hk2] at hrow1
  rw [hrl, hk8] at hrow4
  rw [hxl, hrl] at hblk
  have hf2 := fam_at (l := cvs.map cblk) (T2 := 238) (cs2 := cs13U L sd md bs C rf fb (.slice xp.a xn xp.c) (.slice rp.a rn rp.c)) 2 hS (by decide) (by kernel_rfl) (by kernel_rfl)
  have hf6 := fam_at (l := fd gs (dltN RS bb rn)) (T2 := 238) (cs2 := cs13U L sd md bs C rf fb (.slice xp.a xn xp.c) (.slice rp.a rn rp.c)) 6 hS (by decide) (by kernel_rfl) (by kernel_rfl)
  exact ret1 hE Tryz.results183 .nilIface ⟨rfl, hS.grownBy (some g) (fun _ e => by rw [e]), xp.a, xp.c, rp.a, rp.c, cvs, gs, (by rw [hsd, hmd, hbs, hC, hrf, hfb]; exact hblk), hrow1, (fun c hc => by have := hf2 (cblk c) (List.mem_map_of_mem hc); rw [cblk_fst] at this; exact this), (fun c hc => syms_in (hk5 c hc) hown), (by rw [hy, hNk]; exact hk3), hrow4, (by rw [hC] at *; rw [hy, hNk, hRS]; omega), (by rw [hy, hNk, hRS, hbb, show RS.length = rn by omega]; exact hf6)⟩
end Go.Proofs.YtmmfpgoodfgkbaaGreatDoor
