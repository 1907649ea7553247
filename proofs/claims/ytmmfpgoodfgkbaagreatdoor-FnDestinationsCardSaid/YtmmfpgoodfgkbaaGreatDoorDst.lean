/-
  THE WALKS of the methods that name the sources that a packet refers to. Condition: the packet lies in a block, its lists in memory that was there.
-/
import Derived.Test.YtmmfpgoodfgkbaaGreatDoorPl
import Derived.Test.YtmmfpgoodfgkbaaGreatDoorUm4
import Derived.Test.YtmmfpgoodfgkbaaGreatDoorMClone
namespace Go.Proofs.YtmmfpgoodfgkbaaGreatDoor
open Go Go.RowKit
set_option maxHeartbeats 4000000
set_option maxRecDepth 100000
set_option linter.unusedVariables false
set_option linter.unusedSimpArgs false

def R32 (w : World) (D : Nat → Prop) (A : Option Addr) (n : Nat) (xs : List Value) : Prop :=
 xs.length = n ∧ (0 < n → ∃ ad, A = some ad ∧ D ad.block ∧ ad.block < w.heap.size ∧ ∀ j u, xs[j]? = some u → w.cell? (ad.add j) = some u)
theorem R32.reads {w : World} {D : Nat → Prop} {A : Option Addr} {n : Nat} {xs : List Value} (h : R32 w D A n xs) : Reads w w.heap.size 1 A n xs :=
 ⟨by have := h.1; omega, fun hn => by obtain ⟨ad, e, _, h2, h3⟩ := h.2 hn; exact ⟨ad, e, h2, h3⟩⟩
theorem R32.new {w w' : World} {D : Nat → Prop} {A : Option Addr} {n : Nat} {xs : List Value} (h : InRows w' w.heap.size w'.heap.size 1 A n xs) : R32 w' (fun g => D g ∨ w.heap.size ≤ g) A n xs :=
 ⟨by have := h.1; omega, fun hn => by obtain ⟨ad, e, h1, h2, h3⟩ := h.2 hn; exact ⟨ad, e, .inr h1, h2, h3⟩⟩
theorem R32.below {w w' : World} {D : Nat → Prop} {A : Option Addr} {n : Nat} {xs : List Value} (h : R32 w D A n xs) (hB : Below w.heap.size w w') : R32 w' (fun g => D g ∨ w.heap.size ≤ g) A n xs :=
 ⟨h.1, fun hn => by
  obtain ⟨ad, e, h1, h2, h3⟩ := h.2 hn
  exact ⟨ad, e, .inl h1, Nat.lt_of_lt_of_le h2 hB.size, fun j u hu => (World.cell?_of_block (by rw [block_of_add]; exact hB.block _ h2)).trans (h3 j u hu)⟩⟩
def U32Out (D : Nat → Prop) (w : World) (ds : List Int) (e : Ending) (w' : World) : Prop :=
 ∃ (A : Option Addr) (n c : Nat), e = .returned (.slice A n c) ∧ R32 w' (fun g => D g ∨ w.heap.size ≤ g) A n (ds.flatMap u32c) ∧ Below w.heap.size w w'
def dstC (ds : List Int) (n k : Nat) : Array Value := ((ds.take k).flatMap u32c ++ List.replicate (n - k) (Value.int .u32 0)).toArray
theorem dstC_zero (ds : List Int) (n : Nat) : madeCells (Value.int .u32 0).cells (n * 1) = dstC ds n 0 := by
 rw [Nat.mul_one]
 show madeCells #[.int .u32 0] n = _
 rw [made_one]
 simp [dstC]
theorem dstC_len {ds : List Int} {n k : Nat} (hn : ds.length = n) (h : k ≤ n) : (dstC ds n k).size = n := by
 unfold dstC
 rw [List.size_toArray, List.length_append, u32c_len, List.length_take, List.length_replicate]
 omega
theorem dstC_all {ds : List Int} {n : Nat} (hn : ds.length = n) : (dstC ds n n).toList = ds.flatMap u32c := by simp [dstC, ← hn]
theorem dstC_next {ds : List Int} {n k : Nat} {x : Int} (hn : ds.length = n) (hk : k < n) (hx : ds[k]? = some x) : 0 + k * 1 + 1 ≤ (dstC ds n k).size ∧ (dstC ds n k).setIfInBounds (0 + k * 1) (.int .u32 x) = dstC ds n (k + 1) := by
 have hl : ((ds.take k).flatMap u32c).length = k := by rw [u32c_len, List.length_take]; omega
 refine ⟨by rw [dstC_len hn (by omega)]; omega, ?_⟩
 rw [Nat.zero_add, Nat.mul_one]
 unfold dstC
 have hkl : k < ds.length := by omega
 have hx' : ds[k] = x := by rw [List.getElem?_eq_getElem hkl] at hx; exact Option.some.inj hx
 rw [set_next hl hk, List.take_succ_eq_append_getElem hkl, List.flatMap_append, hx']
 simp [u32c]
theorem ge_newF {w0 w : World} {L : PL} (hS : Stp (fun _ => False) w0 w (lookM (den (fun _ => False) w0 L))) (k : Nat) {g : Nat} {T : TypeId} {cs : Array Value} (h : lookP L k = some (.blk g T cs) := by kernel_rfl) : w0.heap.size ≤ g :=
 (hS.lt k _ (by rw [lookM_den, h]; rfl) g rfl).2.resolve_right id
section
variable {w0 : World}
def cpw (k : Nat) (A : Option Addr) (n c : Nat) (xs : List Value) : Step Tryz.prog (fun _ => False) w0 where
 rd := []
 wr := [k]
 skip := false
 must := true
 V _ _ := .int .i64 (n : Nat)
 W i _ := match i.ps with
  | [some (.blk g T _)] => [some (.blk g T xs.toArray)]
  | _ => []
 chk i := match i.ps, i.vals, cpT i.o.op with
  | [some (.blk g T cs)], [y, x], some (t, t') => [(.v y, .v (.slice (some ⟨g, 0, none⟩) n n)), (.v x, .v (.slice A n c)), (.n t, .n 27)]
  | _, _, _ => no
 pre i := match i.ps with
  | [some (.blk g T cs)] => Reads w0 w0.heap.size 1 A n xs ∧ cs.size = n ∧ (∀ u ∈ xs, u.oneCell' = true)
  | _ => True
 ok _ i L a w K Q hc hp hs hv hL hS hK := by
  obtain ⟨o, sem, vals, ps⟩ := i
  have hp0 := hp rfl
  clear hp
  revert hc hK hs hv hL hp0
  simp only
  split
  ·rename_i g T cs y x t t' hop
   intro hc hs hv hL hK hp
   have h1 := hc _ (List.mem_cons_self ..)
   have h2 := hc _ (List.mem_cons_of_mem _ (List.mem_cons_self ..))
   have h3 := hc _ (List.mem_cons_of_mem _ (List.mem_cons_of_mem _ (List.mem_singleton.2 rfl)))
   injection h1 with h1
   injection h2 with h2
   injection h3 with h3
   subst h1 h2 h3
   simp only [List.nil_append, List.map_cons, List.map_nil, List.cons.injEq] at hL
   have hM : lookM (den (fun _ => False) w0 L) k = some (ckB g T cs) := by rw [lookM_den, ← hL.1]; rfl
   have hb : Blk w g T cs := hS.blk k (by unfold restr; rw [show hasN ([] ++ [k]) k = true by simp [hasN]]; exact hM)
   obtain ⟨hr, hsz, h1⟩ := hp
   replace hr := hr.below hS.below
   have hxl : xs.length = n := by have := hr.1; omega
   have hs1 : (Tryz.prog.info? 22).map (·.size) = some 1 := by kernel_rfl
   have key : ∃ w', (Builtin.copy_ #[27, t'] o.type #[.slice (some ⟨g, 0, none⟩) n n, .slice A n c]).run Tryz.prog w = .ok (.int .i64 (n : Nat)) w' ∧ Blk w' g T xs.toArray ∧ w.grownBy w' (some g) := by
    by_cases h0 : n = 0
    ·have hx : xs = [] := List.eq_nil_of_length_eq_zero (by omega)
     have hcs : cs = #[] := Array.eq_empty_of_size_eq_zero (by omega)
     refine ⟨w, ?_, by rw [hx, ← hcs]; exact hb, World.grownBy.refl w _⟩
     rw [run_copy_none (P := Tryz.prog) w _ _ _ 22 _ _ _ _ _ _ Tryz.underlying27 hs1 (by rw [h0]; rfl), h0]
     rfl
    ·obtain ⟨ad, rfl, _, hcell⟩ := hr.2 (by omega)
     have hrun := run_copy_row (P := Tryz.prog) w 27 t' o.type 22 g 0 n n ad n c cs T xs Tryz.underlying27 hs1 hb (by rw [hxl]; exact (Nat.min_self n).symm) hcell (by omega) h1
     have he : (cs.toList.take 0 ++ xs ++ cs.toList.drop (0 + xs.length)).toArray = xs.toArray := by
      rw [List.take_zero, List.nil_append, Nat.zero_add, hxl, List.drop_of_length_le (by simp [hsz]), List.append_nil]
     rw [he, hxl] at hrun
     exact ⟨_, hrun, setRow_heap w g cs xs.toArray T _ hb, ⟨rfl, rfl, rfl, by simp, fun k _ hk => setRow_other w g k _ fun e => hk (by rw [e])⟩⟩
   obtain ⟨w', hrun, hb', hg⟩ := key
   refine exec_wp (cp_exec hop hv hrun) (hK pay0 w' ?_)
   exact stp_one k _ (.inr ⟨g, ⟨k, List.mem_singleton.2 rfl, _, hM, rfl⟩, hg⟩) hb' fun y hy => by
    have : y = g := hy
    subst this
    exact ⟨hb'.lt, .inr ⟨k, List.mem_singleton.2 rfl, _, hM, rfl⟩⟩
  ·intro hc; exact no_false hc
def mkc (kd : IntKind) (k base : Nat) {t e : TypeId} {z : Value} {sz by_ : Nat} (hE : Elem Tryz.prog t e z sz by_) (m : Nat) : Step Tryz.prog (fun _ => False) w0 where
 rd := []
 wr := [k]
 skip := false
 must := true
 V i x := .slice (some ⟨x.g, 0, none⟩) 0 m
 W i x := [some (.row base e sz (.slice (some ⟨x.g, 0, none⟩) 0 m) 0 [])]
 chk i := match i.o.op, i.vals with
  | .makeSlice t' _ _, [n, m'] => [(.n t', .n t), (.v n, .v (.int kd ((0 : Nat) : Int))), (.v m', .v (.int kd (m : Nat)))]
  | _, _ => no
 pre i := m * by_ ≤ 140737488355328 ∧ m ≤ 140737488355328 ∧ base ≤ w0.heap.size ∧ z.cells.size = sz
 ok _ i L a w K Q hc hp hs hv hL hS hK := by
  obtain ⟨o, sem, vals, ps⟩ := i
  have hp0 := hp rfl
  clear hp
  revert hc hK hs hv hL
  simp only
  split
  ·rename_i t' x y n m' ho
   intro hc hs hv hL hK
   have h1 := hc _ (List.mem_cons_self ..)
   have h2 := hc _ (List.mem_cons_of_mem _ (List.mem_cons_self ..))
   have h3 := hc _ (List.mem_cons_of_mem _ (List.mem_cons_of_mem _ (List.mem_singleton.2 rfl)))
   injection h1 with h1
   injection h2 with h2
   injection h3 with h3
   subst h1 h2 h3
   have hxv : a.eval x = .int kd ((0 : Nat) : Int) ∧ a.eval y = .int kd (m : Nat) := by simpa [ho, Op.operands] using hv
   obtain ⟨hp1, hp2, hp3, hp4⟩ := hp0
   obtain ⟨i, hi, hz, hsz, hby⟩ := info_parts hE.info
   have hr := run_make (P := Tryz.prog) w t' e i z hE.und hi hz kd kd (0 : Nat) (m : Nat) (by omega) (by omega) (by rw [hby, Int.mul_comm]; have : ((m * by_ : Nat) : Int) = (m : Int) * (by_ : Int) := Int.natCast_mul m by_; omega) (by omega)
   rw [hsz, Int.toNat_natCast] at hr
   have hown := own_made w (madeCells z.cells (m * sz)) e m sz rfl (by unfold maxLen; omega) (by simp [madeCells])
   refine exec_wp (w' := w.alloc (.cells (madeCells z.cells (m * sz)) e)) ?_ (hK ⟨w.heap.size, 0, undef, none⟩ _ (stp_row k (own_base hown (by have := hS.size; omega)) (.inl (World.grownBy_alloc w _ none)) fun g hg => .inl (by injection hg with hg; subst hg; exact Nat.le_refl _)))
   simp only [execOp, ho, hxv.1, hxv.2, Sem.run_bind, hr]
   rfl
  ·intro hc; exact no_false hc
end
theorem dst_7 (DD : Nat → Prop) (s m : Int) (g : Nat) (w : World) (hb : Blk w g 178 #[.int .u32 s, .int .u32 m]) :
  Calls Tryz.prog 150 #[.pointer (some ⟨g, 0, none⟩)] w (U32Out DD w [m]) := by
 refine go_in Tryz.func150 rfl Tryz.ntmps150 [pt g 0] fun a hE => ?_
 have hS := stp_in w
 have hS := stp_oldB hS 101 hb
 refine rg hE hS [pu] (fun _ => kp [(2, .slice none 0 0)]) kP0 fun _ a u hE hS => ?_
 refine rg hE hS [pu, pu, pu, lo 101 1, nw 104, pu] (fun p2 => kp [(2, sv (p2 4).g 0 1 1)]) (fun p2 => kP [(104, some (.blk (p2 4).g 22 #[.int .u32 m]))]) fun p2 a u hE hS => ?_
 refine wp_ret ?_
 have hrow := blk_rows (B := w.heap.size) (size := 1) (n := 1) (pcB (g := (p2 4).g) (T := 22) (cs := #[.int .u32 m]) hS 104) (ge_newF (g := (p2 4).g) (T := 22) (cs := #[.int .u32 m]) hS 104) rfl
 exact ret1 hE Tryz.results150 (.slice (some ⟨(p2 4).g, 0, none⟩) 1 1) ⟨_, 1, 1, rfl, R32.new hrow, hS.below⟩

theorem dst_9 (DD : Nat → Prop) (s m : Int) (g : Nat) (w : World) (hb : Blk w g 183 #[.int .u32 s, .int .u32 m]) :
  Calls Tryz.prog 159 #[.pointer (some ⟨g, 0, none⟩)] w (U32Out DD w [m]) := by
 refine go_in Tryz.func159 rfl Tryz.ntmps159 [pt g 0] fun a hE => ?_
 have hS := stp_in w
 have hS := stp_oldB hS 101 hb
 refine rg hE hS [pu] (fun _ => kp [(2, .slice none 0 0)]) kP0 fun _ a u hE hS => ?_
 refine rg hE hS [pu, pu, pu, lo 101 1, nw 104, pu] (fun p2 => kp [(2, sv (p2 4).g 0 1 1)]) (fun p2 => kP [(104, some (.blk (p2 4).g 22 #[.int .u32 m]))]) fun p2 a u hE hS => ?_
 refine wp_ret ?_
 have hrow := blk_rows (B := w.heap.size) (size := 1) (n := 1) (pcB (g := (p2 4).g) (T := 22) (cs := #[.int .u32 m]) hS 104) (ge_newF (g := (p2 4).g) (T := 22) (cs := #[.int .u32 m]) hS 104) rfl
 exact ret1 hE Tryz.results159 (.slice (some ⟨(p2 4).g, 0, none⟩) 1 1) ⟨_, 1, 1, rfl, R32.new hrow, hS.below⟩

theorem dst_6 (DD : Nat → Prop) (s m : Int) (v : Value) (g : Nat) (w : World) (hb : Blk w g 173 #[.int .u32 s, .int .u32 m, v]) :
  Calls Tryz.prog 147 #[.pointer (some ⟨g, 0, none⟩)] w (U32Out DD w [m]) := by
 refine go_in Tryz.func147 rfl Tryz.ntmps147 [pt g 0] fun a hE => ?_
 have hS := stp_in w
 have hS := stp_oldB hS 101 hb
 refine rg hE hS [pu] (fun _ => kp [(2, .slice none 0 0)]) kP0 fun _ a u hE hS => ?_
 refine rg hE hS [pu, pu, pu, lo 101 1, nw 104, pu] (fun p2 => kp [(2, sv (p2 4).g 0 1 1)]) (fun p2 => kP [(104, some (.blk (p2 4).g 22 #[.int .u32 m]))]) fun p2 a u hE hS => ?_
 refine wp_ret ?_
 have hrow := blk_rows (B := w.heap.size) (size := 1) (n := 1) (pcB (g := (p2 4).g) (T := 22) (cs := #[.int .u32 m]) hS 104) (ge_newF (g := (p2 4).g) (T := 22) (cs := #[.int .u32 m]) hS 104) rfl
 exact ret1 hE Tryz.results147 (.slice (some ⟨(p2 4).g, 0, none⟩) 1 1) ⟨_, 1, 1, rfl, R32.new hrow, hS.below⟩

theorem dst_10 (DD : Nat → Prop) (s m : Int) (v : Value) (g : Nat) (w : World) (hb : Blk w g 186 #[.int .u32 s, .int .u32 m, v]) :
  Calls Tryz.prog 162 #[.pointer (some ⟨g, 0, none⟩)] w (U32Out DD w [m]) := by
 refine go_in Tryz.func162 rfl Tryz.ntmps162 [pt g 0] fun a hE => ?_
 have hS := stp_in w
 have hS := stp_oldB hS 101 hb
 refine rg hE hS [pu] (fun _ => kp [(2, .slice none 0 0)]) kP0 fun _ a u hE hS => ?_
 refine rg hE hS [pu, pu, pu, lo 101 1, nw 104, pu] (fun p2 => kp [(2, sv (p2 4).g 0 1 1)]) (fun p2 => kP [(104, some (.blk (p2 4).g 22 #[.int .u32 m]))]) fun p2 a u hE hS => ?_
 refine wp_ret ?_
 have hrow := blk_rows (B := w.heap.size) (size := 1) (n := 1) (pcB (g := (p2 4).g) (T := 22) (cs := #[.int .u32 m]) hS 104) (ge_newF (g := (p2 4).g) (T := 22) (cs := #[.int .u32 m]) hS 104) rfl
 exact ret1 hE Tryz.results162 (.slice (some ⟨(p2 4).g, 0, none⟩) 1 1) ⟨_, 1, 1, rfl, R32.new hrow, hS.below⟩

theorem dst_5 (DD : Nat → Prop) (v0 v2 v3 : Value) (s : Int) (w : World) :
  Calls Tryz.prog 175 #[.agg #[v0, .int .u32 s, v2, v3]] w (U32Out DD w [s]) := by
 refine go_in Tryz.func175 rfl Tryz.ntmps175 [.agg #[v0, .int .u32 s, v2, v3]] fun a hE => ?_
 have hS := stp_in w
 refine rg hE hS [nw 101, pu] (fun p1 => kp [(1, pt (p1 0).g 0), (2, .slice none 0 0)]) (fun p1 => kP [(101, some (.blk (p1 0).g 170 #[v0, .int .u32 s, v2, v3]))]) fun p1 a u hE hS => ?_
 refine rg hE hS [pu, ld 101, nw 104, pu] (fun p2 => kp [(2, sv (p2 2).g 0 1 1)]) (fun p2 => kP [(104, some (.blk (p2 2).g 22 #[.int .u32 s]))]) fun p2 a u hE hS => ?_
 refine wp_ret ?_
 have hrow := blk_rows (B := w.heap.size) (size := 1) (n := 1) (pcB (g := (p2 2).g) (T := 22) (cs := #[.int .u32 s]) hS 104) (ge_newF (g := (p2 2).g) (T := 22) (cs := #[.int .u32 s]) hS 104) rfl
 exact ret1 hE Tryz.results175 (.slice (some ⟨(p2 2).g, 0, none⟩) 1 1) ⟨_, 1, 1, rfl, R32.new hrow, hS.below⟩

theorem dst_13 (DD : Nat → Prop) (v0 v1 v2 v3 v4 v6 v7 v8 v9 v10 v11 : Value) (m : Int) (w : World) :
  Calls Tryz.prog 179 #[.agg #[v0, v1, v2, v3, v4, .int .u32 m, v6, v7, v8, v9, v10, v11]] w (U32Out DD w [m]) := by
 refine go_in Tryz.func179 rfl Tryz.ntmps179 [.agg #[v0, v1, v2, v3, v4, .int .u32 m, v6, v7, v8, v9, v10, v11]] fun a hE => ?_
 have hS := stp_in w
 refine rg hE hS [nw 101, pu] (fun p1 => kp [(1, pt (p1 0).g 0), (2, .slice none 0 0)]) (fun p1 => kP [(101, some (.blk (p1 0).g 238 #[v0, v1, v2, v3, v4, .int .u32 m, v6, v7, v8, v9, v10, v11]))]) fun p1 a u hE hS => ?_
 refine rg hE hS [pu, ld 101, nw 104, pu] (fun p2 => kp [(2, sv (p2 2).g 0 1 1)]) (fun p2 => kP [(104, some (.blk (p2 2).g 22 #[.int .u32 m]))]) fun p2 a u hE hS => ?_
 refine wp_ret ?_
 have hrow := blk_rows (B := w.heap.size) (size := 1) (n := 1) (pcB (g := (p2 2).g) (T := 22) (cs := #[.int .u32 m]) hS 104) (ge_newF (g := (p2 2).g) (T := 22) (cs := #[.int .u32 m]) hS 104) rfl
 exact ret1 hE Tryz.results179 (.slice (some ⟨(p2 2).g, 0, none⟩) 1 1) ⟨_, 1, 1, rfl, R32.new hrow, hS.below⟩

theorem dst_12 (DD : Nat → Prop) (s : Int) (v : Value) (A : Option Addr) (n c : Nat) (ds : List Int) (g : Nat) (w : World) (hb : Blk w g 196 #[.int .u32 s, v, .slice A n c]) (hr : R32 w DD A n (ds.flatMap u32c)) :
  Calls Tryz.prog 168 #[.pointer (some ⟨g, 0, none⟩)] w (U32Out DD w ds) := by
 refine go_in Tryz.func168 rfl Tryz.ntmps168 [pt g 0] fun a hE => ?_
 have hS := stp_in w
 have hS := stp_oldB hS 101 hb
 refine rg hE hS [pu] (fun _ => kp [(2, .slice none 0 0)]) kP0 fun _ a u hE hS => ?_
 refine rg hE hS [pu, pu, pu, lo 101 2, pu] (fun _ => kp [(2, .slice A n c)]) kP0 fun _ a u hE hS => ?_
 refine wp_ret ?_
 exact ret1 hE Tryz.results168 (.slice A n c) ⟨_, n, c, rfl, R32.below hr hS.below, hS.below⟩

theorem dst_1 (DD : Nat → Prop) (s : Int) (v1 v2 v3 v4 v6 : Value) (A : Option Addr) (c : Nat) (l : List Rep) (g : Nat) (w : World) (hb : Blk w g 162 #[.int .u32 s, v1, v2, v3, v4, .slice A (l.length : Nat) c, v6]) (hr : Reads w w.heap.size 7 A l.length (l.flatMap Rep.cells)) (hl : l.length ≤ 1048576) :
  Calls Tryz.prog 130 #[.pointer (some ⟨g, 0, none⟩)] w (U32Out DD w (l.map Rep.ssrc ++ [s])) := by
 refine go_in Tryz.func130 rfl Tryz.ntmps130 [pt g 0] fun a hE => ?_
 have hS := stp_in w
 have hS := stp_oldB hS 101 hb
 obtain ⟨ds, hds⟩ : ∃ ds : List Int, ds = l.map Rep.ssrc ++ [s] := ⟨_, rfl⟩
 rw [← hds]
 have hn : ds.length = l.length + 1 := by rw [hds]; simp
 refine rg hE hS [pu] (fun _ => kp [(2, .slice none 0 0)]) kP0 fun _ a u hE hS => ?_
 refine rgp hE hS [pu, pu, pu, lo 101 5, pu, pe (.int .i64 ((l.length + 1 : Nat) : Int)), mks .i64 104 elem32 (l.length + 1) (dstC ds (l.length + 1) 0), pu] (fun p2 => kp [(3, sv (p2 6).g 0 (l.length + 1) (l.length + 1))]) (fun p2 => kP [(104, some (.blk (p2 6).g 22 ((dstC ds (l.length + 1) 0))))]) (fun _ => ⟨kr (ciV (show IntKind.i64.wrap (((l.length : Nat) : Int) + (1 : Int)) = ((l.length + 1 : Nat) : Int) from by rw [wiV _ (by omega)]; omega)), kr (show (l.length + 1) * 4 ≤ 140737488355328 ∧ (l.length + 1) ≤ 140737488355328 ∧ madeCells (Value.int .u32 0).cells ((l.length + 1) * 1) = dstC ds (l.length + 1) 0 from ⟨by omega, by omega, dstC_zero ds (l.length + 1)⟩), trivial⟩) fun p2 a u hE hS => ?_
 refine wp_seq ?_
 refine rg hE hS [pu, pu, pu, lo 101 5, pu, pu] (fun _ => kn [(16, .slice A (l.length : Nat) c), (17, .int .i64 (l.length : Nat)), (18, .int .i64 0)] [0, 2, 3]) (fun _ => kN [] [104, 101]) fun _ a u hE hS => ?_
 refine range_up hE hS 18 l.length (fun _ _ => kd [18, 19, 28] []) (fun k x => kP [(104, some (.blk (p2 6).g 22 ((dstC ds (l.length + 1) k))))]) (fun k (x : Unit) => True) () (by omega) (trivial) (fun k x a u hk hI hE hS K hK RK hRK => ?_) fun _ a u hI hE hS => ?_
 ·obtain hk1 := hI
  have hS := stp_el hS 90 (el_at hr (fun _ _ => rfl) rfl (fun g hg => ⟨hg, id⟩) k hk (by omega))
  generalize hrk : l[k] = r at hS
  have hdk : ds[k]? = some r.ssrc := by rw [hds]; simp [List.getElem?_append_left, List.getElem?_append_right, hk, hrk]
  refine rgp hE hS [pu, ie 90, le 90 0, nw 91, pu, st 91] (fun p4 => kp [(5, pt (p4 3).g 0), (4, .int .i64 (k : Nat))]) (fun p4 => kP [(91, some (.blk (p4 3).g 221 (Rep.cells r).toArray))]) (fun _ => ⟨kr (show k < l.length from hk), trivial⟩) fun p4 a u hE hS => ?_
  refine rgE hE hS [pu, pu, pu, ld 91, ix, sx 104 (dstC ds (l.length + 1) (k + 1))] kp0 (fun _ => kP [(104, some (.blk (p2 6).g 22 ((dstC ds (l.length + 1) (k + 1)))))]) (fun _ => ⟨kr (show k < l.length + 1 by omega), kr (show 0 + k * 1 + 1 ≤ (dstC ds (l.length + 1) k).size ∧ (dstC ds (l.length + 1) k).setIfInBounds (0 + k * 1) (.int .u32 r.ssrc) = dstC ds (l.length + 1) (k + 1) from dstC_next hn (by omega) hdk), trivial⟩) fun _ a u hE hS => ?_
  exact hK () a u _ _ trivial hE hS (by kernel_rfl)
 refine dgp hE hS [pu, pu, pu, pu, lo 101 5, pu, pu, pu, pu, lo 101 0, ix, sx 104 (dstC ds (l.length + 1) (l.length + 1))] kp0 (fun _ => kP [(104, some (.blk (p2 6).g 22 ((dstC ds (l.length + 1) (l.length + 1)))))]) (fun _ => ⟨kr (show l.length < l.length + 1 by omega), kr (show 0 + l.length * 1 + 1 ≤ (dstC ds (l.length + 1) l.length).size ∧ (dstC ds (l.length + 1) l.length).setIfInBounds (0 + l.length * 1) (.int .u32 s) = dstC ds (l.length + 1) (l.length + 1) from dstC_next hn (by omega) (by rw [hds]; simp)), trivial⟩) fun _ a u hE hS => ?_
 refine rg hE hS [pu, pu] (fun _ => kp [(2, sv (p2 6).g 0 (l.length + 1) (l.length + 1))]) kP0 fun _ a u hE hS => ?_
 refine wp_ret ?_
 have hrow := blk_rows (B := w.heap.size) (size := 1) (n := (l.length + 1)) (pcB (g := (p2 6).g) (T := 22) (cs := (dstC ds (l.length + 1) (l.length + 1))) hS 104) (ge_newF (g := (p2 6).g) (T := 22) (cs := (dstC ds (l.length + 1) (l.length + 1))) hS 104) (by rw [dstC_len hn (Nat.le_refl _), Nat.mul_one])
 rw [dstC_all hn] at hrow
 exact ret1 hE Tryz.results130 (.slice (some ⟨(p2 6).g, 0, none⟩) (l.length + 1) (l.length + 1)) ⟨_, (l.length + 1), (l.length + 1), rfl, R32.new hrow, hS.below⟩

theorem dst_2 (DD : Nat → Prop) (v0 v2 : Value) (A : Option Addr) (c : Nat) (l : List Rep) (g : Nat) (w : World) (hb : Blk w g 164 #[v0, .slice A (l.length : Nat) c, v2]) (hr : Reads w w.heap.size 7 A l.length (l.flatMap Rep.cells)) (hl : l.length ≤ 1048576) :
  Calls Tryz.prog 136 #[.pointer (some ⟨g, 0, none⟩)] w (U32Out DD w (l.map Rep.ssrc)) := by
 refine go_in Tryz.func136 rfl Tryz.ntmps136 [pt g 0] fun a hE => ?_
 have hS := stp_in w
 have hS := stp_oldB hS 101 hb
 obtain ⟨ds, hds⟩ : ∃ ds : List Int, ds = l.map Rep.ssrc := ⟨_, rfl⟩
 rw [← hds]
 have hn : ds.length = l.length := by rw [hds]; simp
 refine rg hE hS [pu] (fun _ => kp [(2, .slice none 0 0)]) kP0 fun _ a u hE hS => ?_
 refine rgp hE hS [pu, pu, pu, lo 101 1, pu, mks .i64 104 elem32 l.length (dstC ds l.length 0), pu] (fun p2 => kp [(3, sv (p2 5).g 0 l.length l.length)]) (fun p2 => kP [(104, some (.blk (p2 5).g 22 (dstC ds l.length 0)))]) (fun _ => ⟨kr (show l.length * 4 ≤ 140737488355328 ∧ l.length ≤ 140737488355328 ∧ madeCells (Value.int .u32 0).cells (l.length * 1) = dstC ds l.length 0 from ⟨by omega, by omega, dstC_zero ds l.length⟩), trivial⟩) fun p2 a u hE hS => ?_
 refine wp_seq ?_
 refine rg hE hS [pu, pu, pu, lo 101 1, pu, pu] (fun _ => kn [(15, .slice A (l.length : Nat) c), (16, .int .i64 (l.length : Nat)), (17, .int .i64 0)] [2, 3]) (fun _ => kN [] [104, 101]) fun _ a u hE hS => ?_
 refine range_up hE hS 17 l.length (fun _ _ => kd [17, 18, 27] []) (fun k x => kP [(104, some (.blk (p2 5).g 22 (dstC ds l.length k)))]) (fun k (x : Unit) => True) () (by omega) (trivial) (fun k x a u hk hI hE hS K hK RK hRK => ?_) fun _ a u hI hE hS => ?_
 ·obtain hk1 := hI
  have hS := stp_el hS 90 (el_at hr (fun _ _ => rfl) rfl (fun g hg => ⟨hg, id⟩) k hk (by omega))
  generalize hrk : l[k] = r at hS
  have hdk : ds[k]? = some r.ssrc := by rw [hds]; simp [List.getElem?_append_left, List.getElem?_append_right, hk, hrk]
  refine rgp hE hS [pu, ie 90, le 90 0, nw 91, pu, st 91] (fun p4 => kp [(5, pt (p4 3).g 0), (4, .int .i64 (k : Nat))]) (fun p4 => kP [(91, some (.blk (p4 3).g 221 (Rep.cells r).toArray))]) (fun _ => ⟨kr (show k < l.length from hk), trivial⟩) fun p4 a u hE hS => ?_
  refine rgE hE hS [pu, pu, pu, ld 91, ix, sx 104 (dstC ds l.length (k + 1))] kp0 (fun _ => kP [(104, some (.blk (p2 5).g 22 ((dstC ds l.length (k + 1)))))]) (fun _ => ⟨kr (show k < l.length by omega), kr (show 0 + k * 1 + 1 ≤ (dstC ds l.length k).size ∧ (dstC ds l.length k).setIfInBounds (0 + k * 1) (.int .u32 r.ssrc) = dstC ds l.length (k + 1) from dstC_next hn (by omega) hdk), trivial⟩) fun _ a u hE hS => ?_
  exact hK () a u _ _ trivial hE hS (by kernel_rfl)
 refine rg hE hS [pu, pu] (fun _ => kp [(2, sv (p2 5).g 0 l.length l.length)]) kP0 fun _ a u hE hS => ?_
 refine wp_ret ?_
 have hrow := blk_rows (B := w.heap.size) (size := 1) (n := l.length) (pcB (g := (p2 5).g) (T := 22) (cs := (dstC ds l.length l.length)) hS 104) (ge_newF (g := (p2 5).g) (T := 22) (cs := (dstC ds l.length l.length)) hS 104) (by rw [dstC_len hn (Nat.le_refl _), Nat.mul_one])
 rw [dstC_all hn] at hrow
 exact ret1 hE Tryz.results136 (.slice (some ⟨(p2 5).g, 0, none⟩) l.length l.length) ⟨_, l.length, l.length, rfl, R32.new hrow, hS.below⟩

theorem dst_3 (DD : Nat → Prop) (A : Option Addr) (c : Nat) (l : List Chunk) (g : Nat) (w : World) (hb : Blk w g 202 #[.slice A (l.length : Nat) c]) (hr : Reads w w.heap.size 2 A l.length (l.flatMap Chunk.cells)) (hl : l.length ≤ 1048576) :
  Calls Tryz.prog 139 #[.pointer (some ⟨g, 0, none⟩)] w (U32Out DD w (l.map Chunk.src)) := by
 refine go_in Tryz.func139 rfl Tryz.ntmps139 [pt g 0] fun a hE => ?_
 have hS := stp_in w
 have hS := stp_oldB hS 101 hb
 obtain ⟨ds, hds⟩ : ∃ ds : List Int, ds = l.map Chunk.src := ⟨_, rfl⟩
 rw [← hds]
 have hn : ds.length = l.length := by rw [hds]; simp
 refine rg hE hS [pu] (fun _ => kp [(2, .slice none 0 0)]) kP0 fun _ a u hE hS => ?_
 refine rgp hE hS [pu, pu, pu, lo 101 0, pu, mks .i64 104 elem32 l.length (dstC ds l.length 0), pu] (fun p2 => kp [(3, sv (p2 5).g 0 l.length l.length)]) (fun p2 => kP [(104, some (.blk (p2 5).g 22 (dstC ds l.length 0)))]) (fun _ => ⟨kr (show l.length * 4 ≤ 140737488355328 ∧ l.length ≤ 140737488355328 ∧ madeCells (Value.int .u32 0).cells (l.length * 1) = dstC ds l.length 0 from ⟨by omega, by omega, dstC_zero ds l.length⟩), trivial⟩) fun p2 a u hE hS => ?_
 refine wp_seq ?_
 refine rg hE hS [pu, pu, pu, lo 101 0, pu, pu] (fun _ => kn [(15, .slice A (l.length : Nat) c), (16, .int .i64 (l.length : Nat)), (17, .int .i64 0)] [2, 3]) (fun _ => kN [] [104, 101]) fun _ a u hE hS => ?_
 refine range_up hE hS 17 l.length (fun _ _ => kd [17, 18, 27] []) (fun k x => kP [(104, some (.blk (p2 5).g 22 (dstC ds l.length k)))]) (fun k (x : Unit) => True) () (by omega) (trivial) (fun k x a u hk hI hE hS K hK RK hRK => ?_) fun _ a u hI hE hS => ?_
 ·obtain hk1 := hI
  have hS := stp_el hS 90 (el_at hr (fun _ _ => rfl) rfl (fun g hg => ⟨hg, id⟩) k hk (by omega))
  generalize hrk : l[k] = r at hS
  have hdk : ds[k]? = some r.src := by rw [hds]; simp [List.getElem?_append_left, List.getElem?_append_right, hk, hrk]
  refine rgp hE hS [pu, ie 90, le 90 0, nw 91, pu, st 91] (fun p4 => kp [(5, pt (p4 3).g 0), (4, .int .i64 (k : Nat))]) (fun p4 => kP [(91, some (.blk (p4 3).g 224 (Chunk.cells r).toArray))]) (fun _ => ⟨kr (show k < l.length from hk), trivial⟩) fun p4 a u hE hS => ?_
  refine rgE hE hS [pu, pu, pu, ld 91, ix, sx 104 (dstC ds l.length (k + 1))] kp0 (fun _ => kP [(104, some (.blk (p2 5).g 22 ((dstC ds l.length (k + 1)))))]) (fun _ => ⟨kr (show k < l.length by omega), kr (show 0 + k * 1 + 1 ≤ (dstC ds l.length k).size ∧ (dstC ds l.length k).setIfInBounds (0 + k * 1) (.int .u32 r.src) = dstC ds l.length (k + 1) from dstC_next hn (by omega) hdk), trivial⟩) fun _ a u hE hS => ?_
  exact hK () a u _ _ trivial hE hS (by kernel_rfl)
 refine rg hE hS [pu, pu] (fun _ => kp [(2, sv (p2 5).g 0 l.length l.length)]) kP0 fun _ a u hE hS => ?_
 refine wp_ret ?_
 have hrow := blk_rows (B := w.heap.size) (size := 1) (n := l.length) (pcB (g := (p2 5).g) (T := 22) (cs := (dstC ds l.length l.length)) hS 104) (ge_newF (g := (p2 5).g) (T := 22) (cs := (dstC ds l.length l.length)) hS 104) (by rw [dstC_len hn (Nat.le_refl _), Nat.mul_one])
 rw [dstC_all hn] at hrow
 exact ret1 hE Tryz.results139 (.slice (some ⟨(p2 5).g, 0, none⟩) l.length l.length) ⟨_, l.length, l.length, rfl, R32.new hrow, hS.below⟩

theorem dst_8 (DD : Nat → Prop) (s t : Int) (A : Option Addr) (c : Nat) (l : List Blo) (w : World) (hr : Reads w w.heap.size 3 A l.length (l.flatMap Blo.cells)) (hl : l.length ≤ 1048576) :
  Calls Tryz.prog 153 #[.agg #[.int .u32 s, .slice A (l.length : Nat) c, .int .u32 t]] w (U32Out DD w (l.map Blo.media)) := by
 refine go_in Tryz.func153 rfl Tryz.ntmps153 [.agg #[.int .u32 s, .slice A (l.length : Nat) c, .int .u32 t]] fun a hE => ?_
 have hS := stp_in w
 obtain ⟨ds, hds⟩ : ∃ ds : List Int, ds = l.map Blo.media := ⟨_, rfl⟩
 rw [← hds]
 have hn : ds.length = l.length := by rw [hds]; simp
 refine rg hE hS [nw 101, pu] (fun p1 => kp [(1, pt (p1 0).g 0), (2, .slice none 0 0)]) (fun p1 => kP [(101, some (.blk (p1 0).g 182 #[.int .u32 s, .slice A (l.length : Nat) c, .int .u32 t]))]) fun p1 a u hE hS => ?_
 refine rgp hE hS [pu, ld 101, pu, mks .i64 104 elem32 l.length (dstC ds l.length 0), pu] (fun p2 => kp [(3, sv (p2 3).g 0 l.length l.length)]) (fun p2 => kP [(104, some (.blk (p2 3).g 22 (dstC ds l.length 0)))]) (fun _ => ⟨kr (show l.length * 4 ≤ 140737488355328 ∧ l.length ≤ 140737488355328 ∧ madeCells (Value.int .u32 0).cells (l.length * 1) = dstC ds l.length 0 from ⟨by omega, by omega, dstC_zero ds l.length⟩), trivial⟩) fun p2 a u hE hS => ?_
 refine wp_seq ?_
 refine rg hE hS [pu, ld 101, pu, pu] (fun _ => kn [(11, .slice A (l.length : Nat) c), (12, .int .i64 (l.length : Nat)), (13, .int .i64 0)] [2, 3]) (fun _ => kN [] [104, 101]) fun _ a u hE hS => ?_
 refine range_up hE hS 13 l.length (fun _ _ => kd [13, 14, 23] []) (fun k x => kP [(104, some (.blk (p2 3).g 22 (dstC ds l.length k)))]) (fun k (x : Unit) => True) () (by omega) (trivial) (fun k x a u hk hI hE hS K hK RK hRK => ?_) fun _ a u hI hE hS => ?_
 ·obtain hk1 := hI
  have hS := stp_el hS 90 (el_at hr (fun _ _ => rfl) rfl (fun g hg => ⟨hg, id⟩) k hk (by omega))
  generalize hrk : l[k] = r at hS
  have hdk : ds[k]? = some r.media := by rw [hds]; simp [List.getElem?_append_left, List.getElem?_append_right, hk, hrk]
  refine rgp hE hS [pu, ie 90, le 90 0, nw 91, pu, st 91] (fun p4 => kp [(5, pt (p4 3).g 0), (4, .int .i64 (k : Nat))]) (fun p4 => kP [(91, some (.blk (p4 3).g 230 (Blo.cells r).toArray))]) (fun _ => ⟨kr (show k < l.length from hk), trivial⟩) fun p4 a u hE hS => ?_
  refine rgE hE hS [pu, pu, pu, ld 91, ix, sx 104 (dstC ds l.length (k + 1))] kp0 (fun _ => kP [(104, some (.blk (p2 3).g 22 ((dstC ds l.length (k + 1)))))]) (fun _ => ⟨kr (show k < l.length by omega), kr (show 0 + k * 1 + 1 ≤ (dstC ds l.length k).size ∧ (dstC ds l.length k).setIfInBounds (0 + k * 1) (.int .u32 r.media) = dstC ds l.length (k + 1) from dstC_next hn (by omega) hdk), trivial⟩) fun _ a u hE hS => ?_
  exact hK () a u _ _ trivial hE hS (by kernel_rfl)
 refine rg hE hS [pu, pu] (fun _ => kp [(2, sv (p2 3).g 0 l.length l.length)]) kP0 fun _ a u hE hS => ?_
 refine wp_ret ?_
 have hrow := blk_rows (B := w.heap.size) (size := 1) (n := l.length) (pcB (g := (p2 3).g) (T := 22) (cs := (dstC ds l.length l.length)) hS 104) (ge_newF (g := (p2 3).g) (T := 22) (cs := (dstC ds l.length l.length)) hS 104) (by rw [dstC_len hn (Nat.le_refl _), Nat.mul_one])
 rw [dstC_all hn] at hrow
 exact ret1 hE Tryz.results153 (.slice (some ⟨(p2 3).g, 0, none⟩) l.length l.length) ⟨_, l.length, l.length, rfl, R32.new hrow, hS.below⟩

theorem dst_11 (DD : Nat → Prop) (s m : Int) (A : Option Addr) (c : Nat) (l : List Ent) (g : Nat) (w : World) (hb : Blk w g 190 #[.int .u32 s, .int .u32 m, .slice A (l.length : Nat) c]) (hr : Reads w w.heap.size 2 A l.length (l.flatMap Ent.cells)) (hl : l.length ≤ 1048576) :
  Calls Tryz.prog 165 #[.pointer (some ⟨g, 0, none⟩)] w (U32Out DD w (l.map Ent.ssrc)) := by
 refine go_in Tryz.func165 rfl Tryz.ntmps165 [pt g 0] fun a hE => ?_
 have hS := stp_in w
 have hS := stp_oldB hS 101 hb
 refine rg hE hS [pu] (fun _ => kp [(2, .slice none 0 0)]) kP0 fun _ a u hE hS => ?_
 refine rgp hE hS [pu, pu, pu, lo 101 2, pu, mkc .i64 1 w.heap.size elem32 l.length, pu] (fun p2 => kp [(3, sv (p2 5).g 0 0 l.length)]) (fun p2 => kP [(1, some (.row w.heap.size 22 1 (sv (p2 5).g 0 0 l.length) 0 ([])))]) (fun _ => ⟨kr (show l.length * 4 ≤ 140737488355328 ∧ l.length ≤ 140737488355328 ∧ w.heap.size ≤ w.heap.size ∧ (Value.int .u32 0).cells.size = 1 from ⟨by omega, by omega, Nat.le_refl _, rfl⟩), trivial⟩) fun p2 a u hE hS => ?_
 refine wp_seq ?_
 refine rg hE hS [pu, pu, pu, lo 101 2, pu, pu] (fun _ => kn [(15, .slice A (l.length : Nat) c), (16, .int .i64 (l.length : Nat)), (17, .int .i64 0)] [2, 3]) (fun _ => kN [] [1, 101]) fun _ a u hE hS => ?_
 refine range_up hE hS 17 l.length (fun _ x => kd [17, 18, 26] [(3, .slice x.p.a x.n x.p.c)]) (fun _ x => kP [(1, some (.row w.heap.size 22 1 (.slice x.p.a x.n x.p.c) x.n x.xs))]) (fun k (x : Lx Unit) => x.n = k ∧ x.xs = ((l.take k).map Ent.ssrc).flatMap u32c) ⟨⟨0, l.length, undef, some ⟨(p2 5).g, 0, none⟩⟩, 0, [], ()⟩ (by omega) (⟨rfl, by simp⟩) (fun k x a u hk hI hE hS K hK RK hRK => ?_) fun ⟨qq, n1, xs1, _⟩ a u hI hE hS => ?_
 ·obtain ⟨hk1, hk2⟩ := hI
  obtain ⟨xp, xn, xs, _⟩ := x
  simp only at hk1 hk2
  have hS := stp_el hS 90 (el_at hr (fun _ _ => rfl) rfl (fun g hg => ⟨hg, id⟩) k hk (by omega))
  generalize hrk : l[k] = r at hS
  refine rgp hE hS [ie 90, le 90 0, nw 91, st 91] (fun p4 => kp [(5, pt (p4 2).g 0)]) (fun p4 => kP [(91, some (.blk (p4 2).g 192 (Ent.cells r).toArray))]) (fun _ => ⟨kr (show k < l.length from hk), trivial⟩) fun p4 a u hE hS => ?_
  refine rgE hE hS [pu, pu, ld 91, nw 92, ap 1 [92], pu] (fun p5 => kp [(3, .slice (p5 4).a (xn + 1) (p5 4).c)]) (fun p5 => kP [(1, some (.row w.heap.size 22 1 (.slice (p5 4).a (xn + 1) (p5 4).c) (xn + 1) (xs ++ [.int .u32 r.ssrc])))]) (fun _ => ⟨kr (show w.heap.size ≤ w.heap.size ∧ (xn + 1) * 4 ≤ 140737488355328 ∧ ∀ u ∈ [Value.int .u32 r.ssrc], u.oneCell' = true from ⟨Nat.le_refl _, by omega, by intro u hu; simp at hu; rw [hu]; rfl⟩), trivial⟩) fun p5 a u hE hS => ?_
  exact hK ⟨(p5 4), xn + 1, xs ++ [.int .u32 r.ssrc], ()⟩ a u _ _ ⟨congrArg (· + 1) hk1, by show xs ++ _ = _; rw [hk2, List.take_succ_eq_append_getElem hk, List.map_append, List.flatMap_append, hrk]; simp [u32c]⟩ hE hS (by kernel_rfl)
 simp only [List.take_length] at hI
 obtain ⟨h1, h2⟩ := hI
 subst h1 h2
 refine rg hE hS [pu, pu] (fun _ => kp [(2, .slice qq.a l.length qq.c)]) kP0 fun _ a u hE hS => ?_
 refine wp_ret ?_
 have hrow := pcR (base := w.heap.size) (e := 22) (size := 1) (v := .slice qq.a l.length qq.c) (n := l.length) (xs := (l.map Ent.ssrc).flatMap u32c) hS 1
 exact ret1 hE Tryz.results165 (.slice qq.a l.length qq.c) ⟨_, l.length, _, rfl, R32.new (InRows.of_own hrow), hS.below⟩

theorem dst_4 (DD : Nat → Prop) (v : Value) (A : Option Addr) (n c : Nat) (ds : List Int) (g : Nat) (w : World) (hb : Blk w g 167 #[.slice A n c, v]) (hr : Reads w w.heap.size 1 A n (ds.flatMap u32c)) (hl : n ≤ 1048576) :
  Calls Tryz.prog 144 #[.pointer (some ⟨g, 0, none⟩)] w (U32Out DD w ds) := by
 refine go_in Tryz.func144 rfl Tryz.ntmps144 [pt g 0] fun a hE => ?_
 have hS := stp_in w
 have hS := stp_oldB hS 101 hb
 have hds : ds.length = n := by have h1 := hr.1; rw [u32c_len] at h1; omega
 refine rg hE hS [pu] (fun _ => kp [(2, .slice none 0 0)]) kP0 fun _ a u hE hS => ?_
 refine rgp hE hS [pu, pu, pu, lo 101 0, pu, mks .i64 104 elem32 n (dstC ds n 0), pu] (fun p2 => kp [(3, sv (p2 5).g 0 n n)]) (fun p2 => kP [(104, some (.blk (p2 5).g 22 (dstC ds n 0)))]) (fun _ => ⟨kr (show n * 4 ≤ 140737488355328 ∧ n ≤ 140737488355328 ∧ madeCells (Value.int .u32 0).cells (n * 1) = dstC ds n 0 from ⟨by omega, by omega, dstC_zero ds n⟩), trivial⟩) fun p2 a u hE hS => ?_
 refine rgp hE hS [pu, pu, pu, pu, lo 101 0, cpw 104 A n c (ds.flatMap u32c)] kp0 (fun _ => kP [(104, some (.blk (p2 5).g 22 (ds.flatMap u32c).toArray))]) (fun _ => ⟨kr (show Reads w w.heap.size 1 A n (ds.flatMap u32c) ∧ (dstC ds n 0).size = n ∧ ∀ u ∈ ds.flatMap u32c, u.oneCell' = true from ⟨hr, dstC_len hds (Nat.zero_le _), u32c_oneP ds⟩), trivial⟩) fun _ a u hE hS => ?_
 refine rg hE hS [pu, pu] (fun _ => kp [(2, sv (p2 5).g 0 n n)]) kP0 fun _ a u hE hS => ?_
 refine wp_ret ?_
 have hrow := blk_rows (B := w.heap.size) (size := 1) (n := n) (pcB (g := (p2 5).g) (T := 22) (cs := (ds.flatMap u32c).toArray) hS 104) (ge_newF (g := (p2 5).g) (T := 22) (cs := (ds.flatMap u32c).toArray) hS 104) (by simp only [List.size_toArray]; exact hr.1)
 exact ret1 hE Tryz.results144 (.slice (some ⟨(p2 5).g, 0, none⟩) n n) ⟨_, n, n, rfl, R32.new hrow, hS.below⟩

end Go.Proofs.YtmmfpgoodfgkbaaGreatDoor
