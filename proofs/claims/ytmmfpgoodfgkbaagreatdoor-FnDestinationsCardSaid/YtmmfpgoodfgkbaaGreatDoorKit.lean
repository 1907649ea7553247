/-
  SMALL WORDS FOR MEMORY (after the guide's own pages of lemmas to copy): a slice that reads as a list; a block known whole; append and make on a row of the call's own, in a form that takes whatever the walk shows. No condition.
-/
import Derived.WalkKit
import Derived.WalkSpells
import Derived.WalkLawsBesides
import Derived.Deep.Draws
import Derived.Deep.AppendLies
import Derived.Maps.AppendAt
import Derived.Lib.Hide
import Derived.Deep.RegionHeld3
import Derived.Deep.DeepCutAuto
import Derived.Deep.DeepMust
import Derived.Deep.DeepFit
import Derived.BigQuiet
import Derived.Deep.QuietTactic
import Derived.Deep.RegionWith
namespace Go.Proofs.YtmmfpgoodfgkbaaGreatDoor
open Go Go.RowKit

theorem block_of_add (a : Addr) (n : Nat) : (a.add n).block = a.block := by unfold Addr.add; split <;> rfl
theorem add_of_add (a : Addr) (i j : Nat) : (a.add i).add j = a.add (i + j) := by
 unfold Addr.add
 by_cases hi : i = 0 <;> by_cases hj : j = 0 <;> simp [hi, hj, Nat.add_assoc]

def Reads (w : World) (B size : Nat) (A : Option Addr) (n : Nat) (xs : List Value) : Prop :=
 xs.length = n * size ∧ (0 < n → ∃ ad, A = some ad ∧ ad.block < B ∧ ∀ j u, xs[j]? = some u → w.cell? (ad.add j) = some u)

section
variable {w w' : World} {B B' size n : Nat} {A : Option Addr} {xs : List Value}
theorem Reads.none_ : Reads w B size A 0 [] := ⟨by simp, fun h => absurd h (by omega)⟩
theorem Reads.at_ {k : Nat} (h : Reads w B 1 A n xs) (hk : k < n) : ∃ ad u, A = some ad ∧ ad.block < B ∧ xs[k]? = some u ∧ w.cell? (ad.add k) = some u := by
 obtain ⟨ad, e, hb, hc⟩ := h.2 (by omega)
 have hl : k < xs.length := by have := h.1; omega
 exact ⟨ad, xs[k], e, hb, List.getElem?_eq_getElem hl, hc k _ (List.getElem?_eq_getElem hl)⟩
theorem Reads.keep (h : Reads w B size A n xs) (hk : ∀ p : Addr, p.block < B → w'.cell? p = w.cell? p) : Reads w' B size A n xs :=
 ⟨h.1, fun hn => by
  obtain ⟨ad, e, hb, hc⟩ := h.2 hn
  exact ⟨ad, e, hb, fun j u hu => (hk _ (by rw [block_of_add]; exact hb)).trans (hc j u hu)⟩⟩
theorem Reads.more (h : Reads w B size A n xs) (hB : B ≤ B') : Reads w B' size A n xs :=
 ⟨h.1, fun hn => by
  obtain ⟨ad, e, hb, hc⟩ := h.2 hn
  exact ⟨ad, e, by omega, hc⟩⟩
theorem Reads.below (h : Reads w B size A n xs) (hb : Below B w w') : Reads w' B size A n xs := h.keep fun _ hp => hb.cell hp
theorem Reads.drew (h : Reads w B size A n xs) : Reads w.drew B size A n xs := h
theorem Reads.drewN (h : Reads w B size A n xs) (k : Nat) : Reads (w.drewN k) B size A n xs := h
theorem Reads.alloc (h : Reads w B size A n xs) (hB : B ≤ w.heap.size) (o : Obj) : Reads (w.alloc o) B size A n xs := h.keep fun p hp => World.cell?_alloc_lt w o p (by omega)
theorem Reads.setCell (h : Reads w B size A n xs) {p : Addr} (hB : B ≤ p.block) (u : Value) : Reads (w.setCell p u) B size A n xs :=
 h.keep fun q hq => World.cell?_setCell_other w p q u (fun e => by subst e; omega)
theorem Reads.grown (h : Reads w B size A n xs) {row : Option Nat} (hg : w.grownBy w' row) (hB : B ≤ w.heap.size) (hr : ∀ g, row = some g → B ≤ g) : Reads w' B size A n xs :=
 h.keep fun p hp => World.cell?_of_block (hg.block p.block (by omega) (fun e => by have := hr _ e.symm; omega))
theorem Reads.cut (h : Reads w B size A n xs) {k cap : Nat} (hk : k ≤ n) (hc : n ≤ cap) :
  Reads w B size (if cap = k then A else A.map (·.add (k * size))) (n - k) (xs.drop (k * size)) := by
 refine ⟨by rw [List.length_drop, h.1, Nat.sub_mul], fun hn => ?_⟩
 obtain ⟨ad, rfl, hb, hcell⟩ := h.2 (by omega)
 rw [if_neg (by omega)]
 refine ⟨ad.add (k * size), rfl, by rw [block_of_add]; exact hb, fun j u hu => ?_⟩
 rw [add_of_add]
 exact hcell _ u (by rw [← hu, List.getElem?_drop])
theorem Reads.of_own {base : Nat} {e : TypeId} {c : Nat} (h : w.ownsRow base e size (.slice A n c) n xs) : Reads w w.heap.size size A n xs := by
 refine ⟨h.1, fun hn => ?_⟩
 obtain ⟨g, cap, hv, _, hlt⟩ := h.form hn
 have hA : A = some ⟨g, 0, none⟩ := by injection hv
 subst hA
 exact ⟨_, rfl, hlt, h.cells (g := g) rfl⟩
end

def Blk (w : World) (g : Nat) (t : TypeId) (cs : Array Value) : Prop := w.heap[g]? = some (.cells cs t (0, 0))

section
variable {w w' : World} {g : Nat} {t : TypeId} {cs : Array Value}
theorem Blk.lt (h : Blk w g t cs) : g < w.heap.size := by
 rcases Nat.lt_or_ge g w.heap.size with hlt | hge
 ·exact hlt
 ·unfold Blk at h; rw [Array.getElem?_eq_none hge] at h; cases h
theorem Blk.cell (h : Blk w g t cs) (i : Nat) : w.cell? ⟨g, i, none⟩ = cs[i]? := cell_of_row w g i cs t (0, 0) h
theorem Blk.frozen (h : Blk w g t cs) (i : Nat) : w.frozen? ⟨g, i, none⟩ = false := by
 unfold Blk at h
 simp [World.frozen?, h]
theorem Blk.new (w : World) (t : TypeId) (cs : Array Value) : Blk (w.alloc (.cells cs t)) w.heap.size t cs := heap_alloc_new w _
theorem Blk.drew (h : Blk w g t cs) : Blk w.drew g t cs := h
theorem Blk.drewN (h : Blk w g t cs) (n : Nat) : Blk (w.drewN n) g t cs := h
theorem Blk.alloc (h : Blk w g t cs) (o : Obj) : Blk (w.alloc o) g t cs := (Below.heap_alloc w o g h.lt).trans h
theorem Blk.set_ (h : Blk w g t cs) (i : Nat) (u : Value) : Blk (w.setCell ⟨g, i, none⟩ u) g t (cs.setIfInBounds i u) := by
 unfold Blk at h ⊢
 simp [World.setCell, Array.getElem?_modify, h]
theorem Blk.below {B : Nat} (h : Blk w g t cs) (hb : Below B w w') (hg : g < B) : Blk w' g t cs := (hb.block g hg).trans h
theorem Blk.grown {row : Option Nat} (h : Blk w g t cs) (hb : w.grownBy w' row) (hg : some g ≠ row) : Blk w' g t cs := (hb.block g h.lt hg).trans h
end

section
variable {P : Program} (w : World)

theorem run_append_of_nil (base : Nat) (t ty e : TypeId) (i : TypeInfo) (size : Nat) (ht : P.underlying t = some (.slice e)) (hi : P.info? e = some i)
  (v : Value) (n : Nat) (xs : List Value) (hown : w.ownsRow base e size v n xs) (c : Nat) : (Builtin.append_ #[t, t] ty #[v, .slice none 0 c]).run P w = .ok v w := by
 rcases hown.2 with ⟨rfl, rfl⟩ | ⟨g, cap, cur, rfl, _, _, hnc, _⟩
 ·simp [Builtin.append_, run_underlying ht, sizeOf, typeInfo, hi, Builtin.lenOf, Builtin.firstCells]
 ·simp [Builtin.append_, run_underlying ht, sizeOf, typeInfo, hi, Builtin.lenOf, Builtin.firstCells, hnc, storeCells]

theorem run_append_any (base : Nat) (t ty e : TypeId) (i : TypeInfo) (z : Value) (size bytes : Nat) (ht : P.underlying t = some (.slice e)) (hi : P.info? e = some i) (hz : i.zero = some z)
  (hsize : i.size = size) (hby : i.bytes = bytes) (hzs : z.cells.size = size) (hsz : 0 < size)
  (v : Value) (n : Nat) (xs : List Value) (hown : w.ownsRow base e size v n xs)
  (B : Nat) (A : Option Addr) (m c : Nat) (news : List Value) (hr : Reads w B size A m news) (h1 : ∀ u ∈ news, u.oneCell' = true)
  (h63 : n + m ≤ maxLen) (hbytes : (n + m) * bytes ≤ 140737488355328) (hbase : base ≤ w.heap.size) :
  ∃ v' w', (Builtin.append_ #[t, t] ty #[v, .slice A m c]).run P w = .ok v' w' ∧ w'.ownsRow base e size v' (n + m) (xs ++ news) ∧ w.grownBy w' v.ownBlock ∧
   (v'.ownBlock = v.ownBlock ∨ v'.ownBlock = some w.heap.size) := by
 rcases A with _ | ad
 ·have hm : m = 0 := by
   rcases Nat.eq_zero_or_pos m with h0 | h0
   ·exact h0
   ·obtain ⟨ad, h, _⟩ := hr.2 h0
    cases h
  subst hm
  have hn : news = [] := List.eq_nil_of_length_eq_zero (by simpa using hr.1)
  subst hn
  exact ⟨v, w, run_append_of_nil w base t ty e i size ht hi v n xs hown c, by simpa using hown, World.grownBy.refl w _, .inl rfl⟩
 ·have hcells : ∀ j u, news[j]? = some u → w.cell? (ad.add j) = some u := by
   intro j u hu
   rcases Nat.eq_zero_or_pos m with h0 | h0
   ·subst h0
    have hn : news = [] := List.eq_nil_of_length_eq_zero (by simpa using hr.1)
    subst hn
    simp at hu
   ·obtain ⟨ad', h, _, hc⟩ := hr.2 h0
    injection h with h
    subst h
    exact hc j u hu
  obtain ⟨v', w', hrun, h2, h3, _, h5⟩ := run_append_own_at (P := P) w base t ty e i z size bytes ht hi hz hsize hby hzs hsz v n xs hown ad m c news hr.1 hcells h1 h63 hbytes hbase
  exact ⟨v', w', hrun, h2, h3, h5⟩

theorem wp_append_any {o : Oper} {a : Act} {K : Act → World → Prop} {Q : Exit → Act → World → Prop} (s x : Operand) (t : TypeId)
  (ho : o.op = .call { callee := .builtin .append, args := #[s, x], argTypes := #[t, t] })
  (base : Nat) (e : TypeId) (i : TypeInfo) (z : Value) (size bytes : Nat) (ht : P.underlying t = some (.slice e)) (hi : P.info? e = some i) (hz : i.zero = some z)
  (hsize : i.size = size) (hby : i.bytes = bytes) (hzs : z.cells.size = size) (hsz : 0 < size)
  (v : Value) (n : Nat) (xs : List Value) (hs : a.eval s = v) (hown : w.ownsRow base e size v n xs)
  (B : Nat) (A : Option Addr) (m c : Nat) (news : List Value) (hx : a.eval x = .slice A m c) (hr : Reads w B size A m news) (h1 : ∀ u ∈ news, u.oneCell' = true)
  (h63 : n + m ≤ maxLen) (hbytes : (n + m) * bytes ≤ 140737488355328) (hbase : base ≤ w.heap.size)
  (h : ∀ v' w', w'.ownsRow base e size v' (n + m) (xs ++ news) → w.grownBy w' v.ownBlock → (v'.ownBlock = v.ownBlock ∨ v'.ownBlock = some w.heap.size) → K (a.put o.dst v') w') : o.wp P a w K Q := by
 obtain ⟨v', w', hrun, h2, h3, h4⟩ := run_append_any (P := P) w base t o.type e i z size bytes ht hi hz hsize hby hzs hsz v n xs hown B A m c news hr h1 h63 hbytes hbase
 unfold Oper.wp execOp
 simp only [ho, resolve, invoke, builtin, Sem.run_bind, Sem.run_pure, Result.andThen_ok, List.map_toArray, List.map_cons, List.map_nil, hs, hx, hrun]
 exact h v' w' h2 h3 h4

theorem wpList_append_any {ops : Array Oper} {rest : List Oper} {o : Oper} {a : Act} {Q : Exit → Act → World → Prop} (hgd : o.guard = none) (s x : Operand) (t : TypeId)
  (ho : o.op = .call { callee := .builtin .append, args := #[s, x], argTypes := #[t, t] })
  (base : Nat) (e : TypeId) (i : TypeInfo) (z : Value) (size bytes : Nat) (ht : P.underlying t = some (.slice e)) (hi : P.info? e = some i) (hz : i.zero = some z)
  (hsize : i.size = size) (hby : i.bytes = bytes) (hzs : z.cells.size = size) (hsz : 0 < size)
  (v : Value) (n : Nat) (xs : List Value) (hs : a.eval s = v) (hown : w.ownsRow base e size v n xs)
  (B : Nat) (A : Option Addr) (m c : Nat) (news : List Value) (hx : a.eval x = .slice A m c) (hr : Reads w B size A m news) (h1 : ∀ u ∈ news, u.oneCell' = true)
  (h63 : n + m ≤ maxLen) (hbytes : (n + m) * bytes ≤ 140737488355328) (hbase : base ≤ w.heap.size)
  (h : ∀ v' w', w'.ownsRow base e size v' (n + m) (xs ++ news) → w.grownBy w' v.ownBlock → (v'.ownBlock = v.ownBlock ∨ v'.ownBlock = some w.heap.size) → wpList P ops Q rest (a.put o.dst v') w') : wpList P ops Q (o :: rest) a w :=
 wpList_plain hgd fun _ hK => wp_append_any w s x t ho base e i z size bytes ht hi hz hsize hby hzs hsz v n xs hs hown B A m c news hx hr h1 h63 hbytes hbase fun v' w' h2 h3 h4 => hK _ _ (h v' w' h2 h3 h4)

end

structure Elem (P : Program) (t e : TypeId) (z : Value) (size bytes : Nat) : Prop where
 und : P.underlying t = some (.slice e)
 info : (P.info? e).map (fun i => (i.zero, i.size, i.bytes)) = some (some z, size, bytes)
 zs : z.cells.size = size
 pos : 0 < size
 bpos : 0 < bytes

theorem grownBy_trans {w w1 w2 : World} {r r1 : Option Nat} (h : w.grownBy w1 r) (h1 : w1.grownBy w2 r1) (hr : r1 = r ∨ ∀ k, r1 = some k → w.heap.size ≤ k) : w.grownBy w2 r :=
 ⟨h1.os.trans h.os, h1.tape.trans h.tape, h1.output.trans h.output, Nat.le_trans h.size h1.size, fun k hk hne =>
  (h1.block k (Nat.lt_of_lt_of_le hk h.size) (by
   rcases hr with e | e
   ·rw [e]; exact hne
   ·intro he; have := e k he.symm; omega)).trans (h.block k hk hne)⟩
theorem grownBy_of_below {w w1 : World} (h : Below w.heap.size w w1) (r : Option Nat) : w.grownBy w1 r := ⟨h.os, h.tape, h.output, h.size, fun k hk _ => h.block k hk⟩
theorem below_of_grownBy {w w1 : World} (h : w.grownBy w1 none) : Below w.heap.size w w1 := ⟨h.os, h.tape, h.output, h.size, fun k hk => h.block k hk (by simp)⟩

theorem wp_app_lit {P : Program} {o : Oper} {a : Act} {K : Act → World → Prop} {Q : Exit → Act → World → Prop} (W : World) (s x : Operand) (t : TypeId)
  (ho : o.op = .call { callee := .builtin .append, args := #[s, x], argTypes := #[t, t] })
  {e : TypeId} {z : Value} {size bytes : Nat} (E : Elem P t e z size bytes) (base : Nat) (v : Value) (n : Nat) (xs : List Value) (us : Array Value) (e' : TypeId) (m c : Nat)
  {G : Nat} (hown : W.ownsRow base e size v n xs) (hG : W.heap.size = G) (hs : a.eval s = v) (hx : a.eval x = .slice (some ⟨G, 0, none⟩) m c)
  (hm : us.size = m * size) (h1 : ∀ u ∈ us.toList, u.oneCell' = true) (hbytes : (n + m) * bytes ≤ 140737488355328) (hbase : base ≤ W.heap.size)
  (h : ∀ v' w', w'.ownsRow base e size v' (n + m) (xs ++ us.toList) → W.grownBy w' v.ownBlock → (v'.ownBlock = v.ownBlock ∨ ∃ k, v'.ownBlock = some k ∧ W.heap.size ≤ k) → K (a.put o.dst v') w') :
  o.wp P a (W.alloc (.cells us e')) K Q := by
 subst hG
 obtain ⟨i, hi, hz, hsz, hby⟩ := info_parts E.info
 have hle : n + m ≤ maxLen := by
  have := Nat.le_trans (Nat.le_mul_of_pos_right (n + m) E.bpos) hbytes
  simp only [maxLen]; omega
 have hnew : (W.alloc (.cells us e')).heap[W.heap.size]? = some (.cells us e' (0, 0)) := heap_alloc_new W _
 have hsize : (W.alloc (.cells us e')).heap.size = W.heap.size + 1 := World.size_alloc W _
 obtain ⟨v', w', hr, h2, h3, _, h5⟩ := run_append_own_at (P := P) (W.alloc (.cells us e')) base t o.type e i z size bytes E.und hi hz hsz hby E.zs E.pos v n xs (hown.alloc _) ⟨W.heap.size, 0, none⟩ m c us.toList (by simpa using hm)
  (fun j u hu => by
   rw [Addr.add_lit, Nat.zero_add, cell_of_row _ W.heap.size j us e' (0, 0) hnew]
   simpa using hu) h1 hle hbytes (by rw [hsize]; omega)
 unfold Oper.wp execOp
 simp only [ho, resolve, invoke, builtin, Sem.run_bind, Sem.run_pure, Result.andThen_ok, List.map_toArray, List.map_cons, List.map_nil, hs, hx, hr]
 refine h v' w' h2 ?_ ?_
 ·refine grownBy_trans (World.grownBy_alloc W _ v.ownBlock) h3 (.inl rfl)
 ·rcases h5 with h5 | h5
  ·exact .inl h5
  ·exact .inr ⟨_, h5, by rw [hsize]; omega⟩
theorem wpList_app_lit {P : Program} {ops : Array Oper} {rest : List Oper} {o : Oper} {a : Act} {Q : Exit → Act → World → Prop} (W : World) (hgd : o.guard = none) (s x : Operand) (t : TypeId)
  (ho : o.op = .call { callee := .builtin .append, args := #[s, x], argTypes := #[t, t] })
  {e : TypeId} {z : Value} {size bytes : Nat} (E : Elem P t e z size bytes) (base : Nat) (v : Value) (n : Nat) (xs : List Value) (us : Array Value) (e' : TypeId) (m c : Nat)
  {G : Nat} (hown : W.ownsRow base e size v n xs) (hG : W.heap.size = G) (hs : a.eval s = v) (hx : a.eval x = .slice (some ⟨G, 0, none⟩) m c)
  (hm : us.size = m * size) (h1 : ∀ u ∈ us.toList, u.oneCell' = true) (hbytes : (n + m) * bytes ≤ 140737488355328) (hbase : base ≤ W.heap.size)
  (h : ∀ v' w', w'.ownsRow base e size v' (n + m) (xs ++ us.toList) → W.grownBy w' v.ownBlock → (v'.ownBlock = v.ownBlock ∨ ∃ k, v'.ownBlock = some k ∧ W.heap.size ≤ k) → wpList P ops Q rest (a.put o.dst v') w') :
  wpList P ops Q (o :: rest) a (W.alloc (.cells us e')) :=
 wpList_plain hgd fun _ hK => wp_app_lit W s x t ho E base v n xs us e' m c hown hG hs hx hm h1 hbytes hbase fun v' w' h2 h3 h4 => hK _ _ (h v' w' h2 h3 h4)

theorem wpList_app_one {P : Program} {ops : Array Oper} {rest : List Oper} {o : Oper} {a : Act} {Q : Exit → Act → World → Prop} (W : World) (hgd : o.guard = none) (s x : Operand) (t : TypeId)
  (ho : o.op = .call { callee := .builtin .append, args := #[s, x], argTypes := #[t, t] })
  {e : TypeId} {z : Value} {size bytes : Nat} (E : Elem P t e z size bytes) (base : Nat) (v : Value) (n : Nat) (xs : List Value) (us : Array Value) (e' : TypeId) (m c : Nat)
  {G : Nat} (hown : W.ownsRow base e size v n xs) (hG : W.heap.size = G) (hs : a.eval s = v) (hx : a.eval x = .slice (some ⟨G, 0, none⟩) m c)
  (hm : us.size = m * size) (hm0 : 0 < m) (h1 : ∀ u ∈ us.toList, u.oneCell' = true) (hbytes : (n + m) * bytes ≤ 140737488355328) (hbase : base ≤ W.heap.size)
  (h : ∀ g cap w', w'.ownsRow base e size (.slice (some ⟨g, 0, none⟩) (n + m) cap) (n + m) (xs ++ us.toList) → W.grownBy w' v.ownBlock → (v.ownBlock = some g ∨ W.heap.size ≤ g) → wpList P ops Q rest (a.put o.dst (.slice (some ⟨g, 0, none⟩) (n + m) cap)) w') :
  wpList P ops Q (o :: rest) a (W.alloc (.cells us e')) := by
 refine wpList_app_lit W hgd s x t ho E base v n xs us e' m c hown hG hs hx hm h1 hbytes hbase fun v' w' h2 h3 h4 => ?_
 obtain ⟨g, cap, hv, _, _⟩ := h2.form (by omega)
 rw [hv] at h2 h4 ⊢
 refine h g cap w' h2 h3 ?_
 rcases h4 with h4 | ⟨k, h4, hk⟩
 ·exact .inl h4.symm
 ·right; have : g = k := by simpa [Value.ownBlock] using h4
  omega

theorem wpList_app_src {P : Program} {ops : Array Oper} {rest : List Oper} {o : Oper} {a : Act} {Q : Exit → Act → World → Prop} (w : World) (hgd : o.guard = none) (s x : Operand) (t : TypeId)
  (ho : o.op = .call { callee := .builtin .append, args := #[s, x], argTypes := #[t, t] })
  {e : TypeId} {z : Value} {size bytes : Nat} (E : Elem P t e z size bytes) (base : Nat) (v : Value) (n : Nat) (xs : List Value) (B : Nat) (A : Option Addr) (m c : Nat) (news : List Value)
  (hown : w.ownsRow base e size v n xs) (hs : a.eval s = v) (hx : a.eval x = .slice A m c)
  (hr : Reads w B size A m news) (h1 : ∀ u ∈ news, u.oneCell' = true) (hbytes : (n + m) * bytes ≤ 140737488355328) (hbase : base ≤ w.heap.size)
  (h : ∀ v' w', w'.ownsRow base e size v' (n + m) (xs ++ news) → w.grownBy w' v.ownBlock → (v'.ownBlock = v.ownBlock ∨ v'.ownBlock = some w.heap.size) → wpList P ops Q rest (a.put o.dst v') w') :
  wpList P ops Q (o :: rest) a w := by
 obtain ⟨i, hi, hz, hsz, hby⟩ := info_parts E.info
 have hle : n + m ≤ maxLen := by
  have := Nat.le_trans (Nat.le_mul_of_pos_right (n + m) E.bpos) hbytes
  simp only [maxLen]; omega
 exact wpList_append_any w hgd s x t ho base e i z size bytes E.und hi hz hsz hby E.zs E.pos v n xs hs hown B A m c news hx hr h1 hle hbytes hbase h

theorem blk_reads {w : World} {g : Nat} {t : TypeId} {cs : Array Value} (h : Blk w g t cs) (size n : Nat) (hn : cs.size = n * size) : Reads w w.heap.size size (some ⟨g, 0, none⟩) n cs.toList :=
 ⟨by simpa using hn, fun _ => ⟨_, rfl, h.lt, fun j u hu => by rw [Addr.add_lit, Nat.zero_add, h.cell j]; simpa using hu⟩⟩
theorem one_int (k : IntKind) (l : List Int) : ∀ u ∈ (l.map (Value.int k)), u.oneCell' = true := ints_oneCell k l
theorem own_eq {w : World} {base : Nat} {e : TypeId} {size : Nat} {v : Value} {n n' : Nat} {xs xs' : List Value} (h : w.ownsRow base e size v n xs) (hn : n = n') (hx : xs = xs') : w.ownsRow base e size v n' xs' := by subst hn; subst hx; exact h
theorem own_base {w : World} {base b' : Nat} {e : TypeId} {size : Nat} {v : Value} {n : Nat} {xs : List Value} (h : w.ownsRow base e size v n xs) (hb : b' ≤ base) : w.ownsRow b' e size v n xs := by
 refine ⟨h.1, ?_⟩
 rcases h.2 with h2 | ⟨g, cap, cur, hv, hg, r⟩
 ·exact .inl h2
 ·exact .inr ⟨g, cap, cur, hv, by omega, r⟩
theorem blk_new (w : World) (t : TypeId) (cs : Array Value) {B : Nat} (hB : w.heap.size = B) : Blk (w.alloc (.cells cs t)) B t cs := by subst hB; exact heap_alloc_new w _
theorem own_made (w : World) (cur : Array Value) (e : TypeId) (cap size : Nat) {B : Nat} (hB : w.heap.size = B) (hm : cap ≤ maxLen) (hs : cur.size = cap * size) :
  (w.alloc (.cells cur e)).ownsRow B e size (.slice (some ⟨B, 0, none⟩) 0 cap) 0 [] := by subst hB; exact World.ownsRow_made w cur cap (Nat.le_refl _) hm hs
theorem own_form {w : World} {base : Nat} {e : TypeId} {size : Nat} {v : Value} {n : Nat} {xs : List Value} (h : w.ownsRow base e size v n xs) : ∃ A c, v = .slice A n c := by
 rcases h.2 with ⟨rfl, rfl⟩ | ⟨g, cap, cur, rfl, _⟩
 ·exact ⟨_, _, rfl⟩
 ·exact ⟨_, _, rfl⟩
theorem own_empty (w : World) (e : TypeId) (size : Nat) {B : Nat} (hB : w.heap.size = B) : (w.alloc (.cells #[] e)).ownsRow B e size (.slice (some ⟨B, 0, none⟩) 0 0) 0 [] :=
 own_made w #[] e 0 size hB (Nat.zero_le _) (by simp)
theorem reads_of_own {w : World} {base : Nat} {e : TypeId} {size : Nat} {A : Option Addr} {n c : Nat} {xs : List Value} (h : w.ownsRow base e size (.slice A n c) n xs) : Reads w w.heap.size size A n xs := Reads.of_own h
theorem Reads.cellAt {w : World} {B size : Nat} {b off : Nat} {n : Nat} {xs : List Value} (h : Reads w B size (some ⟨b, off, none⟩) n xs) (j : Nat) (hj : j < xs.length) : w.cell? ⟨b, off + j, none⟩ = some xs[j] := by
 have hn : 0 < n := by
  rcases Nat.eq_zero_or_pos n with h0 | h0
  ·have := h.1; rw [h0] at this; simp at this; subst this; simp at hj
  ·exact h0
 obtain ⟨ad, e, _, hc⟩ := h.2 hn
 injection e with e
 subst e
 have := hc j _ (List.getElem?_eq_getElem hj)
 rwa [Addr.add_lit] at this
theorem grownBy_setCell (w : World) (a : Addr) (u : Value) : w.grownBy (w.setCell a u) (some a.block) :=
 ⟨rfl, rfl, rfl, by simp [World.setCell], fun k _ hk => Below.heap_setCell w a u k (fun e => hk (by rw [e]))⟩
/-! ### Lists of elements of s cells each -/
theorem flat_len {α : Type} (f : α → List Value) (s : Nat) (l : List α) (h : ∀ x ∈ l, (f x).length = s) : (l.flatMap f).length = l.length * s := by
 induction l with
 | nil => simp
 | cons a l ih =>
  rw [List.flatMap_cons, List.length_append, h a (by simp), ih fun x hx => h x (List.mem_cons_of_mem _ hx), List.length_cons, Nat.add_mul, Nat.one_mul, Nat.add_comm]
theorem flat_at {α : Type} (f : α → List Value) (s : Nat) (l : List α) (h : ∀ x ∈ l, (f x).length = s) (k j : Nat) (hk : k < l.length) (hj : j < s) : (l.flatMap f)[k * s + j]? = (f l[k])[j]? := by
 induction l generalizing k with
 | nil => simp at hk
 | cons a l ih =>
  have ha := h a (by simp)
  rw [List.flatMap_cons]
  cases k with
  | zero =>
   rw [List.getElem?_append_left (by omega)]
   simp
  | succ k =>
   rw [List.getElem?_append_right (by rw [ha, Nat.add_mul]; omega), ha]
   rw [show (k + 1) * s + j - s = k * s + j by rw [Nat.add_mul]; omega]
   exact ih (fun x hx => h x (List.mem_cons_of_mem _ hx)) k (by simpa using hk)
theorem flat_take_succ {α : Type} (f : α → List Value) (l : List α) (k : Nat) (hk : k < l.length) : (l.take (k + 1)).flatMap f = (l.take k).flatMap f ++ f l[k] := by
 rw [List.take_succ_eq_append_getElem hk, List.flatMap_append]; simp
theorem Reads.at2 {w : World} {B s n : Nat} {b off : Nat} {α : Type} {f : α → List Value} {l : List α} (h : Reads w B s (some ⟨b, off, none⟩) n (l.flatMap f)) (hs : ∀ x ∈ l, (f x).length = s) (k j : Nat) (hk : k < l.length) (hj : j < s) {v : Value} (hv : (f l[k])[j]? = some v) :
  w.cell? ⟨b, off + k * s + j, none⟩ = some v := by
 have hl := flat_len f s l hs
 have hlt : k * s + j < (l.flatMap f).length := by
  rw [hl]
  have : (k + 1) * s ≤ l.length * s := Nat.mul_le_mul_right s hk
  rw [Nat.add_mul] at this; omega
 have h1 := Reads.cellAt h (k * s + j) hlt
 have h2 := flat_at f s l hs k j hk hj
 rw [List.getElem?_eq_getElem hlt, hv] at h2
 rw [Nat.add_assoc, h1, h2]
theorem Reads.addr {w : World} {B s n : Nat} {A : Option Addr} {xs : List Value} (h : Reads w B s A n xs) (hn : 0 < n) (hs : 0 < s) : ∃ b off, A = some ⟨b, off, none⟩ ∧ b < B := by
 obtain ⟨ad, rfl, hb, hc⟩ := h.2 hn
 have hl : 0 < xs.length := by rw [h.1]; exact Nat.mul_pos hn hs
 have h0 := hc 0 _ (List.getElem?_eq_getElem hl)
 obtain ⟨b, off, spot⟩ := ad
 have hsp : spot = none := by simpa [Addr.add] using World.cell?_spot h0
 exact ⟨b, off, by rw [hsp], hb⟩
end Go.Proofs.YtmmfpgoodfgkbaaGreatDoor
