/-
  CONTRACTS OF WHAT READS BYTES INTO A BLOCK, over pieces; a text turned into bytes; how much is lacking to a whole word. No condition.
-/
import Derived.Lib.ConvBytes
import Derived.Test.YtmmfpgoodfgkbaaGreatDoorUm2
import Derived.Test.YtmmfpgoodfgkbaaGreatDoorMDesc
import Derived.Test.YtmmfpgoodfgkbaaGreatDoorStepsD
namespace Go.Proofs.YtmmfpgoodfgkbaaGreatDoor
open Go Go.RowKit
set_option linter.unusedVariables false
set_option linter.unusedSimpArgs false

section
variable {olds : Nat → Prop} {w0 : World} {D : Nat → Prop} {T : TypeId} {cs : Array Value} {A : Option Addr} {l : List Int} {g : Nat}
theorem ub_facts {L' : PL} {j k : Nat} {ks : List Nat} {w : World} (h1 : lookP L' j = some (.ry D A l)) (h2 : lookP L' k = some (.blk g T cs)) (hj : j ∈ ks) (hk : k ∈ ks) (hS : Stp olds w0 w (restr ks (lookM (den olds w0 L')))) :
  Blk w g T cs ∧ RowD w D A l ∧ (∀ x, D x → x < w.heap.size ∧ x ≠ g) ∧ Byts l ∧ lookM (den olds w0 L') k = some (ckB g T cs) := by
 have hl1 : lookM (den olds w0 L') k = some (ckB g T cs) := by rw [lookM_den, h2]; rfl
 have r1 : restr ks (lookM (den olds w0 L')) k = some (ckB g T cs) := by unfold restr; rw [(hasN_mem ks k).2 hk]; exact hl1
 have rj : restr ks (lookM (den olds w0 L')) j = some (ckP (RdB olds w0 D A l ∧ Byts l)) := by unfold restr; rw [(hasN_mem ks j).2 hj, lookM_den, h1]; rfl
 have hpc := hS.pure_ j rj
 have hg := (hS.lt k _ r1 g rfl)
 refine ⟨hS.blk k r1, fun hn => ?_, fun x hx => ?_, hpc.2, hl1⟩
 ·obtain ⟨ad, e, h1, h2⟩ := hpc.1.1 hn
  have h3 := hpc.1.2 _ h1
  exact ⟨ad, e, h1, fun i u hu => (World.cell?_of_block (by rw [block_of_add]; exact hS.kept _ h3.1 h3.2)).trans (h2 i u hu)⟩
 ·have h3 := hpc.1.2 _ hx
  refine ⟨Nat.lt_of_lt_of_le h3.1 hS.size, fun e => ?_⟩
  subst e
  rcases hg.2 with h | h
  ·omega
  ·exact h3.2 h
theorem cu_ub {f : FuncId} {cs' : Array Value} (j k n c : Nat) (hn : n = l.length)
  (h : ∀ w, Blk w g T cs → RowD w D A l → (∀ x, D x → x < w.heap.size ∧ x ≠ g) → Byts l → Calls Tryz.prog f #[.pointer (some ⟨g, 0, none⟩), .slice A l.length c] w fun e w' => e = .returned .nilIface ∧ w.grownBy w' (some g) ∧ Blk w' g T cs')
  (L' : PL) (w : World) (hps : [some (.ry D A l), some (.blk g T cs)] = ([j] ++ [k]).map (lookP L')) (hS : Stp olds w0 w (restr ([j] ++ [k]) (lookM (den olds w0 L')))) :
  Calls Tryz.prog f #[.pointer (some ⟨g, 0, none⟩), .slice A n c] w fun e w' => ∃ x : Pay, e = .returned .nilIface ∧ Stp (blksOf (lookM (den olds w0 L')) [k]) w w' (lookM (den olds w0 (zipW [k] [some (.blk g T cs')]))) := by
 subst hn
 simp only [List.cons_append, List.nil_append, List.map_cons, List.map_nil, List.cons.injEq] at hps
 obtain ⟨hb, hr, hD, hz, hl1⟩ := ub_facts (ks := [j] ++ [k]) hps.1.symm hps.2.1.symm (by simp) (by simp) hS
 refine (h w hb hr hD hz).mono ?_
 rintro e w' ⟨rfl, hgr, hbl⟩
 exact ⟨pay0, rfl, stp_one k _ (.inr ⟨g, ⟨k, by simp, _, hl1, rfl⟩, hgr⟩) hbl fun y hy => by have e : y = g := hy; subst e; exact ⟨hbl.lt, .inr ⟨k, by simp, _, hl1, rfl⟩⟩⟩
theorem cu_ubr {f : FuncId} {cs' : Option Addr → Nat → Array Value} (E : TypeId) (sz m : Nat) (xs : List Value) (j k r n c : Nat) {u : Option Pc} (hkr : k ≠ r) (hn : n = l.length)
  (h : ∀ w, Blk w g T cs → RowD w D A l → (∀ x, D x → x < w.heap.size ∧ x ≠ g) → Byts l → Calls Tryz.prog f #[.pointer (some ⟨g, 0, none⟩), .slice A l.length c] w fun e w' => e = .returned .nilIface ∧ w.grownBy w' (some g) ∧ ∃ A2 c2, Blk w' g T (cs' A2 c2) ∧ w'.ownsRow w.heap.size E sz (.slice A2 m c2) m xs)
  (L' : PL) (w : World) (hps : [some (.ry D A l), some (.blk g T cs), u] = ([j] ++ [k, r]).map (lookP L')) (hS : Stp olds w0 w (restr ([j] ++ [k, r]) (lookM (den olds w0 L')))) :
  Calls Tryz.prog f #[.pointer (some ⟨g, 0, none⟩), .slice A n c] w fun e w' => ∃ x : Pay, e = .returned .nilIface ∧ Stp (blksOf (lookM (den olds w0 L')) [k, r]) w w' (lookM (den olds w0 (zipW [k, r] [some (.blk g T (cs' x.a x.c)), some (.row w0.heap.size E sz (.slice x.a m x.c) m xs)]))) := by
 subst hn
 simp only [List.cons_append, List.nil_append, List.map_cons, List.map_nil, List.cons.injEq] at hps
 obtain ⟨hb, hr, hD, hz, hl1⟩ := ub_facts (ks := [j] ++ [k, r]) hps.1.symm hps.2.1.symm (by simp) (by simp) hS
 refine (h w hb hr hD hz).mono ?_
 rintro e w' ⟨rfl, hgr, A2, c2, hbl, hrow⟩
 refine ⟨⟨0, c2, undef, A2⟩, rfl, ?_⟩
 have ho : blksOf (lookM (den olds w0 L')) [k, r] g := ⟨k, by simp, _, hl1, rfl⟩
 have key : ∀ n c', lookM (den olds w0 (zipW [k, r] [some (.blk g T (cs' A2 c2)), some (.row w0.heap.size E sz (.slice A2 m c2) m xs)])) n = some c' → (n = k ∧ c' = ckB g T (cs' A2 c2)) ∨ (n = r ∧ c' = ckR w0.heap.size E sz (.slice A2 m c2) m xs) := fun n c' hc => look2 hc
 refine ⟨hgr.os, hgr.tape, hgr.output, hgr.size, fun y hy hn => hgr.block y hy fun e => hn (by injection e with e; subst e; exact ho), fun n c' hc => ?_, fun n c' hc y hy => ?_, fun n n' c1 c2' hc hc' hne y hy hy' => ?_⟩
 ·rcases key n c' hc with ⟨_, rfl⟩ | ⟨_, rfl⟩
  ·exact hbl
  ·exact own_base hrow hS.size
 ·rcases key n c' hc with ⟨_, rfl⟩ | ⟨_, rfl⟩
  ·obtain rfl : y = g := hy
   exact ⟨hbl.lt, .inr ho⟩
  ·have := hrow.lt y hy
   exact ⟨this.2, .inl this.1⟩
 ·have hgl := hb.lt
  rcases key n c1 hc with ⟨rfl, rfl⟩ | ⟨rfl, rfl⟩ <;> rcases key n' c2' hc' with ⟨rfl, rfl⟩ | ⟨rfl, rfl⟩
  ·exact hne rfl
  ·have h1 : y = g := hy
   have h2 := (hrow.lt y hy').1
   omega
  ·have h1 : y = g := hy'
   have h2 := (hrow.lt y hy).1
   omega
  ·exact hne rfl
theorem cu_cpt {f : FuncId} {args : Array Value} {v : Value} (h : ∀ w, Calls Tryz.prog f args w fun e w' => e = .returned v ∧ Below w.heap.size w w') (L' : PL) (w : World) (hps : [] = ([] ++ []).map (lookP L')) (hS : Stp olds w0 w (restr ([] ++ []) (lookM (den olds w0 L')))) :
  Calls Tryz.prog f args w fun e w' => ∃ x : Pay, e = .returned v ∧ Stp (blksOf (lookM (den olds w0 L')) []) w w' (lookM (den olds w0 (zipW [] []))) :=
 (h w).mono fun e w' ⟨he, hB⟩ => ⟨pay0, he, stp_of_below hB⟩
end
theorem blk_rows {w : World} {B g : Nat} {T : TypeId} {cs : Array Value} {size n : Nat} (h : Blk w g T cs) (hg : B ≤ g) (hn : cs.size = n * size) : InRows w B w.heap.size size (some ⟨g, 0, none⟩) n cs.toList :=
 ⟨by simpa using hn, fun _ => ⟨_, rfl, hg, h.lt, fun j u hu => by rw [Addr.add_lit, Nat.zero_add, h.cell]; simpa using hu⟩⟩
theorem gi_cut (z : List Int) (i h j : Nat) (hj : i + j < h) : gi ((z.take h).drop i) j = gi (z.drop i) j := by
 unfold gi
 rw [List.getD_eq_getElem?_getD, List.getD_eq_getElem?_getD, List.getElem?_drop, List.getElem?_drop, List.getElem?_take, if_pos (by omega)]
theorem cut_cut (z : List Int) (a h l : Nat) : ((z.drop a).take h).drop l = (z.take (a + h)).drop (a + l) := by
 rw [List.take_drop, List.drop_drop]
theorem strB_size (l : List Int) : (strB l).size = l.length := by
 have key : ∀ (l : List Int) (b : ByteArray), (l.foldl (fun r n => r.push (UInt8.ofNat n.toNat)) b).size = b.size + l.length := fun l => by
  induction l with
  | nil => intro b; rfl
  | cons x l ih => intro b; rw [List.foldl_cons, ih, ByteArray.size_push, List.length_cons]; omega
 have := key l ByteArray.empty
 simpa [strB] using this
theorem txt_made (w : World) (s : ByteArray) : (ckT w.heap.size (sb s)).ok (Lib.bytesWorld w 5 s) := by
 refine ⟨_, _, Lib.bytesWorld_at_new w 5 s, ?_⟩
 have e : (Lib.bytesCells w 5 s).toList = u8s (sb s) ++ List.replicate (grownCap w s.size 0 5 - s.size) (.int .u8 0) := by
  simp [Lib.bytesCells, u8s, sb, ByteArray.toList_eq]
 rw [e, List.take_append_of_le_length (by rw [u8s_len]; exact Nat.le_refl _), List.take_of_length_le (by rw [u8s_len]; exact Nat.le_refl _)]
def tbs {olds : Nat → Prop} {w0 : World} (k : Nat) : Step Tryz.prog olds w0 where
 rd := []
 wr := [k]
 skip := false
 must := false
 V i x := match i.vals with
  | [y] => .slice (some ⟨x.g, 0, none⟩) (sb (strOf y)).length x.c
  | _ => undef
 W i x := match i.vals with
  | [y] => [some (.txt x.g (sb (strOf y)))]
  | _ => []
 chk i := match i.o.op, i.vals with
  | .convert t t' _, [y] => [(.n t, .n 9), (.n t', .n 25), (.v y, .v (.string (strOf y)))]
  | _, _ => no
 pre _ := True
 ok _ i L a w K Q hc _ hs hv hL hS hK := by
  obtain ⟨o, sem, vals, ps⟩ := i
  revert hc hK hs hv hL
  simp only
  split
  ·rename_i t t' x y ho
   intro hc hs hv hL hK
   have h1 := hc _ (List.mem_cons_self ..)
   have h2 := hc _ (List.mem_cons_of_mem _ (List.mem_cons_self ..))
   have h3 := hc _ (List.mem_cons_of_mem _ (List.mem_cons_of_mem _ (List.mem_singleton.2 rfl)))
   injection h1 with h1
   injection h2 with h2
   injection h3 with h3
   subst h1 h2
   have hx : a.eval x = y := by simpa [ho, Op.operands] using hv
   have hr := Lib.run_convert_string_bytes (P := Tryz.prog) w 9 25 5 (strOf y) Tryz.underlying9 Tryz.underlying25 Tryz.underlying5
   have hsz := Lib.bytesWorld_size w 5 (strOf y)
   have hg : w.grownBy (Lib.bytesWorld w 5 (strOf y)) none := ⟨rfl, rfl, rfl, by rw [hsz]; omega, fun j hj _ => Lib.bytesWorld_at_old w _ _ j hj⟩
   refine exec_wp (w' := Lib.bytesWorld w 5 (strOf y)) ?_ (hK ⟨w.heap.size, grownCap w (strOf y).size 0 5, undef, none⟩ _ (stp_one k (ckT w.heap.size (sb (strOf y))) (.inl hg) (txt_made w _) fun z hz => ⟨by have : z = w.heap.size := hz; rw [this, hsz]; omega, .inl (Nat.le_of_eq hz.symm)⟩))
   show (execOp a.eval o).run Tryz.prog w = .ok (.value (.slice (some ⟨w.heap.size, 0, none⟩) (sb (strOf y)).length (grownCap w (strOf y).size 0 5))) (Lib.bytesWorld w 5 (strOf y))
   rw [sb_len]
   rw [← h3] at hr
   simp only [execOp, ho, hx, Sem.run_bind, hr, Result.andThen_ok, Sem.run_pure]
  ·intro hc; exact no_false hc
end Go.Proofs.YtmmfpgoodfgkbaaGreatDoor
