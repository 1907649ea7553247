/-
  THE LAW of 'append(b, make([]byte, n)...)' where the bytes are a row of one's own. Condition: room in all for 2^47 bytes.
-/
import Derived.Test.YtmmfpgoodfgkbaaGreatMStep
import Derived.Lib.AppendZerosOnto
namespace Go.Proofs.YtmmfpgoodfgkbaaGreat
open Go Go.RowKit
set_option linter.unusedVariables false
set_option linter.unusedSimpArgs false
set_option maxRecDepth 20000

theorem zeros_eq (m : Nat) : Builtin.zeroCells #[.int .u8 0] m = (u8s (List.replicate m 0)).toArray := by
  apply Array.ext'
  apply List.ext_getElem <;> simp [Builtin.zeroCells, u8s, Nat.mod_one]
theorem zeros_room (w : World) (g cap ty n m : Nat) (cur : Array Value) (hg : w.heap[g]? = some (.cells cur 5 (0, 0))) (hcs : cur.size = cap) (hroom : n + m ≤ cap) (hb : n + m ≤ 140737488355328) :
    (Builtin.append_ #[25, 3] ty #[.slice (some ⟨g, 0, none⟩) n cap, .int .i64 (m : Nat)]).run Tryz.prog w = .ok (.slice (some ⟨g, 0, none⟩) (n + m) cap) (w.setRow g (cur.toList.take n ++ u8s (List.replicate m 0) ++ cur.toList.drop (n + (u8s (List.replicate m 0)).length)).toArray) := by
  obtain ⟨i, hi, hz, hsz, hby⟩ := info_parts elem8.info
  have ht := Tryz.underlying25
  have htn := Tryz.underlying3
  have hw : IntKind.i64.wrap (m : Int) = m := by rw [IntKind.wrap_i64]; omega
  have hneg : ¬ ((m : Int) < 0) := by omega
  have h48 : ¬ (281474976710656 < (m : Int) * ((1 : Nat) : Int)) := by omega
  have hfit : n * 1 + 0 + (u8s (List.replicate m 0)).length ≤ cur.size := by rw [u8s_len, hcs]; simp; omega
  have hst := run_storeCells_at Tryz.prog g (n * 1) 5 (u8s (List.replicate m 0)) 0 cur w hg (by simpa using hfit) (u8s_one _)
  simp only [Nat.add_zero, Nat.mul_one] at hst
  have hzc : Builtin.zeroCells (Value.int IntKind.u8 0).cells m = (u8s (List.replicate m 0)).toArray := zeros_eq m
  by_cases hm : m = 0
  · subst hm
    have hr0 : n ≤ cap := by omega
    simp [hr0, Builtin.append_, run_underlying ht, run_underlying htn, sizeOf, typeInfo, hi, hsz, hby, asInt, asIntOf, hw, hroom, Addr.add_lit, u8s, storeCells, show IntKind.i64.wrap 0 = 0 from rfl] at hst ⊢
    exact hst
  · have e1 : Tryz.t5.size = 1 := rfl
    have e2 : Tryz.t5.bytes = 1 := rfl
    have h48' : ¬ (281474976710656 < (m : Int)) := by omega
    simp [Builtin.append_, run_underlying ht, run_underlying htn, sizeOf, typeInfo, zeroValue, hi, hz, hsz, hby, e1, e2, asInt, asIntOf, hw, hneg, h48', hm, hroom, hzc, Addr.add_lit, hst]
theorem app_zeros8 (w : World) (base g cap ty : Nat) (l : List Int) (m : Nat) (hown : w.ownsRow base 5 1 (.slice (some ⟨g, 0, none⟩) l.length cap) l.length (u8s l)) (hbase : base ≤ w.heap.size) (hb : l.length + m ≤ 140737488355328) :
    ∃ v' w', (Builtin.append_ #[25, 3] ty #[.slice (some ⟨g, 0, none⟩) l.length cap, .int .i64 (m : Nat)]).run Tryz.prog w = .ok v' w' ∧ w'.ownsRow base 5 1 v' (l.length + m) (u8s l ++ u8s (List.replicate m 0)) ∧ w.grownBy w' (some g) ∧ ∀ y, v'.ownBlock = some y → y = g ∨ w.heap.size ≤ y := by
  have hown0 := hown
  have hlen : (u8s l ++ u8s (List.replicate m 0)).length = (l.length + m) * 1 := by simp [u8s_len]
  obtain ⟨hx, h | ⟨g', cap', cur, hv, hbg, hg, hnc, hcm, hcs, htake⟩⟩ := hown
  · cases h.1
  cases hv
  by_cases hroom : l.length + m ≤ cap
  · refine ⟨_, _, zeros_room w g cap ty l.length m cur hg (by omega) hroom hb, ⟨hlen, .inr ⟨g, cap, _, rfl, hbg, setRow_heap w g cur _ _ _ hg, hroom, hcm, ?_, ?_⟩⟩, ⟨rfl, rfl, rfl, by simp, fun k _ hk => setRow_other w g k _ (fun e => hk (by rw [e]))⟩, fun y hy => .inl (by simpa [Value.ownBlock] using hy.symm)⟩
    · simp only [List.size_toArray, List.length_append, List.length_take, List.length_drop, Array.length_toList, u8s_len, List.length_replicate]
      omega
    · rw [Nat.mul_one] at htake
      rw [htake, ← hlen]
      exact List.take_left
  · obtain ⟨i, hi, hz, hsz, hby⟩ := info_parts elem8.info
    have holds : ∀ j u, (u8s l)[j]? = some u → w.drew.cell? ((⟨g, 0, none⟩ : Addr).add j) = some u := hown0.cells (g := g) rfl
    have hf := run_firstCells_some (P := Tryz.prog) w.drew i.size l.length ⟨g, 0, none⟩ l.length cap (u8s l) (by rw [hsz, u8s_len, Nat.mul_one]) holds
    have hr := Lib.run_append_grow_zeros (P := Tryz.prog) w 25 3 ty 5 i (.int .u8 0) .i64 .i64 Tryz.underlying25 Tryz.underlying3 hi hz (some ⟨g, 0, none⟩) l.length cap (u8s l) hf m (by omega) (by omega) (by omega) (by omega) (by rw [hby]; omega) (growslice_fits (by omega) (by rw [hby]; omega))
    have hge := grownCap_ge w (l.length + m) cap 5
    have hcm2 : grownCap w (l.length + m) cap 5 ≤ maxLen := grownCap_le_maxLen w (l.length + m) cap 5 (by unfold maxLen; omega)
    refine ⟨_, _, hr, ⟨hlen, .inr ⟨w.heap.size, _, _, rfl, hbase, heap_alloc_new w.drew _, hge, hcm2, ?_, ?_⟩⟩, ⟨rfl, rfl, rfl, by simp, fun k hk _ => heap_alloc_old w.drew _ hk⟩, fun y hy => .inr (Nat.le_of_eq (by simpa [Value.ownBlock] using hy))⟩
    · simp only [Array.size_append, List.size_toArray, size_zeroCells, u8s_len, show (Value.int IntKind.u8 0).cells.size = 1 from rfl]
      omega
    · rw [show Builtin.zeroCells (Value.int IntKind.u8 0).cells m = (u8s (List.replicate m 0)).toArray from zeros_eq m]
      simp only [Array.toList_append, List.toList_toArray, List.append_assoc]
      rw [← List.append_assoc, ← hlen]
      exact List.take_left
/-- 'append(b, make([]byte, n)...)'; the piece k grows by zeros. -/
def az {olds : Nat → Prop} {w0 : World} (k : Nat) : Step Tryz.prog olds w0 where
  rd := []
  wr := [k]
  skip := false
  must := true
  V i p := match i.ps, i.vals with
    | [some (.bytes base v l)], [_, x] => .slice p.a (l ++ List.replicate (ixK x) 0).length p.c
    | _, _ => undef
  W i p := match i.ps, i.vals with
    | [some (.bytes base v l)], [_, x] => [some (.bytes base (.slice p.a (l ++ List.replicate (ixK x) 0).length p.c) (l ++ List.replicate (ixK x) 0))]
    | _, _ => []
  chk i := match i.ps, i.vals, appT i.o.op with
    | [some (.bytes base v l)], [y, x], some (t, t') => [(.v y, .v v), (.n t, .n 25), (.n t', .n 3), (.v x, .v (.int .i64 (ixK x : Nat)))]
    | _, _, _ => no
  pre i := match i.ps, i.vals with
    | [some (.bytes base v l)], [_, x] => base ≤ w0.heap.size ∧ l.length + ixK x ≤ 140737488355328 ∧ 0 < l.length
    | _, _ => True
  ok _ i L a w K Q hc hp hs hv hL hS hK := by
    obtain ⟨o, sem, vals, ps⟩ := i
    revert hc hK hs hv hL hp
    simp only
    split
    · rename_i base v l y x t t' hop
      intro hc hp hs hv hL hK
      have h1 := hc _ (List.mem_cons_self ..)
      have h2 := hc _ (List.mem_cons_of_mem _ (List.mem_cons_self ..))
      have h3 := hc _ (List.mem_cons_of_mem _ (List.mem_cons_of_mem _ (List.mem_cons_self ..)))
      have h4 := hc _ (List.mem_cons_of_mem _ (List.mem_cons_of_mem _ (List.mem_cons_of_mem _ (List.mem_singleton.2 rfl))))
      injection h1 with h1
      injection h2 with h2
      injection h3 with h3
      injection h4 with h4
      subst h1 h2 h3
      obtain ⟨hl, hr⟩ := one_pc (olds := olds) (w0 := w0) hL
      have hown : w.ownsRow base 5 1 y l.length (u8s l) := hS.row k hr
      obtain ⟨hp1, hp2, hp3⟩ := hp trivial
      have hbase := Nat.le_trans hp1 hS.size
      generalize ixK x = m at *
      subst h4
      obtain ⟨A, c, rfl⟩ := own_form hown
      obtain ⟨g, cap, cur, hyv⟩ : ∃ g cap cur, Value.slice A l.length c = .slice (some ⟨g, 0, none⟩) l.length cap ∧ cur = 0 := by
        rcases hown.2 with ⟨h, h0⟩ | ⟨g, cap, _, h, _⟩
        · omega
        · exact ⟨g, cap, 0, h, rfl⟩
      obtain ⟨hyv, _⟩ := hyv
      rw [hyv] at hown hv hl
      obtain ⟨v', w', hrun, ho', hg, hor⟩ := app_zeros8 w base g cap o.type l m hown hbase hp2
      have ho2 := own_eq ho' (by simp : l.length + m = (l ++ List.replicate m 0).length) (u8s_append _ _).symm
      obtain ⟨A', c', rfl⟩ := own_form ho2
      refine exec_wp (w' := w') (app_exec hop hv hrun) (hK ⟨0, c', undef, A'⟩ w' ?_)
      exact stp_turn (c' := .bytes base _ _) hl hg (fun z e => by injection e with e; subst e; rfl) ho2 fun z hz => by
        have h5 := hor z hz
        refine ⟨(ho2.lt z hz).2, ?_⟩
        rcases h5 with h5 | h5
        · exact .inr (by subst h5; rfl)
        · exact .inl h5
    · intro hc; exact no_false hc
end Go.Proofs.YtmmfpgoodfgkbaaGreat
