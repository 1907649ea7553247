/-
  THE WALKS of the package's writing of a packet. Condition: what it holds can be written; no part is too long.
-/
import Derived.Lib.ConvBytes
import Derived.Test.YtmmfpgoodfgkbaaGreatMPut
import Derived.Test.YtmmfpgoodfgkbaaGreatMStep
import Derived.Test.YtmmfpgoodfgkbaaGreatHdrs
import Derived.Test.YtmmfpgoodfgkbaaGreatCtForm2
namespace Go.Proofs.YtmmfpgoodfgkbaaGreat
open Go Go.RowKit
set_option linter.unusedVariables false
set_option linter.unusedSimpArgs false

/-- A buffer that is filled from the front. -/
def pz (a : List Int) (n : Nat) : List Int := a ++ List.replicate (n - a.length) 0
theorem pz_len (a : List Int) (n : Nat) (h : a.length ≤ n) : (pz a n).length = n := by simp [pz]; omega
theorem put_pz (a l : List Int) (n off : Nat) (ho : off = a.length) (h : off + l.length ≤ n) : put (pz a n) off l = pz (a ++ l) n := by
  subst ho
  simp only [put, pz, List.length_append]
  rw [List.take_left, List.drop_append, List.drop_replicate]
  rw [List.drop_eq_nil_of_le (by omega), List.nil_append]
  congr 2; omega
theorem put_pzE (a l : List Int) (n off : Nat) (ho : off = a.length ∨ l.length = 0) (h : a.length + l.length ≤ n) : put (pz a n) off l = pz (a ++ l) n := by
  rcases ho with ho | ho
  · exact put_pz a l n off ho (by omega)
  · rw [List.eq_nil_of_length_eq_zero ho, put_nil, List.append_nil]
theorem put_one (bs : List Int) (off : Nat) (x : Int) (h : off < bs.length) : bs.set off x = put bs off [x] := by rw [put_cons _ _ _ _ h, put_nil]
theorem pz_more (a : List Int) (n m : Nat) (h : a.length + m ≤ n) : pz a n = pz (a ++ List.replicate m 0) n := by
  simp only [pz, List.length_append, List.length_replicate, List.append_assoc, List.replicate_append_replicate]
  congr 2; omega
theorem pz_start0 (n : Nat) : List.replicate n (0 : Int) = pz [] n := by simp [pz]
theorem pz_full (a : List Int) (n : Nat) (h : a.length = n) : pz a n = a := by simp [pz, h]
theorem pz_start (n : Nat) (h : 4 ≤ n) : List.replicate n (0 : Int) = pz [0, 0, 0, 0] n := by
  obtain ⟨m, rfl⟩ : ∃ m, n = 4 + m := ⟨n - 4, by omega⟩
  rw [← List.replicate_append_replicate]; simp [pz, List.replicate]
theorem put_head (a b h : List Int) (n : Nat) (ha : a = [0, 0, 0, 0] ++ b) (hh : h.length = 4) : put (pz a n) 0 h = pz (h ++ b) n := by
  subst ha
  simp [put, pz, hh, List.length_append]; omega
theorem own_of_buf {w : World} {g B n : Nat} {bs : List Int} (h : Buf w g bs) (hB : B ≤ g) (hn : n = bs.length) (hm : bs.length ≤ 140737488355328) : w.ownsRow B 5 1 (.slice (some ⟨g, 0, none⟩) n n) n (u8s bs) := by
  subst hn
  refine ⟨by simp [u8s_len], .inr ⟨g, bs.length, (u8s bs).toArray, rfl, hB, h, Nat.le_refl _, by unfold maxLen; omega, by simp [u8s_len], ?_⟩⟩
  rw [Nat.mul_one, List.toList_toArray, List.take_of_length_le (by rw [u8s_len]; exact Nat.le_refl _)]
/-- What a packet's Marshal hands back. -/
def MarOut (w : World) (bs : List Int) (e : Ending) (w' : World) : Prop :=
  ∃ A c, e = .returned (.tuple #[.slice A bs.length c, .nilIface]) ∧ w'.ownsRow w.heap.size 5 1 (.slice A bs.length c) bs.length (u8s bs) ∧ Below w.heap.size w w'
theorem MarOut.buf {w w' : World} {bs : List Int} {g n : Nat} (h : Buf w' g bs) (hg : w.heap.size ≤ g) (hB : Below w.heap.size w w') (hn : n = bs.length) (hm : bs.length ≤ 140737488355328) : MarOut w bs (.returned (.tuple #[.slice (some ⟨g, 0, none⟩) n n, .nilIface])) w' := by
  subst hn
  exact ⟨_, _, rfl, own_of_buf h hg rfl hm, hB⟩
/-- A call that reads a block and hands back a value. -/
theorem cu_val {P : Program} {w0 : World} (k g : Nat) (T : TypeId) (cs : Array Value) (f : FuncId) (args : Array Value) (v : Value)
    (h : ∀ w, Below w0.heap.size w0 w → w0.heap.size ≤ w.heap.size → Blk w g T cs → Calls P f args w fun e w' => e = .returned v ∧ Below w.heap.size w w')
    (L : PL) (w : World) (hps : [some (Pc.blk g T cs)] = ([k] ++ []).map (lookP L)) (hS : Stp (fun _ => False) w0 w (restr ([k] ++ []) (lookM (den (fun _ => False) w0 L)))) :
    Calls P f args w fun e w' => ∃ x : Pay, e = .returned v ∧ Stp (blksOf (lookM (den (fun _ => False) w0 L)) []) w w' (lookM (den (fun _ => False) w0 (zipW [] []))) := by
  have hb : Blk w g T cs := hS.blk k (by
    have : lookP L k = some (.blk g T cs) := by simpa using hps.symm
    simp [restr, hasN, lookM_den, this, Pc.den])
  refine (h w hS.below hS.size hb).mono fun e w' ⟨he, hB⟩ => ⟨pay0, he, ?_⟩
  exact stp_of_below hB
/-- A call that makes a buffer. -/
theorem cu_buf {P : Program} {w0 : World} {ps : List (Option Pc)} (k : Nat) (f : FuncId) (args : Array Value) (V : Nat → Value) (bs : List Int)
    (h : ∀ w, Below w0.heap.size w0 w → w0.heap.size ≤ w.heap.size → Calls P f args w fun e w' => ∃ g, e = .returned (V g) ∧ Buf w' g bs ∧ w.heap.size ≤ g ∧ Below w.heap.size w w')
    (L : PL) (w : World) (_ : ps = ([] ++ [k]).map (lookP L)) (hS : Stp (fun _ => False) w0 w (restr ([] ++ [k]) (lookM (den (fun _ => False) w0 L)))) :
    Calls P f args w fun e w' => ∃ x : Pay, e = .returned (V x.g) ∧ Stp (blksOf (lookM (den (fun _ => False) w0 L)) [k]) w w' (lookM (den (fun _ => False) w0 (zipW [k] [some (.buf x.g bs)]))) := by
  refine (h w hS.below hS.size).mono ?_
  rintro e w' ⟨g, rfl, hb, hg, hB⟩
  refine ⟨⟨g, 0, undef, none⟩, rfl, ?_⟩
  exact stp_make (c' := .buf g bs) hB hb fun y hy => by
    have : y = g := hy
    subst this; exact ⟨hb.lt, hg⟩
/-- The same: a row. -/
theorem cu_bufB {P : Program} {w0 : World} {ps : List (Option Pc)} (k : Nat) (f : FuncId) (args : Array Value) (V : Nat → Value) (bs : List Int) (n : Nat) (hn : n = bs.length) (hm : bs.length ≤ 140737488355328)
    (h : ∀ w, Below w0.heap.size w0 w → w0.heap.size ≤ w.heap.size → Calls P f args w fun e w' => ∃ g, e = .returned (V g) ∧ Buf w' g bs ∧ w.heap.size ≤ g ∧ Below w.heap.size w w')
    (L : PL) (w : World) (_ : ps = ([] ++ [k]).map (lookP L)) (hS : Stp (fun _ => False) w0 w (restr ([] ++ [k]) (lookM (den (fun _ => False) w0 L)))) :
    Calls P f args w fun e w' => ∃ x : Pay, e = .returned (V x.g) ∧ Stp (blksOf (lookM (den (fun _ => False) w0 L)) [k]) w w' (lookM (den (fun _ => False) w0 (zipW [k] [some (.bytes w0.heap.size (.slice (some ⟨x.g, 0, none⟩) n n) bs)]))) := by
  refine (h w hS.below hS.size).mono ?_
  rintro e w' ⟨g, rfl, hb, hg, hB⟩
  refine ⟨⟨g, 0, undef, none⟩, rfl, ?_⟩
  subst hn
  have ho := own_of_buf (n := bs.length) hb (Nat.le_trans hS.size hg) rfl hm
  exact stp_make (c' := .bytes _ _ _) hB ho fun y hy => by
    have : g = y := by simpa [Pc.den, ckR, Value.ownBlock] using hy
    subst this; exact ⟨hb.lt, hg⟩
/-- A call that writes into a buffer. -/
theorem cu_put {P : Program} {w0 : World} (k g : Nat) (bs bs' : List Int) (f : FuncId) (args : Array Value)
    (h : ∀ w, Buf w g bs → Calls P f args w fun e w' => e = .returned (.tuple #[]) ∧ Buf w' g bs' ∧ w.grownBy w' (some g))
    (L : PL) (w : World) (hps : [some (Pc.buf g bs)] = ([] ++ [k]).map (lookP L)) (hS : Stp (fun _ => False) w0 w (restr ([] ++ [k]) (lookM (den (fun _ => False) w0 L)))) :
    Calls P f args w fun e w' => ∃ x : Pay, e = .returned (.tuple #[]) ∧ Stp (blksOf (lookM (den (fun _ => False) w0 L)) [k]) w w' (lookM (den (fun _ => False) w0 (zipW [k] [some (.buf g bs')]))) := by
  have hl : lookP L k = some (.buf g bs) := by simpa using hps.symm
  have hb : Buf w g bs := hS.blk k (by simp [restr, hasN, lookM_den, hl, Pc.den])
  refine (h w hb).mono fun e w' ⟨he, hb', hg⟩ => ⟨pay0, he, ?_⟩
  exact stp_turn hl hg (fun g' e => by injection e with e; exact e.symm) hb' fun y hy => by
    have : y = g := hy
    subst this
    exact ⟨hb'.lt, .inr rfl⟩
/-- 'x[l:]' where nothing may be left: then it stays where it is. -/
theorem sliced_beq (b off l h m s : Nat) : sliced (some ⟨b, off, none⟩) l h m s = .slice (some ⟨b, bif Nat.beq m l then off else off + l * s, none⟩) (h - l) (m - l) := by
  unfold sliced
  by_cases e : m = l
  · rw [if_pos e, e, Nat.beq_refl]; rfl
  · rw [if_neg e, (by cases hq : Nat.beq m l with | true => exact absurd (Nat.eq_of_beq_eq_true hq) e | false => rfl : Nat.beq m l = false)]; simp [Addr.add_lit]
def sx {P : Program} {olds : Nat → Prop} {w0 : World} : Step P olds w0 where
  rd := []
  wr := []
  skip := false
  must := true
  V i _ := match slOps i.o.op, i.vals with
    | some (t, true, false), .slice (some a) n c :: r => .slice (some ⟨a.block, bif Nat.beq c (slL true i.vals) then a.off else a.off + slL true i.vals * ixS P t, none⟩) (n - slL true i.vals) (c - slL true i.vals)
    | _, _ => undef
  W _ _ := []
  chk i := match slOps i.o.op, i.vals with
    | some (t, true, false), .slice (some a) n c :: r => (.b (Nat.blt 0 (ixS P t)), .b true) :: (.o a.spot, .o none) :: slIdx true false i.vals
    | _, _ => no
  pre i := match slOps i.o.op, i.vals with
    | some (t, true, false), .slice (some a) n c :: r => slL true i.vals ≤ n ∧ n ≤ c
    | _, _ => True
  ok _ i L a w K Q hc hp hs hv hL hS hK := by
    obtain ⟨o, sem, vals, ps⟩ := i
    revert hc hK hs hv hL hp
    simp only
    split
    · rename_i t A n c r hop
      intro hc hp hs hv hL hK
      have h1 := hc _ (List.mem_cons_self ..)
      have h2 := hc _ (List.mem_cons_of_mem _ (List.mem_cons_self ..))
      have h3 : ∀ x ∈ slIdx true false (.slice (some A) n c :: r), x.1 = x.2 := fun x hx => hc x (List.mem_cons_of_mem _ (List.mem_cons_of_mem _ hx))
      injection h1 with h1
      injection h2 with h2
      simp only [Nat.blt_eq] at h1
      obtain ⟨b, off, spot⟩ := A
      have h2 : spot = none := h2
      subst h2
      obtain ⟨hu, he⟩ := elT_spec h1
      have hsz := szT_run (P := P) (e := elT P t) (by omega)
      have hel : P.underlying t = some (.slice (P.elem t)) := by
        have : P.elem t = elT P t := by simp [Program.elem, hu]
        rw [this]; exact hu
      have hsz' : (sizeOf (P.elem t)).run P w = .ok (ixS P t) w := by
        have : P.elem t = elT P t := by simp [Program.elem, hu]
        rw [this, he]; exact hsz w
      obtain ⟨hp1, hp2⟩ := hp trivial
      refine exec_wp (w' := w) ?_ (hK pay0 w (stp_none w))
      have key : ∀ (x : Operand) (lo hi : Option Operand), o.op = .slice t x lo hi none → a.eval x = .slice (some ⟨b, off, none⟩) n c →
          (Instr.slice t (.slice (some ⟨b, off, none⟩) n c) (lo.map a.eval) (hi.map a.eval) none).run P w = .ok (.slice (some ⟨b, bif Nat.beq c (slL true (.slice (some ⟨b, off, none⟩) n c :: r)) then off else off + slL true (.slice (some ⟨b, off, none⟩) n c :: r) * ixS P t, none⟩) (n - slL true (.slice (some ⟨b, off, none⟩) n c :: r)) (c - slL true (.slice (some ⟨b, off, none⟩) n c :: r))) w →
          (execOp a.eval o).run P w = .ok (.value (.slice (some ⟨b, bif Nat.beq c (slL true (.slice (some ⟨b, off, none⟩) n c :: r)) then off else off + slL true (.slice (some ⟨b, off, none⟩) n c :: r) * ixS P t, none⟩) (n - slL true (.slice (some ⟨b, off, none⟩) n c :: r)) (c - slL true (.slice (some ⟨b, off, none⟩) n c :: r)))) w := fun x lo hi ho hx hr => by
        simp only [execOp, ho, hx, Sem.run_bind, run_sliceAt_slice _ _ _ _ _ _ hel, Option.map_none, hr, Result.andThen_ok, Sem.run_pure]
      unfold slOps at hop
      split at hop
      · rename_i t' x lo heq
        simp only [Option.some.injEq, Prod.mk.injEq] at hop
        obtain ⟨rfl, _, _⟩ := hop
        have hxv := hv
        simp [heq, Op.operands] at hxv
        obtain ⟨hx, hr⟩ := hxv
        subst hr
        have h4 := h3 _ (List.mem_singleton.2 rfl)
        injection h4 with h4
        refine key x (some lo) none heq hx ?_
        simp only [slL] at hp1 hp2 ⊢
        rw [Option.map_some, Option.map_none, h4, run_slice_l _ _ _ _ _ hel _ _ (by omega) (by omega), hsz', Result.andThen_ok, Int.toNat_natCast, sliced_beq]
        rfl
      all_goals simp at hop
    · intro hc; exact no_false hc
theorem stp_oldB {w : World} {g : Nat} {T : TypeId} {cs : Array Value} {L : PL} (h : Stp (fun _ => False) w w (lookM (den (fun _ => False) w L))) (k : Nat) (hb : Blk w g T cs) : Stp (fun _ => False) w w (lookM (den (fun _ => False) w ((k, some (.old g 0 cs.toList)) :: L))) :=
  h.then_ (NL := [(k, _)]) (stp_one k (ckP (OldAt (fun _ => False) w g 0 cs.toList)) (.inl (World.grownBy.refl w _)) ⟨fun j v hj => by rw [Nat.zero_add]; exact (hb.cell j).trans (by simpa using hj), fun _ => ⟨hb.lt, id⟩⟩ fun g hg => hg.elim)
/-- A text as bytes of its own. -/
theorem bytesWorld_txt (w : World) (s : ByteArray) : (ckT w.heap.size (sb s)).ok (Lib.bytesWorld w 5 s) := by
  refine ⟨_, _, Lib.bytesWorld_at_new w 5 s, ?_⟩
  have e : (Lib.bytesCells w 5 s).toList = u8s (sb s) ++ List.replicate (grownCap w s.size 0 5 - s.size) (.int .u8 0) := by
    simp [Lib.bytesCells, u8s, sb, ByteArray.toList_eq]
  rw [e, List.take_append_of_le_length (by rw [u8s_len]; exact Nat.le_refl _), List.take_of_length_le (by rw [u8s_len]; exact Nat.le_refl _)]
def tb {olds : Nat → Prop} {w0 : World} (k : Nat) : Step Tryz.prog olds w0 where
  rd := []
  wr := [k]
  skip := false
  must := false
  V i x := match i.vals with
    | [y] => .slice (some ⟨x.g, 0, none⟩) (sb (strOf y)).length x.c
    | _ => undef
  W i x := match i.vals with
    | [y] => [some (.txt x.g (sb (strOf y)))]
    | _ => []
  chk i := match i.o.op, i.vals with
    | .convert t t' _, [y] => [(.n t, .n 9), (.n t', .n 25), (.v y, .v (.string (strOf y)))]
    | _, _ => no
  pre _ := True
  ok _ i L a w K Q hc _ hs hv hL hS hK := by
    obtain ⟨o, sem, vals, ps⟩ := i
    revert hc hK hs hv hL
    simp only
    split
    · rename_i t t' x y ho
      intro hc hs hv hL hK
      have h1 := hc _ (List.mem_cons_self ..)
      have h2 := hc _ (List.mem_cons_of_mem _ (List.mem_cons_self ..))
      have h3 := hc _ (List.mem_cons_of_mem _ (List.mem_cons_of_mem _ (List.mem_singleton.2 rfl)))
      injection h1 with h1
      injection h2 with h2
      injection h3 with h3
      subst h1 h2
      have hx : a.eval x = y := by simpa [ho, Op.operands] using hv
      have hr := Lib.run_convert_string_bytes (P := Tryz.prog) w 9 25 5 (strOf y) Tryz.underlying9 Tryz.underlying25 Tryz.underlying5
      have hsz := Lib.bytesWorld_size w 5 (strOf y)
      have hg : w.grownBy (Lib.bytesWorld w 5 (strOf y)) none := ⟨rfl, rfl, rfl, by rw [hsz]; omega, fun j hj _ => Lib.bytesWorld_at_old w _ _ j hj⟩
      refine exec_wp (w' := Lib.bytesWorld w 5 (strOf y)) ?_ (hK ⟨w.heap.size, grownCap w (strOf y).size 0 5, undef, none⟩ _ (stp_one k (ckT w.heap.size (sb (strOf y))) (.inl hg) (bytesWorld_txt w _) fun z hz => ⟨by have : z = w.heap.size := hz; rw [this, hsz]; omega, .inl (Nat.le_of_eq hz.symm)⟩))
      show (execOp a.eval o).run Tryz.prog w = .ok (.value (.slice (some ⟨w.heap.size, 0, none⟩) (sb (strOf y)).length (grownCap w (strOf y).size 0 5))) (Lib.bytesWorld w 5 (strOf y))
      rw [sb_len]
      rw [← h3] at hr
      simp only [execOp, ho, hx, Sem.run_bind, hr, Result.andThen_ok, Sem.run_pure]
    · intro hc; exact no_false hc
theorem stp_buf1 {w : World} {g : Nat} {bs : List Int} (hb : Buf w g bs) : Stp (· = g) w w (lookM (den (· = g) w [(1, some (.buf g bs))])) :=
  stp_one 1 (Pc.den (· = g) w (.buf g bs)) (.inl (World.grownBy.refl w _)) hb fun y hy => ⟨by have : y = g := hy; subst this; exact hb.lt, .inr hy⟩
def be64 (x : Int) : List Int := be32 (x / 4294967296) ++ be32 (x % 4294967296)
theorem be64_len (x : Int) : (be64 x).length = 8 := rfl
theorem put_put (bs a b : List Int) (off : Nat) (h : off + a.length + b.length ≤ bs.length) : put (put bs off a) (off + a.length) b = put bs off (a ++ b) := by
  have h1 : (bs.take off).length = off := by simp; omega
  simp only [put, List.length_append]
  rw [List.append_assoc (List.take off bs) a, ← List.append_assoc (List.take off bs) a, List.take_left' (by simp; omega), List.drop_append, List.drop_eq_nil_of_le (by simp; omega), List.nil_append, List.drop_drop]
  simp only [List.length_append, List.append_assoc, h1]
  congr 4; omega
set_option maxRecDepth 100000 in
theorem put64_any (g off len cap : Nat) (bs : List Int) (x : Int) (w : World) (hb : Buf w g bs) (hl : 8 ≤ len) (hc : len ≤ cap) (ho : off + 8 ≤ bs.length) (h0 : 0 ≤ x) (h1 : x < 18446744073709551616) :
    Calls Tryz.prog 103 #[.slice (some ⟨g, off, none⟩) len cap, .int .u64 x] w fun e w' => e = .returned (.tuple #[]) ∧ Buf w' g (put bs off (be64 x)) ∧ w.grownBy w' (some g) := by
  have hw1 : IntKind.u32.wrap (x.fdiv 4294967296) = x / 4294967296 := by rw [IntKind.wrap_u32, Int.fdiv_eq_ediv_of_nonneg _ (by omega)]; omega
  have hw2 : IntKind.u32.wrap x = x % 4294967296 := IntKind.wrap_u32 _
  have hq : bs.length ≤ bs.length := Nat.le_refl _
  refine go_in Tryz.func103 rfl Tryz.ntmps103 [sv g off len cap, .int .u64 x] fun a hE => ?_
  have hS := stp_buf1 hb
  refine rgp hE hS [pu, ix, lb 1] (fun _ => kp []) (fun _ => kP []) (fun _ => ⟨kr (show 7 < len by omega), kr (show off + 7 < bs.length by omega), trivial⟩) fun _ a u hE hS => ?_
  refine rgp hE hS [pu, pu, pu, pe (.int .u32 (x / 4294967296)), cl put32c [] [1]] (fun _ => kp []) (fun _ => kP [(1, some (.buf g (put bs off (be32 (x / 4294967296)))))]) (fun _ => ⟨kr (congrArg (Value.int .u32) hw1), kr (show 4 ≤ len ∧ off + 4 ≤ bs.length ∧ 0 ≤ x / 4294967296 ∧ x / 4294967296 < 4294967296 by omega), trivial⟩) fun _ a u hE hS => ?_
  refine rgE hE hS [pu, sc, pu, pe (.int .u32 (x % 4294967296)), cl put32c [] [1]] (fun _ => kp []) (fun _ => kP [(1, some (.buf g (put (put bs off (be32 (x / 4294967296))) (off + 4) (be32 (x % 4294967296)))))]) (fun _ => ⟨kr (show 4 ≤ len ∧ len ≤ cap ∧ (4 < cap ∨ 4 = 0) by omega), kr (congrArg (Value.int .u32) hw2), kr (show 4 ≤ len - 4 ∧ off + 4 + 4 ≤ (put bs off (be32 (x / 4294967296))).length ∧ 0 ≤ x % 4294967296 ∧ x % 4294967296 < 4294967296 by rw [put_len _ _ _ (by simp only [be32_len]; omega)]; omega), trivial⟩) fun _ a u hE hS => ?_
  refine bodyPost_leave0 rfl hE.defers ⟨rfl, ?_, ⟨hS.os, hS.tape, hS.output, hS.size, fun k hk hn => hS.kept k hk fun e => hn (by rw [e])⟩⟩
  have : Buf u g (put (put bs off (be32 (x / 4294967296))) (off + 4) (be32 (x % 4294967296))) := pcF hS 1
  have e : put (put bs off (be32 (x / 4294967296))) (off + 4) (be32 (x % 4294967296)) = put bs off (be64 x) := put_put bs (be32 (x / 4294967296)) (be32 (x % 4294967296)) off (by simp only [be32_len]; omega)
  rwa [e] at this
end Go.Proofs.YtmmfpgoodfgkbaaGreat
