/-
  THE WALK of the reference's reading of one packet. Condition: the contracts of the reading of its body.
-/
import Derived.Test.YtmmfpgoodfgkbaaGreatDoorMRfb
import Derived.Test.YtmmfpgoodfgkbaaGreatDoorRdHd2
import Derived.Test.YtmmfpgoodfgkbaaGreatDoorMRk
namespace Go.Proofs.YtmmfpgoodfgkbaaGreatDoor
open Go Go.RowKit
set_option maxHeartbeats 4000000
set_option maxRecDepth 100000
set_option linter.unusedVariables false
set_option linter.unusedSimpArgs false

structure Hd (z : List Int) (pad : Bool) (n : Nat) (t : Int) (L : Nat) : Prop where
 byts : Byts z
 len : 4 ≤ z.length
 ver : gi z 0 / 64 = 2
 pad : (bits .and .u8 (gi z 0) 32 != 0) = pad
 cnt : bits .and .u8 (gi z 0) 31 = (n : Int)
 cnt31 : n ≤ 31
 ty : gi z 1 = t
 ln : rd16 z 2 = (L : Int)
theorem hd_any {z : List Int} (hz : Byts z) (h4 : 4 ≤ z.length) (hv : gi z 0 / 64 = 2) : ∃ pad n t L, Hd z pad n t L := by
 have h0 := hz.gi 0
 have h1 := rd16_lt hz 2
 have hb : bits .and .u8 (gi z 0) 31 = gi z 0 % 32 := by
  have h31 : (BitVec.ofInt 8 31).toNat = 2 ^ 5 - 1 := by decide
  have key : (BitVec.ofInt 8 (gi z 0) &&& BitVec.ofInt 8 31).toNat = (gi z 0 % ((2 ^ 8 : Nat) : Int)).toNat % 2 ^ 5 := by
   rw [BitVec.toNat_and, BitVec.toNat_ofInt, h31, Nat.and_two_pow_sub_one_eq_mod]
  show IntKind.u8.wrap ((BitVec.ofInt 8 (gi z 0) &&& BitVec.ofInt 8 31).toNat : Nat) = _
  rw [key, IntKind.wrap_u8]
  omega
 exact ⟨_, (gi z 0 % 32).toNat, _, (rd16 z 2).toNat, hz, h4, hv, rfl, by rw [hb]; omega, by omega, rfl, by omega⟩
def RoneOut (w : World) (R : Pkt → Prop) (e : Ending) (w' : World) : Prop :=
 (∃ cs v, e = .returned (.tuple #[.agg cs, .int .i64 v]) ∧ v ≠ 0 ∧ cs = pNul.cells ∧ Below w.heap.size w w') ∨ ∃ q : Pkt, e = .returned (.tuple #[.agg q.cells, .int .i64 0]) ∧ R q ∧ q.Lies w' w'.heap.size ∧ Below w.heap.size w w'
def blkA : Option Addr → Nat
 | some a => a.block
 | none => 0
def ckO (g : Nat) (x : Pay) : Ck := ⟨fun y => y = g, fun w => x.c = 1 → Blk w g 38 (dP x.v).cells, fun w w' hk h e => by
 exact (ckB g 38 (dP x.v).cells).st w w' (fun y hy => hk y hy) (h e)⟩
def ckN (R : Pkt → Prop) (x : Pay) : Ck := ⟨fun y => x.g ≤ y ∧ y < blkA x.a, fun w => x.c = 1 → (dP x.v).NewR w x.g (blkA x.a) ∧ R (dP x.v), fun w w' hk h e => ⟨(h e).1.st hk, (h e).2⟩⟩
theorem look2 {a b c : Ck} {k k' n : Nat} (h : lookM [(k, some a), (k', some b)] n = some c) : (n = k ∧ c = a) ∨ (n = k' ∧ c = b) := by
 simp only [lookM] at h
 cases h1 : Nat.beq k n with
 | true => rw [h1] at h; simp only [cond_true, Option.some.injEq] at h; exact .inl ⟨(Nat.eq_of_beq_eq_true h1).symm, h.symm⟩
 | false =>
  rw [h1] at h
  simp only [cond_false] at h
  cases h2 : Nat.beq k' n with
  | true => rw [h2] at h; simp only [cond_true, Option.some.injEq] at h; exact .inr ⟨(Nat.eq_of_beq_eq_true h2).symm, h.symm⟩
  | false => rw [h2] at h; simp at h
theorem pcH {w0 w : World} {L0 : PL} (hS : Stp (fun _ => False) w0 w (lookM (den (fun _ => False) w0 L0))) (k : Nat) {g : Nat} {T : TypeId} {cs : Array Value} (h : lookP L0 k = some (.blk g T cs) := by kernel_rfl) : w0.heap.size ≤ g := hS.ge k (by rw [lookM_den, h]; rfl)
theorem beq_bif (b : Bool) : (Nat.beq (bif b then 1 else 0) 1) = b := by cases b <;> rfl
section
variable {olds : Nat → Prop} {w0 : World}
theorem cu_rd {f : FuncId} {args : Array Value} {R : Pkt → Prop} {g : Nat} {cs : Array Value} {j B : Nat} {A : Option Addr} {l : List Int} {u : Option Pc}
  (h : ∀ w, w0.heap.size ≤ w.heap.size → Blk w g 38 cs → (∀ n, (∀ x, x < B → x < w0.heap.size ∧ ¬ olds x) → n = l.length → Reads w B 1 A n (u8s l) → Byts l → Calls Tryz.prog f args w (RdOut g w R)))
  (L : PL) (w : World) (hps : [some (.ry (fun x => x < B) A l), some (.blk g 38 cs), u] = ([j] ++ [101, 96]).map (lookP L)) (hS : Stp olds w0 w (restr ([j] ++ [101, 96]) (lookM (den olds w0 L)))) :
  Calls Tryz.prog f args w fun e w' => ∃ x : Pay, e = .returned (.bool (Nat.beq x.c 1)) ∧ Stp (blksOf (lookM (den olds w0 L)) [101, 96]) w w' (lookM (den olds w0 (zipW [101, 96] [some (.ck (ckO g x)), some (.ck (ckN R x))]))) := by
 simp only [List.cons_append, List.nil_append, List.map_cons, List.map_nil, List.cons.injEq] at hps
 have hl1 : lookM (den olds w0 L) 101 = some (ckB g 38 cs) := by rw [lookM_den, ← hps.2.1]; rfl
 have r1 : restr ([j] ++ [101, 96]) (lookM (den olds w0 L)) 101 = some (ckB g 38 cs) := by simp [restr, hasN, hl1]
 have rj : restr ([j] ++ [101, 96]) (lookM (den olds w0 L)) j = some (ckP (RdB olds w0 (fun x => x < B) A l ∧ Byts l)) := by simp [restr, hasN, lookM_den, ← hps.1, Pc.den]
 have hb : Blk w g 38 cs := hS.blk 101 r1
 have hpc := hS.pure_ j rj
 obtain ⟨⟨hr, hB⟩, hz⟩ := hpc
 replace hr := hr.reads
 have hr' : Reads w B 1 A l.length (u8s l) := ⟨hr.1, fun hn => by
  obtain ⟨ad, e, h1, h2⟩ := hr.2 hn
  exact ⟨ad, e, h1, fun i v hv => (World.cell?_of_block (by rw [block_of_add]; exact hS.kept _ (hB _ h1).1 (hB _ h1).2)).trans (h2 i v hv)⟩⟩
 refine (h w hS.size hb l.length hB rfl hr' hz).mono ?_
 rintro e w' ⟨ok, rfl, hg, hq⟩
 have key : ∀ q : Pkt, (ok = true → Blk w' g 38 q.cells ∧ q.NewR w' w.heap.size w'.heap.size ∧ R q) → ∃ x : Pay, (Ending.returned (.bool ok) = Ending.returned (.bool (Nat.beq x.c 1))) ∧ Stp (blksOf (lookM (den olds w0 L)) [101, 96]) w w' (lookM (den olds w0 (zipW [101, 96] [some (.ck (ckO g x)), some (.ck (ckN R x))]))) := fun q hq => by
  refine ⟨⟨w.heap.size, bif ok then 1 else 0, vP q, some ⟨w'.heap.size, 0, none⟩⟩, by rw [beq_bif], ?_⟩
  have hok : (bif ok then 1 else 0) = 1 → ok = true := by cases ok <;> simp
  have ho : blksOf (lookM (den olds w0 L)) [101, 96] g := ⟨101, by simp, _, hl1, rfl⟩
  refine ⟨hg.os, hg.tape, hg.output, hg.size, fun y hy hn => hg.block y hy fun e => hn (by injection e with e; subst e; exact ho), fun n c hc => ?_, fun n c hc y hy => ?_, fun n n' c c' hc hc' hne y hy hy' => ?_⟩
  ·rcases look2 hc with ⟨_, rfl⟩ | ⟨_, rfl⟩
   ·intro e; rw [dP_v]; exact (hq (hok e)).1
   ·intro e; rw [dP_v]; exact (hq (hok e)).2
  ·rcases look2 hc with ⟨_, rfl⟩ | ⟨_, rfl⟩
   ·obtain rfl : y = g := hy
    exact ⟨Nat.lt_of_lt_of_le hb.lt hg.size, .inr ho⟩
   ·exact ⟨hy.2, .inl hy.1⟩
  ·have hgl := hb.lt
   rcases look2 hc with ⟨rfl, rfl⟩ | ⟨rfl, rfl⟩ <;> rcases look2 hc' with ⟨rfl, rfl⟩ | ⟨rfl, rfl⟩
   ·exact hne rfl
   ·have h1 : y = g := hy
    have h2 : w.heap.size ≤ y ∧ y < w'.heap.size := hy'
    omega
   ·have h1 : y = g := hy'
    have h2 : w.heap.size ≤ y ∧ y < w'.heap.size := hy
    omega
   ·exact hne rfl
 cases ok with
 | true =>
  obtain ⟨q, hq⟩ := hq rfl
  exact key q fun _ => hq
 | false => exact key pNul fun h => by cases h
end
theorem cu_hdr {w0 : World} {z : List Int} {pad : Bool} {n : Nat} {t : Int} {L : Nat} (hd : Hd z pad n t L) {B : Nat} (j : Nat) (A : Option Addr) (m c : Nat) (hm : m = z.length) (hc : z.length ≤ c)
  (L' : PL) (w : World) (hps : [some (.ry (fun x => x < B) A z)] = ([j] ++ []).map (lookP L')) (hS : Stp (fun _ => False) w0 w (restr ([j] ++ []) (lookM (den (fun _ => False) w0 L')))) :
  Calls Tryz.prog 7 #[.slice A m c] w fun e w' => ∃ x : Pay, e = .returned (.tuple #[.agg #[.bool pad, .int .u8 (n : Nat), .int .u8 t, .int .u16 (L : Nat)], .bool true]) ∧ Stp (blksOf (lookM (den (fun _ => False) w0 L')) []) w w' (lookM (den (fun _ => False) w0 (zipW [] []))) := by
 subst hm
 have hps' : [some (Pc.ry (fun x => x < B) A z)] = [j].map (lookP L') := by simpa using hps
 have hpc : RdB (fun _ => False) w0 (fun x => x < B) A z ∧ Byts z := hS.pure_ j (one_pc (olds := fun _ => False) (w0 := w0) hps').2
 have hr := rdb_kept hS hpc.1
 have h4 := hd.len
 obtain ⟨b, o, rfl, _⟩ := Reads.addr hr (by omega) (by omega)
 refine (readHeader_ok hr (Nat.le_refl _) (hpc.2.gi 0) (hpc.2.gi 1) (hpc.2.gi 2) (hpc.2.gi 3) hd.len hc hpc.2 hd.ver).mono fun e w' ⟨he, hB⟩ => ⟨pay0, ?_, stp_of_below hB⟩
 rw [he]
 unfold hdrR
 rw [hd.pad, hd.cnt, hd.ty, hd.ln]
theorem cu_kind {w0 : World} (pad : Bool) (n : Nat) (t : Int) (L : Nat) (k : Int) (hk : kindOf (n : Nat) t = k)
  (L' : PL) (w : World) (hps : [] = ([] ++ []).map (lookP L')) (hS : Stp (fun _ => False) w0 w (restr ([] ++ []) (lookM (den (fun _ => False) w0 L')))) :
  Calls Tryz.prog 36 #[.agg #[.bool pad, .int .u8 (n : Nat), .int .u8 t, .int .u16 (L : Nat)]] w fun e w' => ∃ x : Pay, e = .returned (.int .i64 k) ∧ Stp (blksOf (lookM (den (fun _ => False) w0 L')) []) w w' (lookM (den (fun _ => False) w0 (zipW [] []))) :=
 (kindOf_any pad n t L w).mono fun e w' ⟨he, hB⟩ => ⟨pay0, by rw [he, hk], stp_of_below hB⟩
theorem stp_yes {w0 w : World} {L : PL} {g : Nat} {x : Pay} (hS : Stp (fun _ => False) w0 w (lookM (den (fun _ => False) w0 L))) (h1 : x.c = 1) (hk : lookP L 101 = some (.ck (ckO g x)) := by kernel_rfl) (hc : (endChk ⟨[], (101, some (.blk g 38 (dP x.v).cells)) :: L⟩ ⟨[], kP [(101, some (.blk g 38 (dP x.v).cells))] L⟩).map (·.1) = (endChk ⟨[], (101, some (.blk g 38 (dP x.v).cells)) :: L⟩ ⟨[], kP [(101, some (.blk g 38 (dP x.v).cells))] L⟩).map (·.2) := by kernel_rfl) : Stp (fun _ => False) w0 w (lookM (den (fun _ => False) w0 (kP [(101, some (.blk g 38 (dP x.v).cells))] L))) := by
 have hM : lookM (den (fun _ => False) w0 L) 101 = some (ckO g x) := by rw [lookM_den, hk]; rfl
 have hb : Blk w g 38 (dP x.v).cells := hS.ok 101 _ hM h1
 refine end_mem (s := ⟨[], (101, some (.blk g 38 (dP x.v).cells)) :: L⟩) (s' := ⟨[], _⟩) (fst_snd hc) ?_
 exact hS.then_ (NL := [(101, _)]) (stp_one 101 (ckB g 38 (dP x.v).cells) (.inl (World.grownBy.refl w _)) hb fun y hy => ⟨by have e : y = g := hy; rw [e]; exact hb.lt, .inr ⟨101, List.mem_singleton.2 rfl, _, hM, hy⟩⟩)
theorem readOne_fb (k : Int) (R : Pkt → Prop) (B b o c : Nat) (z : List Int) (w : World) (hr : Reads w B 1 (some ⟨b, o, none⟩) z.length (u8s z)) (hB : B ≤ w.heap.size) (hc : z.length ≤ c) (hl : z.length ≤ 131072) (n : Nat) (t : Int) (L : Nat) (hd : Hd z false n t L) (hzl : z.length = 4 * (L + 1)) (hk : kindOf (n : Nat) t = k) (hk6 : 6 ≤ k)
  (hfb : ∀ g B b o c w', Blk w' g 38 (pFb k (rd32 (z.drop 4) 0) (rd32 ((z.drop 4).drop 4) 0)).cells → Reads w' B 1 (some ⟨b, o, none⟩) (z.drop 4).length (u8s (z.drop 4)) → B ≤ g → 8 ≤ (z.drop 4).length → (z.drop 4).length ≤ c → Calls Tryz.prog 42 #[.pointer (some ⟨g, 0, none⟩), .slice (some ⟨b, o, none⟩) (z.drop 4).length c, .agg #[.bool false, .int .u8 (n : Nat), .int .u8 t, .int .u16 (L : Nat)]] w' (RdOut g w' R)) :
  Calls Tryz.prog 10 #[.slice (some ⟨b, o, none⟩) z.length c] w (RoneOut w R) := by
 by_cases h8 : (z.drop 4).length < 8
 ·skip
  refine go_in Tryz.func10 rfl Tryz.ntmps10 [sv b o z.length c] fun a hE => ?_
  have hS := stp_in w
  have hS := stp_ry hS 110 hr (fun x hx => ⟨by omega, id⟩) hd.byts
  have hn31 := hd.cnt31
  have h4 := hd.len
  have hL : L ≤ 65535 := by have h1 := hd.ln; have h2 := rd16_lt hd.byts 2; omega
  refine rg hE hS [nw 102, pu] (fun p1 => kp [(2, pt (p1 0).g 0), (3, .int .i64 0)]) (fun p1 => kP [(102, some (.blk (p1 0).g 38 zP))]) fun p1 a u hE hS => ?_
  refine rgp hE hS [pu, cu 7 [110] [] (fun _ => .tuple #[.agg #[.bool false, .int .u8 (n : Nat), .int .u8 t, .int .u16 (L : Nat)], .bool true]) (fun _ => []), pu, pu, pu, nw 103, st 103, pu] (fun p2 => kp [(4, pt (p2 5).g 0), (5, .bool true)]) (fun p2 => kP [(103, some (.blk (p2 5).g 36 #[.bool false, .int .u8 (n : Nat), .int .u8 t, .int .u16 (L : Nat)]))]) (fun _ => ⟨kr (cu_hdr (w0 := w) hd (B := B) 110 (some ⟨b, o, none⟩) z.length c rfl hc), trivial⟩) fun p2 a u hE hS => ?_
  refine wp_seq ?_
  refine rgp hE hS [pu, pu, pu, pu, ld 103, pe (.int .i64 (L : Nat)), pe (.int .i64 ((L + 1 : Nat) : Int)), pe (.int .i64 ((4 * (L + 1) : Nat) : Int)), pu, pu, pe (.bool false), pu] (fun _ => kp [(25, .bool false)]) kP0 (fun _ => ⟨kr (ciV (wiV ((L : Nat) : Int) (by omega))), kr (ciV (show IntKind.i64.wrap (((L : Nat) : Int) + (1 : Int)) = ((L + 1 : Nat) : Int) from by rw [wiV _ (by omega)]; omega)), kr (ciV (show IntKind.i64.wrap ((4 : Int) * ((L + 1 : Nat) : Int)) = ((4 * (L + 1) : Nat) : Int) from by rw [wiV _ (by omega)]; omega)), kr (cbV (show (((4 * (L + 1) : Nat) : Int) != ((z.length : Nat) : Int)) = false by rw [hzl]; simp)), trivial⟩) fun _ a u hE hS => iff hE <| wp_skip ?_
  refine rgp hE hS [ld 103, cu 36 [] [] (fun _ => .int .i64 k) (fun _ => []), pu, nw 101, st 101] (fun p4 => kp [(6, pt (p4 3).g 0)]) (fun p4 => kP [(101, some (.blk (p4 3).g 38 (pFb k 0 0).cells))]) (fun _ => ⟨kr (cu_kind (w0 := w) false n t L k hk), trivial⟩) fun p4 a u hE hS => ?_
  refine wp_seq ?_
  refine rgp hE hS [pu, ld 101, pe (.bool false)] (fun _ => kp [(32, .bool false)]) kP0 (fun _ => ⟨kr (cbV (nbV (show (k : Int) ≠ 0 by omega))), trivial⟩) fun _ a u hE hS => iff hE <| wp_skip ?_
  refine wp_seq ?_
  refine rg hE hS [pu, ld 103] (fun _ => kp [(41, .bool false)]) kP0 fun _ a u hE hS => iff hE <| wp_skip ?_
  refine rgp hE hS [pu, rsl 110 111, pu] (fun p7 => kp [(7, sv (p7 1).g (p7 1).c (z.drop 4).length (c - 4))]) (fun p7 => kP [(111, some (.ry (fun x => x < B) ((some ⟨(p7 1).g, (p7 1).c, none⟩)) (z.drop 4)))]) (fun _ => ⟨kr (show 4 ≤ z.length ∧ z.length ≤ z.length ∧ z.length ≤ c by omega), trivial⟩) fun p7 a u hE hS => ?_
  have hl4 : (z.drop 4).length = z.length - 4 := List.length_drop
  refine rgp hE hS [pu, ld 103, pe (.int .i64 (n : Nat)), pu] (fun _ => kp [(8, .int .i64 (n : Nat))]) kP0 (fun _ => ⟨kr (ciV (wiV ((n : Nat) : Int) (by omega))), trivial⟩) fun _ a u hE hS => ?_
  refine rg hE hS [pu] (fun _ => kp [(5, .bool false)]) kP0 fun _ a u hE hS => ?_
  refine wp_seq ?_
  refine rg hE hS [pu, ld 101] (fun _ => kp [(49, .int .i64 k)]) kP0 fun _ a u hE hS => wp_block ?_
  refine rgp hE hS [pe (.bool false), pu] (fun _ => kp [(64, .bool false)]) kP0 (fun _ => ⟨kr (cbV (nbV (show (k : Int) ≠ 1 by omega))), trivial⟩) fun _ a u hE hS => iff hE ?_
  refine rgp hE hS [pe (.bool false), pu] (fun _ => kp [(101, .bool false)]) kP0 (fun _ => ⟨kr (cbV (nbV (show (k : Int) ≠ 2 by omega))), trivial⟩) fun _ a u hE hS => iff hE ?_
  refine rgp hE hS [pe (.bool false), pu] (fun _ => kp [(122, .bool false)]) kP0 (fun _ => ⟨kr (cbV (nbV (show (k : Int) ≠ 3 by omega))), trivial⟩) fun _ a u hE hS => iff hE ?_
  refine rgp hE hS [pe (.bool false), pu] (fun _ => kp [(127, .bool false)]) kP0 (fun _ => ⟨kr (cbV (nbV (show (k : Int) ≠ 4 by omega))), trivial⟩) fun _ a u hE hS => iff hE ?_
  refine rgp hE hS [pe (.bool false), pu] (fun _ => kp [(132, .bool false)]) kP0 (fun _ => ⟨kr (cbV (nbV (show (k : Int) ≠ 5 by omega))), trivial⟩) fun _ a u hE hS => iff hE ?_
  refine rgp hE hS [pu, pu, pe (.bool false), pu] (fun _ => kp [(5, .bool false)]) kP0 (fun _ => ⟨kr (cbV (dfV (show ¬ ((((z.drop 4).length : Nat) : Int) ≥ 8) by omega))), trivial⟩) fun _ a u hE hS => ?_
  refine rg hE hS [pu] (fun _ => kp [(53, .bool false)]) kP0 fun _ a u hE hS => iff hE <| wp_skip ?_
  refine wp_seq ?_
  refine rg hE hS [pu, pu] (fun _ => kp [(152, .bool true)]) kP0 fun _ a u hE hS => ift hE ?_
  refine rg hE hS [pu, st 102, pu] (fun _ => kp [(3, .int .i64 2)]) kP0 fun _ a u hE hS => ?_
  refine wp_ret (thR ?_)
  exact retct hE hS Tryz.results10 102 (p1 0).g 38 pNul.cells (.agg pNul.cells) (.int .i64 2) (.inl ⟨_, _, rfl, by decide, rfl, hS.below⟩)
 ·skip
  refine go_in Tryz.func10 rfl Tryz.ntmps10 [sv b o z.length c] fun a hE => ?_
  have hS := stp_in w
  have hS := stp_ry hS 110 hr (fun x hx => ⟨by omega, id⟩) hd.byts
  have hn31 := hd.cnt31
  have h4 := hd.len
  have hL : L ≤ 65535 := by have h1 := hd.ln; have h2 := rd16_lt hd.byts 2; omega
  refine rg hE hS [nw 102, pu] (fun p1 => kp [(2, pt (p1 0).g 0), (3, .int .i64 0)]) (fun p1 => kP [(102, some (.blk (p1 0).g 38 zP))]) fun p1 a u hE hS => ?_
  refine rgp hE hS [pu, cu 7 [110] [] (fun _ => .tuple #[.agg #[.bool false, .int .u8 (n : Nat), .int .u8 t, .int .u16 (L : Nat)], .bool true]) (fun _ => []), pu, pu, pu, nw 103, st 103, pu] (fun p2 => kp [(4, pt (p2 5).g 0), (5, .bool true)]) (fun p2 => kP [(103, some (.blk (p2 5).g 36 #[.bool false, .int .u8 (n : Nat), .int .u8 t, .int .u16 (L : Nat)]))]) (fun _ => ⟨kr (cu_hdr (w0 := w) hd (B := B) 110 (some ⟨b, o, none⟩) z.length c rfl hc), trivial⟩) fun p2 a u hE hS => ?_
  refine wp_seq ?_
  refine rgp hE hS [pu, pu, pu, pu, ld 103, pe (.int .i64 (L : Nat)), pe (.int .i64 ((L + 1 : Nat) : Int)), pe (.int .i64 ((4 * (L + 1) : Nat) : Int)), pu, pu, pe (.bool false), pu] (fun _ => kp [(25, .bool false)]) kP0 (fun _ => ⟨kr (ciV (wiV ((L : Nat) : Int) (by omega))), kr (ciV (show IntKind.i64.wrap (((L : Nat) : Int) + (1 : Int)) = ((L + 1 : Nat) : Int) from by rw [wiV _ (by omega)]; omega)), kr (ciV (show IntKind.i64.wrap ((4 : Int) * ((L + 1 : Nat) : Int)) = ((4 * (L + 1) : Nat) : Int) from by rw [wiV _ (by omega)]; omega)), kr (cbV (show (((4 * (L + 1) : Nat) : Int) != ((z.length : Nat) : Int)) = false by rw [hzl]; simp)), trivial⟩) fun _ a u hE hS => iff hE <| wp_skip ?_
  refine rgp hE hS [ld 103, cu 36 [] [] (fun _ => .int .i64 k) (fun _ => []), pu, nw 101, st 101] (fun p4 => kp [(6, pt (p4 3).g 0)]) (fun p4 => kP [(101, some (.blk (p4 3).g 38 (pFb k 0 0).cells))]) (fun _ => ⟨kr (cu_kind (w0 := w) false n t L k hk), trivial⟩) fun p4 a u hE hS => ?_
  refine wp_seq ?_
  refine rgp hE hS [pu, ld 101, pe (.bool false)] (fun _ => kp [(32, .bool false)]) kP0 (fun _ => ⟨kr (cbV (nbV (show (k : Int) ≠ 0 by omega))), trivial⟩) fun _ a u hE hS => iff hE <| wp_skip ?_
  refine wp_seq ?_
  refine rg hE hS [pu, ld 103] (fun _ => kp [(41, .bool false)]) kP0 fun _ a u hE hS => iff hE <| wp_skip ?_
  refine rgp hE hS [pu, rsl 110 111, pu] (fun p7 => kp [(7, sv (p7 1).g (p7 1).c (z.drop 4).length (c - 4))]) (fun p7 => kP [(111, some (.ry (fun x => x < B) ((some ⟨(p7 1).g, (p7 1).c, none⟩)) (z.drop 4)))]) (fun _ => ⟨kr (show 4 ≤ z.length ∧ z.length ≤ z.length ∧ z.length ≤ c by omega), trivial⟩) fun p7 a u hE hS => ?_
  have hl4 : (z.drop 4).length = z.length - 4 := List.length_drop
  refine rgp hE hS [pu, ld 103, pe (.int .i64 (n : Nat)), pu] (fun _ => kp [(8, .int .i64 (n : Nat))]) kP0 (fun _ => ⟨kr (ciV (wiV ((n : Nat) : Int) (by omega))), trivial⟩) fun _ a u hE hS => ?_
  refine rg hE hS [pu] (fun _ => kp [(5, .bool false)]) kP0 fun _ a u hE hS => ?_
  refine wp_seq ?_
  refine rg hE hS [pu, ld 101] (fun _ => kp [(49, .int .i64 k)]) kP0 fun _ a u hE hS => wp_block ?_
  refine rgp hE hS [pe (.bool false), pu] (fun _ => kp [(64, .bool false)]) kP0 (fun _ => ⟨kr (cbV (nbV (show (k : Int) ≠ 1 by omega))), trivial⟩) fun _ a u hE hS => iff hE ?_
  refine rgp hE hS [pe (.bool false), pu] (fun _ => kp [(101, .bool false)]) kP0 (fun _ => ⟨kr (cbV (nbV (show (k : Int) ≠ 2 by omega))), trivial⟩) fun _ a u hE hS => iff hE ?_
  refine rgp hE hS [pe (.bool false), pu] (fun _ => kp [(122, .bool false)]) kP0 (fun _ => ⟨kr (cbV (nbV (show (k : Int) ≠ 3 by omega))), trivial⟩) fun _ a u hE hS => iff hE ?_
  refine rgp hE hS [pe (.bool false), pu] (fun _ => kp [(127, .bool false)]) kP0 (fun _ => ⟨kr (cbV (nbV (show (k : Int) ≠ 4 by omega))), trivial⟩) fun _ a u hE hS => iff hE ?_
  refine rgp hE hS [pe (.bool false), pu] (fun _ => kp [(132, .bool false)]) kP0 (fun _ => ⟨kr (cbV (nbV (show (k : Int) ≠ 5 by omega))), trivial⟩) fun _ a u hE hS => iff hE ?_
  refine rgp hE hS [pu, pu, pe (.bool true), pu] (fun _ => kp [(5, .bool true)]) kP0 (fun _ => ⟨kr (cbV (dtV (show (((z.drop 4).length : Nat) : Int) ≥ 8 by omega))), trivial⟩) fun _ a u hE hS => ?_
  refine rg hE hS [pu] (fun _ => kp [(53, .bool true)]) kP0 fun _ a u hE hS => ift hE ?_
  refine dgp hE hS [pu, cl cU32 [111] [], pu, rsl 111 112, cl cU32 [112] [], pu, st 101, pu, st 101] kp0 (fun _ => kP [(101, some (.blk (p4 3).g 38 ((pFb k (rd32 (z.drop 4) 0) (rd32 ((z.drop 4).drop 4) 0)).cells)))]) (fun _ => ⟨kr (show 4 ≤ (z.drop 4).length ∧ (z.drop 4).length ≤ (c - 4) ∧ 0 < (z.drop 4).length by omega), kr (show 4 ≤ (z.drop 4).length ∧ (z.drop 4).length ≤ (z.drop 4).length ∧ (z.drop 4).length ≤ (c - 4) by omega), kr (show 4 ≤ ((z.drop 4).drop 4).length ∧ ((z.drop 4).drop 4).length ≤ ((c - 4) - 4) ∧ 0 < ((z.drop 4).drop 4).length by simp only [List.length_drop] at *; omega), trivial⟩) fun _ a u hE hS => ?_
  have hgm := pcH (g := (p4 3).g) (T := 38) (cs := (pFb k (rd32 (z.drop 4) 0) (rd32 ((z.drop 4).drop 4) 0)).cells) hS 101
  refine rgE hE hS [pu, ld 103, cu 42 [111] [101, 96] (fun y => .bool (Nat.beq y.c 1)) (fun y => [some (.ck (ckO (p4 3).g y)), some (.ck (ckN R y))]), pu] (fun p19 => kp [(5, .bool (Nat.beq (p19 2).c 1))]) (fun p19 => kP [(101, some (.ck (ckO (p4 3).g (p19 2)))), (96, some (.ck (ckN R (p19 2))))]) (fun _ => ⟨kr (cu_rd (w0 := w) (B := B) (j := 111) (u := none) (olds := fun _ => False) (R := R) fun w4 hsz hb4 n4 hB4 hn4 hr4 hz4 => by subst hn4; exact hfb (p4 3).g B (p7 1).g (p7 1).c (c - 4) w4 hb4 hr4 (Nat.le_trans (Nat.le_of_not_lt fun hlt => absurd (hB4 _ hlt).1 (Nat.lt_irrefl _)) hgm) (by omega) (by omega)), trivial⟩) fun p19 a u hE hS => ?_
  refine wp_seq ?_
  refine rg hE hS [pu, pu] (fun _ => kp [(152, .bool (!(Nat.beq (p19 2).c 1)))]) kP0 fun _ a u hE hS => ?_
  generalize hbq : Nat.beq (p19 2).c 1 = bq at hE
  cases bq with
  | false =>
   refine ift hE ?_
   refine rg hE hS [pu, st 102, pu] (fun _ => kp [(3, .int .i64 2)]) kP0 fun _ a u hE hS => ?_
   refine wp_ret (thR ?_)
   exact retct hE hS Tryz.results10 102 (p1 0).g 38 pNul.cells (.agg pNul.cells) (.int .i64 2) (.inl ⟨_, _, rfl, by decide, rfl, hS.below⟩)
  | true =>
   have hx1 : (p19 2).c = 1 := Nat.eq_of_beq_eq_true hbq
   have hS := stp_yes (g := (p4 3).g) (x := p19 2) hS hx1
   obtain ⟨q, hqv⟩ : ∃ q, q = dP (p19 2).v := ⟨_, rfl⟩
   rw [← hqv] at hS
   refine iff hE <| wp_skip ?_
   refine rg hE hS [ld 101, st 102, pu] kp0 (fun _ => kP [(102, some (.blk (p1 0).g 38 q.cells))]) fun _ a u hE hS => ?_
   refine wp_ret ?_
   obtain ⟨hN, hR⟩ := (hS.ok 96 (ckN R (p19 2)) (by kernel_rfl)) hx1
   have hlt := fun y hy => hS.lt 96 (ckN R (p19 2)) (by kernel_rfl) y hy
   rw [← hqv] at hN hR
   exact retct hE hS Tryz.results10 102 (p1 0).g 38 q.cells (.agg q.cells) (.int .i64 0) (.inr ⟨q, rfl, hR, (hN.wide fun y hy => ⟨(hlt y hy).2.resolve_right id, (hlt y hy).1⟩).lies, hS.below⟩)
theorem readOne_4 (R : Pkt → Prop) (B b o c : Nat) (z : List Int) (w : World) (hr : Reads w B 1 (some ⟨b, o, none⟩) z.length (u8s z)) (hB : B ≤ w.heap.size) (hc : z.length ≤ c) (hl : z.length ≤ 131072) (n : Nat) (t : Int) (L : Nat) (hd : Hd z false n t L) (hzl : z.length = 4 * (L + 1)) (hk : kindOf (n : Nat) t = 4)
  (hfb : ∀ g B b o c w', Blk w' g 38 (pFb 4 0 0).cells → Reads w' B 1 (some ⟨b, o, none⟩) (z.drop 4).length (u8s (z.drop 4)) → B ≤ g → (z.drop 4).length ≤ c → Calls Tryz.prog 41 #[.pointer (some ⟨g, 0, none⟩), .slice (some ⟨b, o, none⟩) (z.drop 4).length c, .int .i64 (n : Nat)] w' (RdOut g w' R)) :
  Calls Tryz.prog 10 #[.slice (some ⟨b, o, none⟩) z.length c] w (RoneOut w R) := by
 refine go_in Tryz.func10 rfl Tryz.ntmps10 [sv b o z.length c] fun a hE => ?_
 have hS := stp_in w
 have hS := stp_ry hS 110 hr (fun x hx => ⟨by omega, id⟩) hd.byts
 have hn31 := hd.cnt31
 have h4 := hd.len
 have hL : L ≤ 65535 := by have h1 := hd.ln; have h2 := rd16_lt hd.byts 2; omega
 refine rg hE hS [nw 102, pu] (fun p1 => kp [(2, pt (p1 0).g 0), (3, .int .i64 0)]) (fun p1 => kP [(102, some (.blk (p1 0).g 38 zP))]) fun p1 a u hE hS => ?_
 refine rgp hE hS [pu, cu 7 [110] [] (fun _ => .tuple #[.agg #[.bool false, .int .u8 (n : Nat), .int .u8 t, .int .u16 (L : Nat)], .bool true]) (fun _ => []), pu, pu, pu, nw 103, st 103, pu] (fun p2 => kp [(4, pt (p2 5).g 0), (5, .bool true)]) (fun p2 => kP [(103, some (.blk (p2 5).g 36 #[.bool false, .int .u8 (n : Nat), .int .u8 t, .int .u16 (L : Nat)]))]) (fun _ => ⟨kr (cu_hdr (w0 := w) hd (B := B) 110 (some ⟨b, o, none⟩) z.length c rfl hc), trivial⟩) fun p2 a u hE hS => ?_
 refine wp_seq ?_
 refine rgp hE hS [pu, pu, pu, pu, ld 103, pe (.int .i64 (L : Nat)), pe (.int .i64 ((L + 1 : Nat) : Int)), pe (.int .i64 ((4 * (L + 1) : Nat) : Int)), pu, pu, pe (.bool false), pu] (fun _ => kp [(25, .bool false)]) kP0 (fun _ => ⟨kr (ciV (wiV ((L : Nat) : Int) (by omega))), kr (ciV (show IntKind.i64.wrap (((L : Nat) : Int) + (1 : Int)) = ((L + 1 : Nat) : Int) from by rw [wiV _ (by omega)]; omega)), kr (ciV (show IntKind.i64.wrap ((4 : Int) * ((L + 1 : Nat) : Int)) = ((4 * (L + 1) : Nat) : Int) from by rw [wiV _ (by omega)]; omega)), kr (cbV (show (((4 * (L + 1) : Nat) : Int) != ((z.length : Nat) : Int)) = false by rw [hzl]; simp)), trivial⟩) fun _ a u hE hS => iff hE <| wp_skip ?_
 refine rgp hE hS [ld 103, cu 36 [] [] (fun _ => .int .i64 4) (fun _ => []), pu, nw 101, st 101] (fun p4 => kp [(6, pt (p4 3).g 0)]) (fun p4 => kP [(101, some (.blk (p4 3).g 38 (pFb 4 0 0).cells))]) (fun _ => ⟨kr (cu_kind (w0 := w) false n t L 4 hk), trivial⟩) fun p4 a u hE hS => ?_
 refine wp_seq ?_
 refine rgp hE hS [pu, ld 101, pe (.bool false)] (fun _ => kp [(32, .bool false)]) kP0 (fun _ => ⟨kr (cbV (nbV (show (4 : Int) ≠ 0 by decide))), trivial⟩) fun _ a u hE hS => iff hE <| wp_skip ?_
 refine wp_seq ?_
 refine rg hE hS [pu, ld 103] (fun _ => kp [(41, .bool false)]) kP0 fun _ a u hE hS => iff hE <| wp_skip ?_
 refine rgp hE hS [pu, rsl 110 111, pu] (fun p7 => kp [(7, sv (p7 1).g (p7 1).c (z.drop 4).length (c - 4))]) (fun p7 => kP [(111, some (.ry (fun x => x < B) ((some ⟨(p7 1).g, (p7 1).c, none⟩)) (z.drop 4)))]) (fun _ => ⟨kr (show 4 ≤ z.length ∧ z.length ≤ z.length ∧ z.length ≤ c by omega), trivial⟩) fun p7 a u hE hS => ?_
 have hl4 : (z.drop 4).length = z.length - 4 := List.length_drop
 refine rgp hE hS [pu, ld 103, pe (.int .i64 (n : Nat)), pu] (fun _ => kp [(8, .int .i64 (n : Nat))]) kP0 (fun _ => ⟨kr (ciV (wiV ((n : Nat) : Int) (by omega))), trivial⟩) fun _ a u hE hS => ?_
 refine rg hE hS [pu] (fun _ => kp [(5, .bool false)]) kP0 fun _ a u hE hS => ?_
 refine wp_seq ?_
 refine rg hE hS [pu, ld 101] (fun _ => kp [(49, .int .i64 4)]) kP0 fun _ a u hE hS => wp_block ?_
 refine rgp hE hS [pe (.bool false), pu] (fun _ => kp [(64, .bool false)]) kP0 (fun _ => ⟨kr (cbV (nbV (show (4 : Int) ≠ 1 by decide))), trivial⟩) fun _ a u hE hS => iff hE ?_
 refine rgp hE hS [pe (.bool false), pu] (fun _ => kp [(101, .bool false)]) kP0 (fun _ => ⟨kr (cbV (nbV (show (4 : Int) ≠ 2 by decide))), trivial⟩) fun _ a u hE hS => iff hE ?_
 refine rgp hE hS [pe (.bool false), pu] (fun _ => kp [(122, .bool false)]) kP0 (fun _ => ⟨kr (cbV (nbV (show (4 : Int) ≠ 3 by decide))), trivial⟩) fun _ a u hE hS => iff hE ?_
 refine rgp hE hS [pe (.bool true), pu] (fun _ => kp [(127, .bool true)]) kP0 (fun _ => ⟨kr (cbV (ebV (show (4 : Int) = 4 by decide))), trivial⟩) fun _ a u hE hS => ift hE ?_
 have hgm := pcH (g := (p4 3).g) (T := 38) (cs := (pFb 4 0 0).cells) hS 101
 refine rgE hE hS [pu, pu, cu 41 [111] [101, 96] (fun y => .bool (Nat.beq y.c 1)) (fun y => [some (.ck (ckO (p4 3).g y)), some (.ck (ckN R y))]), pu] (fun p15 => kp [(5, .bool (Nat.beq (p15 2).c 1))]) (fun p15 => kP [(101, some (.ck (ckO (p4 3).g (p15 2)))), (96, some (.ck (ckN R (p15 2))))]) (fun _ => ⟨kr (cu_rd (w0 := w) (B := B) (j := 111) (u := none) (olds := fun _ => False) (R := R) fun w4 hsz hb4 n4 hB4 hn4 hr4 hz4 => by subst hn4; exact hfb (p4 3).g B (p7 1).g (p7 1).c (c - 4) w4 hb4 hr4 (Nat.le_trans (Nat.le_of_not_lt fun hlt => absurd (hB4 _ hlt).1 (Nat.lt_irrefl _)) hgm) (by omega)), trivial⟩) fun p15 a u hE hS => ?_
 refine wp_seq ?_
 refine rg hE hS [pu, pu] (fun _ => kp [(152, .bool (!(Nat.beq (p15 2).c 1)))]) kP0 fun _ a u hE hS => ?_
 generalize hbq : Nat.beq (p15 2).c 1 = bq at hE
 cases bq with
 | false =>
  refine ift hE ?_
  refine rg hE hS [pu, st 102, pu] (fun _ => kp [(3, .int .i64 2)]) kP0 fun _ a u hE hS => ?_
  refine wp_ret (thR ?_)
  exact retct hE hS Tryz.results10 102 (p1 0).g 38 pNul.cells (.agg pNul.cells) (.int .i64 2) (.inl ⟨_, _, rfl, by decide, rfl, hS.below⟩)
 | true =>
  have hx1 : (p15 2).c = 1 := Nat.eq_of_beq_eq_true hbq
  have hS := stp_yes (g := (p4 3).g) (x := p15 2) hS hx1
  obtain ⟨q, hqv⟩ : ∃ q, q = dP (p15 2).v := ⟨_, rfl⟩
  rw [← hqv] at hS
  refine iff hE <| wp_skip ?_
  refine rg hE hS [ld 101, st 102, pu] kp0 (fun _ => kP [(102, some (.blk (p1 0).g 38 q.cells))]) fun _ a u hE hS => ?_
  refine wp_ret ?_
  obtain ⟨hN, hR⟩ := (hS.ok 96 (ckN R (p15 2)) (by kernel_rfl)) hx1
  have hlt := fun y hy => hS.lt 96 (ckN R (p15 2)) (by kernel_rfl) y hy
  rw [← hqv] at hN hR
  exact retct hE hS Tryz.results10 102 (p1 0).g 38 q.cells (.agg q.cells) (.int .i64 0) (.inr ⟨q, rfl, hR, (hN.wide fun y hy => ⟨(hlt y hy).2.resolve_right id, (hlt y hy).1⟩).lies, hS.below⟩)
theorem readOne_3 (R : Pkt → Prop) (B b o c : Nat) (z : List Int) (w : World) (hr : Reads w B 1 (some ⟨b, o, none⟩) z.length (u8s z)) (hB : B ≤ w.heap.size) (hc : z.length ≤ c) (hl : z.length ≤ 131072) (n : Nat) (t : Int) (L : Nat) (hd : Hd z false n t L) (hzl : z.length = 4 * (L + 1)) (hk : kindOf (n : Nat) t = 3)
  (hfb : ∀ g B b o c w', Blk w' g 38 (pFb 3 0 0).cells → Reads w' B 1 (some ⟨b, o, none⟩) (z.drop 4).length (u8s (z.drop 4)) → B ≤ g → (z.drop 4).length ≤ c → Calls Tryz.prog 40 #[.pointer (some ⟨g, 0, none⟩), .slice (some ⟨b, o, none⟩) (z.drop 4).length c, .int .i64 (n : Nat)] w' (RdOut g w' R)) :
  Calls Tryz.prog 10 #[.slice (some ⟨b, o, none⟩) z.length c] w (RoneOut w R) := by
 refine go_in Tryz.func10 rfl Tryz.ntmps10 [sv b o z.length c] fun a hE => ?_
 have hS := stp_in w
 have hS := stp_ry hS 110 hr (fun x hx => ⟨by omega, id⟩) hd.byts
 have hn31 := hd.cnt31
 have h4 := hd.len
 have hL : L ≤ 65535 := by have h1 := hd.ln; have h2 := rd16_lt hd.byts 2; omega
 refine rg hE hS [nw 102, pu] (fun p1 => kp [(2, pt (p1 0).g 0), (3, .int .i64 0)]) (fun p1 => kP [(102, some (.blk (p1 0).g 38 zP))]) fun p1 a u hE hS => ?_
 refine rgp hE hS [pu, cu 7 [110] [] (fun _ => .tuple #[.agg #[.bool false, .int .u8 (n : Nat), .int .u8 t, .int .u16 (L : Nat)], .bool true]) (fun _ => []), pu, pu, pu, nw 103, st 103, pu] (fun p2 => kp [(4, pt (p2 5).g 0), (5, .bool true)]) (fun p2 => kP [(103, some (.blk (p2 5).g 36 #[.bool false, .int .u8 (n : Nat), .int .u8 t, .int .u16 (L : Nat)]))]) (fun _ => ⟨kr (cu_hdr (w0 := w) hd (B := B) 110 (some ⟨b, o, none⟩) z.length c rfl hc), trivial⟩) fun p2 a u hE hS => ?_
 refine wp_seq ?_
 refine rgp hE hS [pu, pu, pu, pu, ld 103, pe (.int .i64 (L : Nat)), pe (.int .i64 ((L + 1 : Nat) : Int)), pe (.int .i64 ((4 * (L + 1) : Nat) : Int)), pu, pu, pe (.bool false), pu] (fun _ => kp [(25, .bool false)]) kP0 (fun _ => ⟨kr (ciV (wiV ((L : Nat) : Int) (by omega))), kr (ciV (show IntKind.i64.wrap (((L : Nat) : Int) + (1 : Int)) = ((L + 1 : Nat) : Int) from by rw [wiV _ (by omega)]; omega)), kr (ciV (show IntKind.i64.wrap ((4 : Int) * ((L + 1 : Nat) : Int)) = ((4 * (L + 1) : Nat) : Int) from by rw [wiV _ (by omega)]; omega)), kr (cbV (show (((4 * (L + 1) : Nat) : Int) != ((z.length : Nat) : Int)) = false by rw [hzl]; simp)), trivial⟩) fun _ a u hE hS => iff hE <| wp_skip ?_
 refine rgp hE hS [ld 103, cu 36 [] [] (fun _ => .int .i64 3) (fun _ => []), pu, nw 101, st 101] (fun p4 => kp [(6, pt (p4 3).g 0)]) (fun p4 => kP [(101, some (.blk (p4 3).g 38 (pFb 3 0 0).cells))]) (fun _ => ⟨kr (cu_kind (w0 := w) false n t L 3 hk), trivial⟩) fun p4 a u hE hS => ?_
 refine wp_seq ?_
 refine rgp hE hS [pu, ld 101, pe (.bool false)] (fun _ => kp [(32, .bool false)]) kP0 (fun _ => ⟨kr (cbV (nbV (show (3 : Int) ≠ 0 by decide))), trivial⟩) fun _ a u hE hS => iff hE <| wp_skip ?_
 refine wp_seq ?_
 refine rg hE hS [pu, ld 103] (fun _ => kp [(41, .bool false)]) kP0 fun _ a u hE hS => iff hE <| wp_skip ?_
 refine rgp hE hS [pu, rsl 110 111, pu] (fun p7 => kp [(7, sv (p7 1).g (p7 1).c (z.drop 4).length (c - 4))]) (fun p7 => kP [(111, some (.ry (fun x => x < B) ((some ⟨(p7 1).g, (p7 1).c, none⟩)) (z.drop 4)))]) (fun _ => ⟨kr (show 4 ≤ z.length ∧ z.length ≤ z.length ∧ z.length ≤ c by omega), trivial⟩) fun p7 a u hE hS => ?_
 have hl4 : (z.drop 4).length = z.length - 4 := List.length_drop
 refine rgp hE hS [pu, ld 103, pe (.int .i64 (n : Nat)), pu] (fun _ => kp [(8, .int .i64 (n : Nat))]) kP0 (fun _ => ⟨kr (ciV (wiV ((n : Nat) : Int) (by omega))), trivial⟩) fun _ a u hE hS => ?_
 refine rg hE hS [pu] (fun _ => kp [(5, .bool false)]) kP0 fun _ a u hE hS => ?_
 refine wp_seq ?_
 refine rg hE hS [pu, ld 101] (fun _ => kp [(49, .int .i64 3)]) kP0 fun _ a u hE hS => wp_block ?_
 refine rgp hE hS [pe (.bool false), pu] (fun _ => kp [(64, .bool false)]) kP0 (fun _ => ⟨kr (cbV (nbV (show (3 : Int) ≠ 1 by decide))), trivial⟩) fun _ a u hE hS => iff hE ?_
 refine rgp hE hS [pe (.bool false), pu] (fun _ => kp [(101, .bool false)]) kP0 (fun _ => ⟨kr (cbV (nbV (show (3 : Int) ≠ 2 by decide))), trivial⟩) fun _ a u hE hS => iff hE ?_
 refine rgp hE hS [pe (.bool true), pu] (fun _ => kp [(122, .bool true)]) kP0 (fun _ => ⟨kr (cbV (ebV (show (3 : Int) = 3 by decide))), trivial⟩) fun _ a u hE hS => ift hE ?_
 have hgm := pcH (g := (p4 3).g) (T := 38) (cs := (pFb 3 0 0).cells) hS 101
 refine rgE hE hS [pu, pu, cu 40 [111] [101, 96] (fun y => .bool (Nat.beq y.c 1)) (fun y => [some (.ck (ckO (p4 3).g y)), some (.ck (ckN R y))]), pu] (fun p14 => kp [(5, .bool (Nat.beq (p14 2).c 1))]) (fun p14 => kP [(101, some (.ck (ckO (p4 3).g (p14 2)))), (96, some (.ck (ckN R (p14 2))))]) (fun _ => ⟨kr (cu_rd (w0 := w) (B := B) (j := 111) (u := none) (olds := fun _ => False) (R := R) fun w4 hsz hb4 n4 hB4 hn4 hr4 hz4 => by subst hn4; exact hfb (p4 3).g B (p7 1).g (p7 1).c (c - 4) w4 hb4 hr4 (Nat.le_trans (Nat.le_of_not_lt fun hlt => absurd (hB4 _ hlt).1 (Nat.lt_irrefl _)) hgm) (by omega)), trivial⟩) fun p14 a u hE hS => ?_
 refine wp_seq ?_
 refine rg hE hS [pu, pu] (fun _ => kp [(152, .bool (!(Nat.beq (p14 2).c 1)))]) kP0 fun _ a u hE hS => ?_
 generalize hbq : Nat.beq (p14 2).c 1 = bq at hE
 cases bq with
 | false =>
  refine ift hE ?_
  refine rg hE hS [pu, st 102, pu] (fun _ => kp [(3, .int .i64 2)]) kP0 fun _ a u hE hS => ?_
  refine wp_ret (thR ?_)
  exact retct hE hS Tryz.results10 102 (p1 0).g 38 pNul.cells (.agg pNul.cells) (.int .i64 2) (.inl ⟨_, _, rfl, by decide, rfl, hS.below⟩)
 | true =>
  have hx1 : (p14 2).c = 1 := Nat.eq_of_beq_eq_true hbq
  have hS := stp_yes (g := (p4 3).g) (x := p14 2) hS hx1
  obtain ⟨q, hqv⟩ : ∃ q, q = dP (p14 2).v := ⟨_, rfl⟩
  rw [← hqv] at hS
  refine iff hE <| wp_skip ?_
  refine rg hE hS [ld 101, st 102, pu] kp0 (fun _ => kP [(102, some (.blk (p1 0).g 38 q.cells))]) fun _ a u hE hS => ?_
  refine wp_ret ?_
  obtain ⟨hN, hR⟩ := (hS.ok 96 (ckN R (p14 2)) (by kernel_rfl)) hx1
  have hlt := fun y hy => hS.lt 96 (ckN R (p14 2)) (by kernel_rfl) y hy
  rw [← hqv] at hN hR
  exact retct hE hS Tryz.results10 102 (p1 0).g 38 q.cells (.agg q.cells) (.int .i64 0) (.inr ⟨q, rfl, hR, (hN.wide fun y hy => ⟨(hlt y hy).2.resolve_right id, (hlt y hy).1⟩).lies, hS.below⟩)
def R5 (n : Nat) (z : List Int) (q : Pkt) : Prop := 8 ≤ (z.drop 4).length ∧ ∃ A c, q = { pNul with kind := 5, sender := rd32 (z.drop 4) 0, text := strB (((z.drop 4).take 8).drop 4), sub := (n : Nat), data := ⟨A, c, (z.drop 4).drop 8⟩ }
theorem readOne_5 (B b o c : Nat) (z : List Int) (w : World) (hr : Reads w B 1 (some ⟨b, o, none⟩) z.length (u8s z)) (hB : B ≤ w.heap.size) (hc : z.length ≤ c) (hl : z.length ≤ 131072) (n : Nat) (t : Int) (L : Nat) (hd : Hd z false n t L) (hzl : z.length = 4 * (L + 1)) (hk : kindOf (n : Nat) t = 5) :
  Calls Tryz.prog 10 #[.slice (some ⟨b, o, none⟩) z.length c] w (RoneOut w (R5 n z)) := by
 by_cases h8 : 8 ≤ (z.drop 4).length
 ·skip
  refine go_in Tryz.func10 rfl Tryz.ntmps10 [sv b o z.length c] fun a hE => ?_
  have hS := stp_in w
  have hS := stp_ry hS 110 hr (fun x hx => ⟨by omega, id⟩) hd.byts
  have hn31 := hd.cnt31
  have h4 := hd.len
  have hL : L ≤ 65535 := by have h1 := hd.ln; have h2 := rd16_lt hd.byts 2; omega
  refine rg hE hS [nw 102, pu] (fun p1 => kp [(2, pt (p1 0).g 0), (3, .int .i64 0)]) (fun p1 => kP [(102, some (.blk (p1 0).g 38 zP))]) fun p1 a u hE hS => ?_
  refine rgp hE hS [pu, cu 7 [110] [] (fun _ => .tuple #[.agg #[.bool false, .int .u8 (n : Nat), .int .u8 t, .int .u16 (L : Nat)], .bool true]) (fun _ => []), pu, pu, pu, nw 103, st 103, pu] (fun p2 => kp [(4, pt (p2 5).g 0), (5, .bool true)]) (fun p2 => kP [(103, some (.blk (p2 5).g 36 #[.bool false, .int .u8 (n : Nat), .int .u8 t, .int .u16 (L : Nat)]))]) (fun _ => ⟨kr (cu_hdr (w0 := w) hd (B := B) 110 (some ⟨b, o, none⟩) z.length c rfl hc), trivial⟩) fun p2 a u hE hS => ?_
  refine wp_seq ?_
  refine rgp hE hS [pu, pu, pu, pu, ld 103, pe (.int .i64 (L : Nat)), pe (.int .i64 ((L + 1 : Nat) : Int)), pe (.int .i64 ((4 * (L + 1) : Nat) : Int)), pu, pu, pe (.bool false), pu] (fun _ => kp [(25, .bool false)]) kP0 (fun _ => ⟨kr (ciV (wiV ((L : Nat) : Int) (by omega))), kr (ciV (show IntKind.i64.wrap (((L : Nat) : Int) + (1 : Int)) = ((L + 1 : Nat) : Int) from by rw [wiV _ (by omega)]; omega)), kr (ciV (show IntKind.i64.wrap ((4 : Int) * ((L + 1 : Nat) : Int)) = ((4 * (L + 1) : Nat) : Int) from by rw [wiV _ (by omega)]; omega)), kr (cbV (show (((4 * (L + 1) : Nat) : Int) != ((z.length : Nat) : Int)) = false by rw [hzl]; simp)), trivial⟩) fun _ a u hE hS => iff hE <| wp_skip ?_
  refine rgp hE hS [ld 103, cu 36 [] [] (fun _ => .int .i64 5) (fun _ => []), pu, nw 101, st 101] (fun p4 => kp [(6, pt (p4 3).g 0)]) (fun p4 => kP [(101, some (.blk (p4 3).g 38 (pFb 5 0 0).cells))]) (fun _ => ⟨kr (cu_kind (w0 := w) false n t L 5 hk), trivial⟩) fun p4 a u hE hS => ?_
  refine wp_seq ?_
  refine rgp hE hS [pu, ld 101, pe (.bool false)] (fun _ => kp [(32, .bool false)]) kP0 (fun _ => ⟨kr (cbV (nbV (show (5 : Int) ≠ 0 by decide))), trivial⟩) fun _ a u hE hS => iff hE <| wp_skip ?_
  refine wp_seq ?_
  refine rg hE hS [pu, ld 103] (fun _ => kp [(41, .bool false)]) kP0 fun _ a u hE hS => iff hE <| wp_skip ?_
  refine rgp hE hS [pu, rsl 110 111, pu] (fun p7 => kp [(7, sv (p7 1).g (p7 1).c (z.drop 4).length (c - 4))]) (fun p7 => kP [(111, some (.ry (fun x => x < B) ((some ⟨(p7 1).g, (p7 1).c, none⟩)) (z.drop 4)))]) (fun _ => ⟨kr (show 4 ≤ z.length ∧ z.length ≤ z.length ∧ z.length ≤ c by omega), trivial⟩) fun p7 a u hE hS => ?_
  have hl4 : (z.drop 4).length = z.length - 4 := List.length_drop
  refine rgp hE hS [pu, ld 103, pe (.int .i64 (n : Nat)), pu] (fun _ => kp [(8, .int .i64 (n : Nat))]) kP0 (fun _ => ⟨kr (ciV (wiV ((n : Nat) : Int) (by omega))), trivial⟩) fun _ a u hE hS => ?_
  refine rg hE hS [pu] (fun _ => kp [(5, .bool false)]) kP0 fun _ a u hE hS => ?_
  refine wp_seq ?_
  refine rg hE hS [pu, ld 101] (fun _ => kp [(49, .int .i64 5)]) kP0 fun _ a u hE hS => wp_block ?_
  refine rgp hE hS [pe (.bool false), pu] (fun _ => kp [(64, .bool false)]) kP0 (fun _ => ⟨kr (cbV (nbV (show (5 : Int) ≠ 1 by decide))), trivial⟩) fun _ a u hE hS => iff hE ?_
  refine rgp hE hS [pe (.bool false), pu] (fun _ => kp [(101, .bool false)]) kP0 (fun _ => ⟨kr (cbV (nbV (show (5 : Int) ≠ 2 by decide))), trivial⟩) fun _ a u hE hS => iff hE ?_
  refine rgp hE hS [pe (.bool false), pu] (fun _ => kp [(122, .bool false)]) kP0 (fun _ => ⟨kr (cbV (nbV (show (5 : Int) ≠ 3 by decide))), trivial⟩) fun _ a u hE hS => iff hE ?_
  refine rgp hE hS [pe (.bool false), pu] (fun _ => kp [(127, .bool false)]) kP0 (fun _ => ⟨kr (cbV (nbV (show (5 : Int) ≠ 4 by decide))), trivial⟩) fun _ a u hE hS => iff hE ?_
  refine rgp hE hS [pe (.bool true), pu] (fun _ => kp [(132, .bool true)]) kP0 (fun _ => ⟨kr (cbV (ebV (show (5 : Int) = 5 by decide))), trivial⟩) fun _ a u hE hS => ift hE ?_
  refine rgp hE hS [pu, pu, pe (.bool true), pu] (fun _ => kp [(5, .bool true)]) kP0 (fun _ => ⟨kr (cbV (dtV (show (((z.drop 4).length : Nat) : Int) ≥ 8 by omega))), trivial⟩) fun _ a u hE hS => ?_
  refine rg hE hS [pu] (fun _ => kp [(137, .bool true)]) kP0 fun _ a u hE hS => ift hE ?_
  refine dgE hE hS [pu, cl cU32 [111] [], pu, rsl 111 112, rt 112, pu, ld 103, pu, rsl 111 113, pu, st 101, pu, st 101, pu, st 101, pu, st 101] kp0 (fun p18 => kP [(101, some (.blk (p4 3).g 38 #[.int .i64 5, .int .u32 (rd32 (z.drop 4) 0), .int .u32 0, .int .u64 0, .int .u32 0, .int .u32 0, .int .u32 0, .slice none 0 0, .slice none 0 0, .slice none 0 0, .slice none 0 0, .string (strB (((z.drop 4).take 8).drop 4)), .int .u8 (n : Nat), sv (p18 8).g (p18 8).c ((z.drop 4).drop 8).length ((c - 4) - 8), .slice none 0 0, .slice none 0 0, .slice none 0 0, .int .u32 0, .slice none 0 0, .int .u32 0, .int .u16 0, .int .u16 0, .int .u32 0, .int .u8 0, .slice none 0 0, .slice none 0 0, .bool false, .int .u8 0, .int .u8 0, .int .u16 0])), (113, some (.ry (fun x => x < B) ((some ⟨(p18 8).g, (p18 8).c, none⟩)) ((z.drop 4).drop 8)))]) (fun _ => ⟨kr (show 4 ≤ (z.drop 4).length ∧ (z.drop 4).length ≤ (c - 4) ∧ 0 < (z.drop 4).length by omega), kr (show 4 ≤ 8 ∧ 8 ≤ (z.drop 4).length ∧ (z.drop 4).length ≤ (c - 4) by omega), kr (show 8 ≤ (z.drop 4).length ∧ (z.drop 4).length ≤ (z.drop 4).length ∧ (z.drop 4).length ≤ (c - 4) by omega), trivial⟩) fun p18 a u hE hS => ?_
  refine wp_seq ?_
  refine rg hE hS [pu, pu] (fun _ => kp [(152, .bool false)]) kP0 fun _ a u hE hS => iff hE <| wp_skip ?_
  refine rg hE hS [ld 101, st 102, pu] kp0 (fun _ => kP [(102, some (.blk (p1 0).g 38 #[.int .i64 5, .int .u32 (rd32 (z.drop 4) 0), .int .u32 0, .int .u64 0, .int .u32 0, .int .u32 0, .int .u32 0, .slice none 0 0, .slice none 0 0, .slice none 0 0, .slice none 0 0, .string (strB (((z.drop 4).take 8).drop 4)), .int .u8 (n : Nat), sv (p18 8).g (p18 8).c ((z.drop 4).drop 8).length ((c - 4) - 8), .slice none 0 0, .slice none 0 0, .slice none 0 0, .int .u32 0, .slice none 0 0, .int .u32 0, .int .u16 0, .int .u16 0, .int .u32 0, .int .u8 0, .slice none 0 0, .slice none 0 0, .bool false, .int .u8 0, .int .u8 0, .int .u16 0]))]) fun _ a u hE hS => ?_
  refine wp_ret ?_
  have hrd : RdB (fun _ => False) w (fun x => x < B) (some ⟨(p18 8).g, (p18 8).c, none⟩) ((z.drop 4).drop 8) ∧ Byts ((z.drop 4).drop 8) := hS.pure_ 113 (by kernel_rfl)
  have hrk := rdb_kept hS hrd.1
  exact retct hE hS Tryz.results10 102 (p1 0).g 38 ({ pNul with kind := 5, sender := (rd32 (z.drop 4) 0), text := (strB (((z.drop 4).take 8).drop 4)), sub := (n : Nat), data := ⟨(some ⟨(p18 8).g, (p18 8).c, none⟩), ((c - 4) - 8), (z.drop 4).drop 8⟩ } : Pkt).cells (.agg ({ pNul with kind := 5, sender := (rd32 (z.drop 4) 0), text := (strB (((z.drop 4).take 8).drop 4)), sub := (n : Nat), data := ⟨(some ⟨(p18 8).g, (p18 8).c, none⟩), ((c - 4) - 8), (z.drop 4).drop 8⟩ } : Pkt).cells) (.int .i64 0) (.inr ⟨({ pNul with kind := 5, sender := (rd32 (z.drop 4) 0), text := (strB (((z.drop 4).take 8).drop 4)), sub := (n : Nat), data := ⟨(some ⟨(p18 8).g, (p18 8).c, none⟩), ((c - 4) - 8), (z.drop 4).drop 8⟩ } : Pkt), rfl, ⟨h8, _, _, rfl⟩, ⟨reads_nil, reads_nil, reads_nil, (fun x hx => by cases hx), reads_nil, (by unfold Sl.Lies; rw [u8c_flat]; exact hrk), reads_nil, reads_nil, reads_nil, reads_nil, (fun x hx => by cases hx), reads_nil, (fun x hx => by cases hx), reads_nil⟩, hS.below⟩)
 ·skip
  refine go_in Tryz.func10 rfl Tryz.ntmps10 [sv b o z.length c] fun a hE => ?_
  have hS := stp_in w
  have hS := stp_ry hS 110 hr (fun x hx => ⟨by omega, id⟩) hd.byts
  have hn31 := hd.cnt31
  have h4 := hd.len
  have hL : L ≤ 65535 := by have h1 := hd.ln; have h2 := rd16_lt hd.byts 2; omega
  refine rg hE hS [nw 102, pu] (fun p1 => kp [(2, pt (p1 0).g 0), (3, .int .i64 0)]) (fun p1 => kP [(102, some (.blk (p1 0).g 38 zP))]) fun p1 a u hE hS => ?_
  refine rgp hE hS [pu, cu 7 [110] [] (fun _ => .tuple #[.agg #[.bool false, .int .u8 (n : Nat), .int .u8 t, .int .u16 (L : Nat)], .bool true]) (fun _ => []), pu, pu, pu, nw 103, st 103, pu] (fun p2 => kp [(4, pt (p2 5).g 0), (5, .bool true)]) (fun p2 => kP [(103, some (.blk (p2 5).g 36 #[.bool false, .int .u8 (n : Nat), .int .u8 t, .int .u16 (L : Nat)]))]) (fun _ => ⟨kr (cu_hdr (w0 := w) hd (B := B) 110 (some ⟨b, o, none⟩) z.length c rfl hc), trivial⟩) fun p2 a u hE hS => ?_
  refine wp_seq ?_
  refine rgp hE hS [pu, pu, pu, pu, ld 103, pe (.int .i64 (L : Nat)), pe (.int .i64 ((L + 1 : Nat) : Int)), pe (.int .i64 ((4 * (L + 1) : Nat) : Int)), pu, pu, pe (.bool false), pu] (fun _ => kp [(25, .bool false)]) kP0 (fun _ => ⟨kr (ciV (wiV ((L : Nat) : Int) (by omega))), kr (ciV (show IntKind.i64.wrap (((L : Nat) : Int) + (1 : Int)) = ((L + 1 : Nat) : Int) from by rw [wiV _ (by omega)]; omega)), kr (ciV (show IntKind.i64.wrap ((4 : Int) * ((L + 1 : Nat) : Int)) = ((4 * (L + 1) : Nat) : Int) from by rw [wiV _ (by omega)]; omega)), kr (cbV (show (((4 * (L + 1) : Nat) : Int) != ((z.length : Nat) : Int)) = false by rw [hzl]; simp)), trivial⟩) fun _ a u hE hS => iff hE <| wp_skip ?_
  refine rgp hE hS [ld 103, cu 36 [] [] (fun _ => .int .i64 5) (fun _ => []), pu, nw 101, st 101] (fun p4 => kp [(6, pt (p4 3).g 0)]) (fun p4 => kP [(101, some (.blk (p4 3).g 38 (pFb 5 0 0).cells))]) (fun _ => ⟨kr (cu_kind (w0 := w) false n t L 5 hk), trivial⟩) fun p4 a u hE hS => ?_
  refine wp_seq ?_
  refine rgp hE hS [pu, ld 101, pe (.bool false)] (fun _ => kp [(32, .bool false)]) kP0 (fun _ => ⟨kr (cbV (nbV (show (5 : Int) ≠ 0 by decide))), trivial⟩) fun _ a u hE hS => iff hE <| wp_skip ?_
  refine wp_seq ?_
  refine rg hE hS [pu, ld 103] (fun _ => kp [(41, .bool false)]) kP0 fun _ a u hE hS => iff hE <| wp_skip ?_
  refine rgp hE hS [pu, rsl 110 111, pu] (fun p7 => kp [(7, sv (p7 1).g (p7 1).c (z.drop 4).length (c - 4))]) (fun p7 => kP [(111, some (.ry (fun x => x < B) ((some ⟨(p7 1).g, (p7 1).c, none⟩)) (z.drop 4)))]) (fun _ => ⟨kr (show 4 ≤ z.length ∧ z.length ≤ z.length ∧ z.length ≤ c by omega), trivial⟩) fun p7 a u hE hS => ?_
  have hl4 : (z.drop 4).length = z.length - 4 := List.length_drop
  refine rgp hE hS [pu, ld 103, pe (.int .i64 (n : Nat)), pu] (fun _ => kp [(8, .int .i64 (n : Nat))]) kP0 (fun _ => ⟨kr (ciV (wiV ((n : Nat) : Int) (by omega))), trivial⟩) fun _ a u hE hS => ?_
  refine rg hE hS [pu] (fun _ => kp [(5, .bool false)]) kP0 fun _ a u hE hS => ?_
  refine wp_seq ?_
  refine rg hE hS [pu, ld 101] (fun _ => kp [(49, .int .i64 5)]) kP0 fun _ a u hE hS => wp_block ?_
  refine rgp hE hS [pe (.bool false), pu] (fun _ => kp [(64, .bool false)]) kP0 (fun _ => ⟨kr (cbV (nbV (show (5 : Int) ≠ 1 by decide))), trivial⟩) fun _ a u hE hS => iff hE ?_
  refine rgp hE hS [pe (.bool false), pu] (fun _ => kp [(101, .bool false)]) kP0 (fun _ => ⟨kr (cbV (nbV (show (5 : Int) ≠ 2 by decide))), trivial⟩) fun _ a u hE hS => iff hE ?_
  refine rgp hE hS [pe (.bool false), pu] (fun _ => kp [(122, .bool false)]) kP0 (fun _ => ⟨kr (cbV (nbV (show (5 : Int) ≠ 3 by decide))), trivial⟩) fun _ a u hE hS => iff hE ?_
  refine rgp hE hS [pe (.bool false), pu] (fun _ => kp [(127, .bool false)]) kP0 (fun _ => ⟨kr (cbV (nbV (show (5 : Int) ≠ 4 by decide))), trivial⟩) fun _ a u hE hS => iff hE ?_
  refine rgp hE hS [pe (.bool true), pu] (fun _ => kp [(132, .bool true)]) kP0 (fun _ => ⟨kr (cbV (ebV (show (5 : Int) = 5 by decide))), trivial⟩) fun _ a u hE hS => ift hE ?_
  refine rgp hE hS [pu, pu, pe (.bool false), pu] (fun _ => kp [(5, .bool false)]) kP0 (fun _ => ⟨kr (cbV (dfV (show ¬ ((((z.drop 4).length : Nat) : Int) ≥ 8) by omega))), trivial⟩) fun _ a u hE hS => ?_
  refine rg hE hS [pu] (fun _ => kp [(137, .bool false)]) kP0 fun _ a u hE hS => iff hE <| wp_skip ?_
  refine wp_seq ?_
  refine rg hE hS [pu, pu] (fun _ => kp [(152, .bool true)]) kP0 fun _ a u hE hS => ift hE ?_
  refine rg hE hS [pu, st 102, pu] (fun _ => kp [(3, .int .i64 2)]) kP0 fun _ a u hE hS => ?_
  refine wp_ret (thR ?_)
  exact retct hE hS Tryz.results10 102 (p1 0).g 38 pNul.cells (.agg pNul.cells) (.int .i64 2) (.inl ⟨_, _, rfl, by decide, rfl, hS.below⟩)
theorem cell_lt2 {w : World} {a : Addr} {v : Value} (h : w.cell? a = some v) : a.block < w.heap.size := by
 apply Classical.byContradiction
 intro hn
 have : w.heap[a.block]? = none := by simp; omega
 simp [World.cell?, this] at h
def ckJ (size : Nat) (A : Option Addr) (n : Nat) (xs : List Value) : Ck :=
 ⟨fun g => 0 < n ∧ ∃ ad, A = some ad ∧ ad.block = g, fun w => xs.length = n * size ∧ (0 < n → ∃ ad, A = some ad ∧ ∀ j u, xs[j]? = some u → w.cell? (ad.add j) = some u),
  fun w w' hk h => ⟨h.1, fun hn => by
   obtain ⟨ad, e, h2⟩ := h.2 hn
   exact ⟨ad, e, fun j u hu => (World.cell?_of_block (by rw [block_of_add]; exact hk _ ⟨hn, ad, e, rfl⟩)).trans (h2 j u hu)⟩⟩⟩
theorem ckJ.reads {size : Nat} {A : Option Addr} {n : Nat} {xs : List Value} {w : World} (h : (ckJ size A n xs).ok w) (hs : 0 < size) : Reads w w.heap.size size A n xs :=
 ⟨h.1, fun hn => by
  obtain ⟨ad, e, h2⟩ := h.2 hn
  have hl : 0 < xs.length := by rw [h.1]; exact Nat.mul_pos hn hs
  have := cell_lt2 (h2 0 xs[0] (by simp [hl]))
  exact ⟨ad, e, by rwa [block_of_add] at this, h2⟩⟩
theorem cu_reports {w0 : World} {B : Nat} (j : Nat) (b o : Nat) (y : List Int) (m c n : Nat) {u u' : Option Pc} (hm : m = y.length) (hn : 24 * n ≤ y.length) (hc : y.length ≤ c) (hl : y.length ≤ 1048576)
  (L : PL) (w : World) (hps : [some (.ry (fun x => x < B) (some ⟨b, o, none⟩) y), u, u'] = ([j] ++ [96, 97]).map (lookP L)) (hS : Stp (fun _ => False) w0 w (restr ([j] ++ [96, 97]) (lookM (den (fun _ => False) w0 L)))) :
  Calls Tryz.prog 39 #[.slice (some ⟨b, o, none⟩) m c, .int .i64 (n : Nat)] w fun e w' => ∃ x : Pay, e = .returned (.tuple #[.slice x.a n x.c, .slice (dA (gV x.v 0)) (y.drop (24 * n)).length (intOf (gV x.v 1)).toNat]) ∧ Stp (blksOf (lookM (den (fun _ => False) w0 L)) [96, 97]) w w' (lookM (den (fun _ => False) w0 (zipW [96, 97] [some (.ck (ckJ 7 x.a n ((parts4 repB 24 n y).flatMap Rep.cells))), some (.ry (fun x => x < B) (dA (gV x.v 0)) (y.drop (24 * n)))]))) := by
 subst hm
 have rj : restr ([j] ++ [96, 97]) (lookM (den (fun _ => False) w0 L)) j = some (ckP (RdB (fun _ => False) w0 (fun x => x < B) (some ⟨b, o, none⟩) y ∧ Byts y)) := by
  simp only [List.cons_append, List.nil_append, List.map_cons, List.map_nil, List.cons.injEq] at hps
  simp [restr, hasN, lookM_den, ← hps.1, Pc.den]
 have hpc := hS.pure_ j rj
 obtain ⟨⟨hr, hB⟩, hz⟩ := hpc
 replace hr := hr.reads
 have hBs : B ≤ w0.heap.size := Nat.le_of_not_lt fun hlt => absurd (hB _ hlt).1 (Nat.lt_irrefl _)
 have keep : ∀ {A' : Option Addr} {n' : Nat} {xs : List Value} {wa wb : World}, (∀ g, g < B → wb.heap[g]? = wa.heap[g]?) → Reads wa B 1 A' n' xs → Reads wb B 1 A' n' xs := fun hk h => ⟨h.1, fun hn => by
  obtain ⟨ad, e, h1, h2⟩ := h.2 hn
  exact ⟨ad, e, h1, fun i v hv => (World.cell?_of_block (by rw [block_of_add]; exact hk _ h1)).trans (h2 i v hv)⟩⟩
 have hk : ∀ g, g < B → w.heap[g]? = w0.heap[g]? := fun g hg => hS.kept g (hB g hg).1 (hB g hg).2
 refine (reports_read n B b o c y w (keep hk hr) (Nat.le_trans hBs hS.size) hz hn hc hl).mono ?_
 rintro e w' ⟨A1, c1, v, rfl, hrow, ⟨A2, c2, hv, hc2, hr2⟩, hBl⟩
 subst hv
 refine ⟨⟨w.heap.size, c1, .agg #[.pointer A2, .int .i64 (c2 : Nat)], A1⟩, rfl, ?_⟩
 refine ⟨hBl.os, hBl.tape, hBl.output, hBl.size, fun g hg _ => hBl.block g hg, fun k c' hc' => ?_, fun k c' hc' y' hy => ?_, fun k k' c' c'' hc' hc'' hne y' hy hy' => ?_⟩
 ·rcases look2 hc' with ⟨_, rfl⟩ | ⟨_, rfl⟩
  ·exact ⟨hrow.1, fun hn0 => by obtain ⟨ad, e, _, _, h3⟩ := hrow.2 hn0; exact ⟨ad, e, h3⟩⟩
  ·exact ⟨⟨(keep (fun g hg => (hk g hg).symm) hr2).rowD, hB⟩, hz.drop _⟩
 ·rcases look2 hc' with ⟨_, rfl⟩ | ⟨_, rfl⟩
  ·obtain ⟨hn0, ad, e, rfl⟩ := hy
   have e : A1 = some ad := e
   obtain ⟨ad2, e2, h1, h2, _⟩ := hrow.2 hn0
   rw [e] at e2
   injection e2 with e2
   subst e2
   exact ⟨h2, .inl h1⟩
  ·exact hy.elim
 ·rcases look2 hc' with ⟨rfl, rfl⟩ | ⟨rfl, rfl⟩
  ·rcases look2 hc'' with ⟨rfl, rfl⟩ | ⟨rfl, rfl⟩
   ·exact hne rfl
   ·exact hy'.elim
  ·exact hy.elim
def R1 (n : Nat) (z : List Int) (q : Pkt) : Prop := 24 + 24 * n ≤ (z.drop 4).length ∧ ∃ A c A2 c2, q = { pNul with kind := 1, sender := rd32 (z.drop 4) 0, ntp := rd64 ((z.drop 4).drop 4) 0, rtp := rd32 ((z.drop 4).drop 12) 0, packets := rd32 ((z.drop 4).drop 16) 0, octets := rd32 ((z.drop 4).drop 20) 0, reports := ⟨A, c, parts4 repB 24 n ((z.drop 4).drop 24)⟩, ext := ⟨A2, c2, ((z.drop 4).drop 24).drop (24 * n)⟩ }
theorem readOne_1 (B b o c : Nat) (z : List Int) (w : World) (hr : Reads w B 1 (some ⟨b, o, none⟩) z.length (u8s z)) (hB : B ≤ w.heap.size) (hc : z.length ≤ c) (hl : z.length ≤ 131072) (n : Nat) (t : Int) (L : Nat) (hd : Hd z false n t L) (hzl : z.length = 4 * (L + 1)) (hk : kindOf (n : Nat) t = 1) :
  Calls Tryz.prog 10 #[.slice (some ⟨b, o, none⟩) z.length c] w (RoneOut w (R1 n z)) := by
 by_cases h8 : 24 + 24 * n ≤ (z.drop 4).length
 ·skip
  refine go_in Tryz.func10 rfl Tryz.ntmps10 [sv b o z.length c] fun a hE => ?_
  have hS := stp_in w
  have hS := stp_ry hS 110 hr (fun x hx => ⟨by omega, id⟩) hd.byts
  have hn31 := hd.cnt31
  have h4 := hd.len
  have hL : L ≤ 65535 := by have h1 := hd.ln; have h2 := rd16_lt hd.byts 2; omega
  have hlz : ((z.drop 4).drop 24).length = (z.drop 4).length - 24 := List.length_drop
  refine rg hE hS [nw 102, pu] (fun p1 => kp [(2, pt (p1 0).g 0), (3, .int .i64 0)]) (fun p1 => kP [(102, some (.blk (p1 0).g 38 zP))]) fun p1 a u hE hS => ?_
  refine rgp hE hS [pu, cu 7 [110] [] (fun _ => .tuple #[.agg #[.bool false, .int .u8 (n : Nat), .int .u8 t, .int .u16 (L : Nat)], .bool true]) (fun _ => []), pu, pu, pu, nw 103, st 103, pu] (fun p2 => kp [(4, pt (p2 5).g 0), (5, .bool true)]) (fun p2 => kP [(103, some (.blk (p2 5).g 36 #[.bool false, .int .u8 (n : Nat), .int .u8 t, .int .u16 (L : Nat)]))]) (fun _ => ⟨kr (cu_hdr (w0 := w) hd (B := B) 110 (some ⟨b, o, none⟩) z.length c rfl hc), trivial⟩) fun p2 a u hE hS => ?_
  refine wp_seq ?_
  refine rgp hE hS [pu, pu, pu, pu, ld 103, pe (.int .i64 (L : Nat)), pe (.int .i64 ((L + 1 : Nat) : Int)), pe (.int .i64 ((4 * (L + 1) : Nat) : Int)), pu, pu, pe (.bool false), pu] (fun _ => kp [(25, .bool false)]) kP0 (fun _ => ⟨kr (ciV (wiV ((L : Nat) : Int) (by omega))), kr (ciV (show IntKind.i64.wrap (((L : Nat) : Int) + (1 : Int)) = ((L + 1 : Nat) : Int) from by rw [wiV _ (by omega)]; omega)), kr (ciV (show IntKind.i64.wrap ((4 : Int) * ((L + 1 : Nat) : Int)) = ((4 * (L + 1) : Nat) : Int) from by rw [wiV _ (by omega)]; omega)), kr (cbV (show (((4 * (L + 1) : Nat) : Int) != ((z.length : Nat) : Int)) = false by rw [hzl]; simp)), trivial⟩) fun _ a u hE hS => iff hE <| wp_skip ?_
  refine rgp hE hS [ld 103, cu 36 [] [] (fun _ => .int .i64 1) (fun _ => []), pu, nw 101, st 101] (fun p4 => kp [(6, pt (p4 3).g 0)]) (fun p4 => kP [(101, some (.blk (p4 3).g 38 (pFb 1 0 0).cells))]) (fun _ => ⟨kr (cu_kind (w0 := w) false n t L 1 hk), trivial⟩) fun p4 a u hE hS => ?_
  refine wp_seq ?_
  refine rgp hE hS [pu, ld 101, pe (.bool false)] (fun _ => kp [(32, .bool false)]) kP0 (fun _ => ⟨kr (cbV (nbV (show (1 : Int) ≠ 0 by decide))), trivial⟩) fun _ a u hE hS => iff hE <| wp_skip ?_
  refine wp_seq ?_
  refine rg hE hS [pu, ld 103] (fun _ => kp [(41, .bool false)]) kP0 fun _ a u hE hS => iff hE <| wp_skip ?_
  refine rgp hE hS [pu, rsl 110 111, pu] (fun p7 => kp [(7, sv (p7 1).g (p7 1).c (z.drop 4).length (c - 4))]) (fun p7 => kP [(111, some (.ry (fun x => x < B) ((some ⟨(p7 1).g, (p7 1).c, none⟩)) (z.drop 4)))]) (fun _ => ⟨kr (show 4 ≤ z.length ∧ z.length ≤ z.length ∧ z.length ≤ c by omega), trivial⟩) fun p7 a u hE hS => ?_
  have hl4 : (z.drop 4).length = z.length - 4 := List.length_drop
  refine rgp hE hS [pu, ld 103, pe (.int .i64 (n : Nat)), pu] (fun _ => kp [(8, .int .i64 (n : Nat))]) kP0 (fun _ => ⟨kr (ciV (wiV ((n : Nat) : Int) (by omega))), trivial⟩) fun _ a u hE hS => ?_
  refine rg hE hS [pu] (fun _ => kp [(5, .bool false)]) kP0 fun _ a u hE hS => ?_
  refine wp_seq ?_
  refine rg hE hS [pu, ld 101] (fun _ => kp [(49, .int .i64 1)]) kP0 fun _ a u hE hS => wp_block ?_
  refine rgp hE hS [pe (.bool true), pu] (fun _ => kp [(64, .bool true)]) kP0 (fun _ => ⟨kr (cbV (ebV (show (1 : Int) = 1 by decide))), trivial⟩) fun _ a u hE hS => ift hE ?_
  refine rgp hE hS [pu, pu, pu, pe (.int .i64 ((24 * n : Nat) : Int)), pe (.int .i64 ((24 + 24 * n : Nat) : Int)), pe (.bool true), pu] (fun _ => kp [(5, .bool true)]) kP0 (fun _ => ⟨kr (ciV (show IntKind.i64.wrap ((24 : Int) * ((n : Nat) : Int)) = ((24 * n : Nat) : Int) from by rw [wiV _ (by omega)]; omega)), kr (ciV (show IntKind.i64.wrap ((24 : Int) + ((24 * n : Nat) : Int)) = ((24 + 24 * n : Nat) : Int) from by rw [wiV _ (by omega)]; omega)), kr (cbV (dtV (show (((z.drop 4).length : Nat) : Int) ≥ ((24 + 24 * n : Nat) : Int) by omega))), trivial⟩) fun _ a u hE hS => ?_
  refine rg hE hS [pu] (fun _ => kp [(72, .bool true)]) kP0 fun _ a u hE hS => ift hE ?_
  refine dgp hE hS [pu, cl cU32 [111] [], pu, rsl 111 112, cl cU64 [112] [], pu, rsl 111 113, cl cU32 [113] [], pu, rsl 111 114, cl cU32 [114] [], pu, rsl 111 115, cl cU32 [115] [], pu, st 101, pu, st 101, pu, st 101, pu, st 101, pu, st 101] kp0 (fun _ => kP [(101, some (.blk (p4 3).g 38 #[.int .i64 1, .int .u32 (rd32 (z.drop 4) 0), .int .u32 0, .int .u64 (rd64 ((z.drop 4).drop 4) 0), .int .u32 (rd32 ((z.drop 4).drop 12) 0), .int .u32 (rd32 ((z.drop 4).drop 16) 0), .int .u32 (rd32 ((z.drop 4).drop 20) 0), .slice none 0 0, .slice none 0 0, .slice none 0 0, .slice none 0 0, .string ByteArray.empty, .int .u8 0, .slice none 0 0, .slice none 0 0, .slice none 0 0, .slice none 0 0, .int .u32 0, .slice none 0 0, .int .u32 0, .int .u16 0, .int .u16 0, .int .u32 0, .int .u8 0, .slice none 0 0, .slice none 0 0, .bool false, .int .u8 0, .int .u8 0, .int .u16 0]))]) (fun _ => ⟨kr (show 4 ≤ (z.drop 4).length ∧ (z.drop 4).length ≤ (c - 4) ∧ 0 < (z.drop 4).length by omega), kr (show 4 ≤ (z.drop 4).length ∧ (z.drop 4).length ≤ (z.drop 4).length ∧ (z.drop 4).length ≤ (c - 4) by omega), kr (show 8 ≤ ((z.drop 4).drop 4).length ∧ ((z.drop 4).drop 4).length ≤ ((c - 4) - 4) ∧ 0 < ((z.drop 4).drop 4).length by simp only [List.length_drop] at *; omega), kr (show 12 ≤ (z.drop 4).length ∧ (z.drop 4).length ≤ (z.drop 4).length ∧ (z.drop 4).length ≤ (c - 4) by omega), kr (show 4 ≤ ((z.drop 4).drop 12).length ∧ ((z.drop 4).drop 12).length ≤ ((c - 4) - 12) ∧ 0 < ((z.drop 4).drop 12).length by simp only [List.length_drop] at *; omega), kr (show 16 ≤ (z.drop 4).length ∧ (z.drop 4).length ≤ (z.drop 4).length ∧ (z.drop 4).length ≤ (c - 4) by omega), kr (show 4 ≤ ((z.drop 4).drop 16).length ∧ ((z.drop 4).drop 16).length ≤ ((c - 4) - 16) ∧ 0 < ((z.drop 4).drop 16).length by simp only [List.length_drop] at *; omega), kr (show 20 ≤ (z.drop 4).length ∧ (z.drop 4).length ≤ (z.drop 4).length ∧ (z.drop 4).length ≤ (c - 4) by omega), kr (show 4 ≤ ((z.drop 4).drop 20).length ∧ ((z.drop 4).drop 20).length ≤ ((c - 4) - 20) ∧ 0 < ((z.drop 4).drop 20).length by simp only [List.length_drop] at *; omega), trivial⟩) fun _ a u hE hS => ?_
  refine rgE hE hS [pu, rsl 111 119, pu, cu 39 [119] [96, 97] (fun y => .tuple #[.slice y.a n y.c, .slice (dA (gV y.v 0)) (((z.drop 4).drop 24).drop (24 * n)).length (intOf (gV y.v 1)).toNat]) (fun y => [some (.ck (ckJ 7 y.a n ((parts4 repB 24 n ((z.drop 4).drop 24)).flatMap Rep.cells))), some (.ry (fun x => x < B) (dA (gV y.v 0)) (((z.drop 4).drop 24).drop (24 * n)))]), pu, pu, pu, pu, st 101, pu, st 101] kp0 (fun p15 => kP [(101, some (.blk (p4 3).g 38 #[.int .i64 1, .int .u32 (rd32 (z.drop 4) 0), .int .u32 0, .int .u64 (rd64 ((z.drop 4).drop 4) 0), .int .u32 (rd32 ((z.drop 4).drop 12) 0), .int .u32 (rd32 ((z.drop 4).drop 16) 0), .int .u32 (rd32 ((z.drop 4).drop 20) 0), .slice (p15 3).a n (p15 3).c, .slice (dA (gV (p15 3).v 0)) (((z.drop 4).drop 24).drop (24 * n)).length (intOf (gV (p15 3).v 1)).toNat, .slice none 0 0, .slice none 0 0, .string ByteArray.empty, .int .u8 0, .slice none 0 0, .slice none 0 0, .slice none 0 0, .slice none 0 0, .int .u32 0, .slice none 0 0, .int .u32 0, .int .u16 0, .int .u16 0, .int .u32 0, .int .u8 0, .slice none 0 0, .slice none 0 0, .bool false, .int .u8 0, .int .u8 0, .int .u16 0])), (96, some (.ck (ckJ 7 (p15 3).a n ((parts4 repB 24 n ((z.drop 4).drop 24)).flatMap Rep.cells)))), (97, some (.ry (fun x => x < B) ((dA (gV (p15 3).v 0))) (((z.drop 4).drop 24).drop (24 * n))))]) (fun p15 => ⟨kr (show 24 ≤ (z.drop 4).length ∧ (z.drop 4).length ≤ (z.drop 4).length ∧ (z.drop 4).length ≤ (c - 4) by omega), kr (cu_reports (w0 := w) (B := B) 119 (p15 1).g (p15 1).c ((z.drop 4).drop 24) (((z.drop 4).drop 24).length) (((c - 4) - 24)) n (u := none) (u' := none) rfl (by omega) (by omega) (by omega)), trivial⟩) fun p15 a u hE hS => ?_
  refine wp_seq ?_
  refine rg hE hS [pu, pu] (fun _ => kp [(152, .bool false)]) kP0 fun _ a u hE hS => iff hE <| wp_skip ?_
  refine rg hE hS [ld 101, st 102, pu] kp0 (fun _ => kP [(102, some (.blk (p1 0).g 38 #[.int .i64 1, .int .u32 (rd32 (z.drop 4) 0), .int .u32 0, .int .u64 (rd64 ((z.drop 4).drop 4) 0), .int .u32 (rd32 ((z.drop 4).drop 12) 0), .int .u32 (rd32 ((z.drop 4).drop 16) 0), .int .u32 (rd32 ((z.drop 4).drop 20) 0), .slice (p15 3).a n (p15 3).c, .slice (dA (gV (p15 3).v 0)) (((z.drop 4).drop 24).drop (24 * n)).length (intOf (gV (p15 3).v 1)).toNat, .slice none 0 0, .slice none 0 0, .string ByteArray.empty, .int .u8 0, .slice none 0 0, .slice none 0 0, .slice none 0 0, .slice none 0 0, .int .u32 0, .slice none 0 0, .int .u32 0, .int .u16 0, .int .u16 0, .int .u32 0, .int .u8 0, .slice none 0 0, .slice none 0 0, .bool false, .int .u8 0, .int .u8 0, .int .u16 0]))]) fun _ a u hE hS => ?_
  refine wp_ret ?_
  have hrd : RdB (fun _ => False) w (fun x => x < B) (dA (gV (p15 3).v 0)) (((z.drop 4).drop 24).drop (24 * n)) ∧ Byts (((z.drop 4).drop 24).drop (24 * n)) := hS.pure_ 97 (by kernel_rfl)
  have hr2 := hrd.1.1.reads
  have hrep := ckJ.reads (hS.ok 96 (ckJ 7 (p15 3).a n ((parts4 repB 24 n ((z.drop 4).drop 24)).flatMap Rep.cells)) (by kernel_rfl)) (by decide)
  have e : ({ pNul with kind := 1, sender := rd32 (z.drop 4) 0, ntp := rd64 ((z.drop 4).drop 4) 0, rtp := rd32 ((z.drop 4).drop 12) 0, packets := rd32 ((z.drop 4).drop 16) 0, octets := rd32 ((z.drop 4).drop 20) 0, reports := ⟨(p15 3).a, (p15 3).c, parts4 repB 24 n ((z.drop 4).drop 24)⟩, ext := ⟨dA (gV (p15 3).v 0), (intOf (gV (p15 3).v 1)).toNat, ((z.drop 4).drop 24).drop (24 * n)⟩ } : Pkt).cells = #[.int .i64 1, .int .u32 (rd32 (z.drop 4) 0), .int .u32 0, .int .u64 (rd64 ((z.drop 4).drop 4) 0), .int .u32 (rd32 ((z.drop 4).drop 12) 0), .int .u32 (rd32 ((z.drop 4).drop 16) 0), .int .u32 (rd32 ((z.drop 4).drop 20) 0), .slice (p15 3).a n (p15 3).c, .slice (dA (gV (p15 3).v 0)) (((z.drop 4).drop 24).drop (24 * n)).length (intOf (gV (p15 3).v 1)).toNat, .slice none 0 0, .slice none 0 0, .string ByteArray.empty, .int .u8 0, .slice none 0 0, .slice none 0 0, .slice none 0 0, .slice none 0 0, .int .u32 0, .slice none 0 0, .int .u32 0, .int .u16 0, .int .u16 0, .int .u32 0, .int .u8 0, .slice none 0 0, .slice none 0 0, .bool false, .int .u8 0, .int .u8 0, .int .u16 0] := by unfold Pkt.cells Sl.val; simp only [parts4_len]; rfl
  have hext : Reads u u.heap.size 1 (dA (gV (p15 3).v 0)) (((z.drop 4).drop 24).drop (24 * n)).length ((((z.drop 4).drop 24).drop (24 * n)).flatMap u8c) := by rw [u8c_flat]; exact (Reads.below (hr2.more hB) hS.below).more hS.size
  exact retct hE hS Tryz.results10 102 (p1 0).g 38 #[.int .i64 1, .int .u32 (rd32 (z.drop 4) 0), .int .u32 0, .int .u64 (rd64 ((z.drop 4).drop 4) 0), .int .u32 (rd32 ((z.drop 4).drop 12) 0), .int .u32 (rd32 ((z.drop 4).drop 16) 0), .int .u32 (rd32 ((z.drop 4).drop 20) 0), .slice (p15 3).a n (p15 3).c, .slice (dA (gV (p15 3).v 0)) (((z.drop 4).drop 24).drop (24 * n)).length (intOf (gV (p15 3).v 1)).toNat, .slice none 0 0, .slice none 0 0, .string ByteArray.empty, .int .u8 0, .slice none 0 0, .slice none 0 0, .slice none 0 0, .slice none 0 0, .int .u32 0, .slice none 0 0, .int .u32 0, .int .u16 0, .int .u16 0, .int .u32 0, .int .u8 0, .slice none 0 0, .slice none 0 0, .bool false, .int .u8 0, .int .u8 0, .int .u16 0] (.agg #[.int .i64 1, .int .u32 (rd32 (z.drop 4) 0), .int .u32 0, .int .u64 (rd64 ((z.drop 4).drop 4) 0), .int .u32 (rd32 ((z.drop 4).drop 12) 0), .int .u32 (rd32 ((z.drop 4).drop 16) 0), .int .u32 (rd32 ((z.drop 4).drop 20) 0), .slice (p15 3).a n (p15 3).c, .slice (dA (gV (p15 3).v 0)) (((z.drop 4).drop 24).drop (24 * n)).length (intOf (gV (p15 3).v 1)).toNat, .slice none 0 0, .slice none 0 0, .string ByteArray.empty, .int .u8 0, .slice none 0 0, .slice none 0 0, .slice none 0 0, .slice none 0 0, .int .u32 0, .slice none 0 0, .int .u32 0, .int .u16 0, .int .u16 0, .int .u32 0, .int .u8 0, .slice none 0 0, .slice none 0 0, .bool false, .int .u8 0, .int .u8 0, .int .u16 0]) (.int .i64 0) (.inr ⟨({ pNul with kind := 1, sender := rd32 (z.drop 4) 0, ntp := rd64 ((z.drop 4).drop 4) 0, rtp := rd32 ((z.drop 4).drop 12) 0, packets := rd32 ((z.drop 4).drop 16) 0, octets := rd32 ((z.drop 4).drop 20) 0, reports := ⟨(p15 3).a, (p15 3).c, parts4 repB 24 n ((z.drop 4).drop 24)⟩, ext := ⟨dA (gV (p15 3).v 0), (intOf (gV (p15 3).v 1)).toNat, ((z.drop 4).drop 24).drop (24 * n)⟩ } : Pkt), by rw [e], ⟨h8, _, _, _, _, rfl⟩, ⟨by unfold Sl.Lies; rw [parts4_len]; exact hrep, hext, reads_nil, (fun x hx => by cases hx), reads_nil, reads_nil, reads_nil, reads_nil, reads_nil, reads_nil, (fun x hx => by cases hx), reads_nil, (fun x hx => by cases hx), reads_nil⟩, hS.below⟩)
 ·skip
  refine go_in Tryz.func10 rfl Tryz.ntmps10 [sv b o z.length c] fun a hE => ?_
  have hS := stp_in w
  have hS := stp_ry hS 110 hr (fun x hx => ⟨by omega, id⟩) hd.byts
  have hn31 := hd.cnt31
  have h4 := hd.len
  have hL : L ≤ 65535 := by have h1 := hd.ln; have h2 := rd16_lt hd.byts 2; omega
  refine rg hE hS [nw 102, pu] (fun p1 => kp [(2, pt (p1 0).g 0), (3, .int .i64 0)]) (fun p1 => kP [(102, some (.blk (p1 0).g 38 zP))]) fun p1 a u hE hS => ?_
  refine rgp hE hS [pu, cu 7 [110] [] (fun _ => .tuple #[.agg #[.bool false, .int .u8 (n : Nat), .int .u8 t, .int .u16 (L : Nat)], .bool true]) (fun _ => []), pu, pu, pu, nw 103, st 103, pu] (fun p2 => kp [(4, pt (p2 5).g 0), (5, .bool true)]) (fun p2 => kP [(103, some (.blk (p2 5).g 36 #[.bool false, .int .u8 (n : Nat), .int .u8 t, .int .u16 (L : Nat)]))]) (fun _ => ⟨kr (cu_hdr (w0 := w) hd (B := B) 110 (some ⟨b, o, none⟩) z.length c rfl hc), trivial⟩) fun p2 a u hE hS => ?_
  refine wp_seq ?_
  refine rgp hE hS [pu, pu, pu, pu, ld 103, pe (.int .i64 (L : Nat)), pe (.int .i64 ((L + 1 : Nat) : Int)), pe (.int .i64 ((4 * (L + 1) : Nat) : Int)), pu, pu, pe (.bool false), pu] (fun _ => kp [(25, .bool false)]) kP0 (fun _ => ⟨kr (ciV (wiV ((L : Nat) : Int) (by omega))), kr (ciV (show IntKind.i64.wrap (((L : Nat) : Int) + (1 : Int)) = ((L + 1 : Nat) : Int) from by rw [wiV _ (by omega)]; omega)), kr (ciV (show IntKind.i64.wrap ((4 : Int) * ((L + 1 : Nat) : Int)) = ((4 * (L + 1) : Nat) : Int) from by rw [wiV _ (by omega)]; omega)), kr (cbV (show (((4 * (L + 1) : Nat) : Int) != ((z.length : Nat) : Int)) = false by rw [hzl]; simp)), trivial⟩) fun _ a u hE hS => iff hE <| wp_skip ?_
  refine rgp hE hS [ld 103, cu 36 [] [] (fun _ => .int .i64 1) (fun _ => []), pu, nw 101, st 101] (fun p4 => kp [(6, pt (p4 3).g 0)]) (fun p4 => kP [(101, some (.blk (p4 3).g 38 (pFb 1 0 0).cells))]) (fun _ => ⟨kr (cu_kind (w0 := w) false n t L 1 hk), trivial⟩) fun p4 a u hE hS => ?_
  refine wp_seq ?_
  refine rgp hE hS [pu, ld 101, pe (.bool false)] (fun _ => kp [(32, .bool false)]) kP0 (fun _ => ⟨kr (cbV (nbV (show (1 : Int) ≠ 0 by decide))), trivial⟩) fun _ a u hE hS => iff hE <| wp_skip ?_
  refine wp_seq ?_
  refine rg hE hS [pu, ld 103] (fun _ => kp [(41, .bool false)]) kP0 fun _ a u hE hS => iff hE <| wp_skip ?_
  refine rgp hE hS [pu, rsl 110 111, pu] (fun p7 => kp [(7, sv (p7 1).g (p7 1).c (z.drop 4).length (c - 4))]) (fun p7 => kP [(111, some (.ry (fun x => x < B) ((some ⟨(p7 1).g, (p7 1).c, none⟩)) (z.drop 4)))]) (fun _ => ⟨kr (show 4 ≤ z.length ∧ z.length ≤ z.length ∧ z.length ≤ c by omega), trivial⟩) fun p7 a u hE hS => ?_
  have hl4 : (z.drop 4).length = z.length - 4 := List.length_drop
  refine rgp hE hS [pu, ld 103, pe (.int .i64 (n : Nat)), pu] (fun _ => kp [(8, .int .i64 (n : Nat))]) kP0 (fun _ => ⟨kr (ciV (wiV ((n : Nat) : Int) (by omega))), trivial⟩) fun _ a u hE hS => ?_
  refine rg hE hS [pu] (fun _ => kp [(5, .bool false)]) kP0 fun _ a u hE hS => ?_
  refine wp_seq ?_
  refine rg hE hS [pu, ld 101] (fun _ => kp [(49, .int .i64 1)]) kP0 fun _ a u hE hS => wp_block ?_
  refine rgp hE hS [pe (.bool true), pu] (fun _ => kp [(64, .bool true)]) kP0 (fun _ => ⟨kr (cbV (ebV (show (1 : Int) = 1 by decide))), trivial⟩) fun _ a u hE hS => ift hE ?_
  refine rgp hE hS [pu, pu, pu, pe (.int .i64 ((24 * n : Nat) : Int)), pe (.int .i64 ((24 + 24 * n : Nat) : Int)), pe (.bool false), pu] (fun _ => kp [(5, .bool false)]) kP0 (fun _ => ⟨kr (ciV (show IntKind.i64.wrap ((24 : Int) * ((n : Nat) : Int)) = ((24 * n : Nat) : Int) from by rw [wiV _ (by omega)]; omega)), kr (ciV (show IntKind.i64.wrap ((24 : Int) + ((24 * n : Nat) : Int)) = ((24 + 24 * n : Nat) : Int) from by rw [wiV _ (by omega)]; omega)), kr (cbV (dfV (show ¬ ((((z.drop 4).length : Nat) : Int) ≥ ((24 + 24 * n : Nat) : Int)) by omega))), trivial⟩) fun _ a u hE hS => ?_
  refine rg hE hS [pu] (fun _ => kp [(72, .bool false)]) kP0 fun _ a u hE hS => iff hE <| wp_skip ?_
  refine wp_seq ?_
  refine rg hE hS [pu, pu] (fun _ => kp [(152, .bool true)]) kP0 fun _ a u hE hS => ift hE ?_
  refine rg hE hS [pu, st 102, pu] (fun _ => kp [(3, .int .i64 2)]) kP0 fun _ a u hE hS => ?_
  refine wp_ret (thR ?_)
  exact retct hE hS Tryz.results10 102 (p1 0).g 38 pNul.cells (.agg pNul.cells) (.int .i64 2) (.inl ⟨_, _, rfl, by decide, rfl, hS.below⟩)
def R2 (n : Nat) (z : List Int) (q : Pkt) : Prop := 4 + 24 * n ≤ (z.drop 4).length ∧ ∃ A c A2 c2, q = { pNul with kind := 2, sender := rd32 (z.drop 4) 0, reports := ⟨A, c, parts4 repB 24 n ((z.drop 4).drop 4)⟩, ext := ⟨A2, c2, ((z.drop 4).drop 4).drop (24 * n)⟩ }
theorem readOne_2 (B b o c : Nat) (z : List Int) (w : World) (hr : Reads w B 1 (some ⟨b, o, none⟩) z.length (u8s z)) (hB : B ≤ w.heap.size) (hc : z.length ≤ c) (hl : z.length ≤ 131072) (n : Nat) (t : Int) (L : Nat) (hd : Hd z false n t L) (hzl : z.length = 4 * (L + 1)) (hk : kindOf (n : Nat) t = 2) :
  Calls Tryz.prog 10 #[.slice (some ⟨b, o, none⟩) z.length c] w (RoneOut w (R2 n z)) := by
 by_cases h8 : 4 + 24 * n ≤ (z.drop 4).length
 ·skip
  refine go_in Tryz.func10 rfl Tryz.ntmps10 [sv b o z.length c] fun a hE => ?_
  have hS := stp_in w
  have hS := stp_ry hS 110 hr (fun x hx => ⟨by omega, id⟩) hd.byts
  have hn31 := hd.cnt31
  have h4 := hd.len
  have hL : L ≤ 65535 := by have h1 := hd.ln; have h2 := rd16_lt hd.byts 2; omega
  have hlz : ((z.drop 4).drop 4).length = (z.drop 4).length - 4 := List.length_drop
  refine rg hE hS [nw 102, pu] (fun p1 => kp [(2, pt (p1 0).g 0), (3, .int .i64 0)]) (fun p1 => kP [(102, some (.blk (p1 0).g 38 zP))]) fun p1 a u hE hS => ?_
  refine rgp hE hS [pu, cu 7 [110] [] (fun _ => .tuple #[.agg #[.bool false, .int .u8 (n : Nat), .int .u8 t, .int .u16 (L : Nat)], .bool true]) (fun _ => []), pu, pu, pu, nw 103, st 103, pu] (fun p2 => kp [(4, pt (p2 5).g 0), (5, .bool true)]) (fun p2 => kP [(103, some (.blk (p2 5).g 36 #[.bool false, .int .u8 (n : Nat), .int .u8 t, .int .u16 (L : Nat)]))]) (fun _ => ⟨kr (cu_hdr (w0 := w) hd (B := B) 110 (some ⟨b, o, none⟩) z.length c rfl hc), trivial⟩) fun p2 a u hE hS => ?_
  refine wp_seq ?_
  refine rgp hE hS [pu, pu, pu, pu, ld 103, pe (.int .i64 (L : Nat)), pe (.int .i64 ((L + 1 : Nat) : Int)), pe (.int .i64 ((4 * (L + 1) : Nat) : Int)), pu, pu, pe (.bool false), pu] (fun _ => kp [(25, .bool false)]) kP0 (fun _ => ⟨kr (ciV (wiV ((L : Nat) : Int) (by omega))), kr (ciV (show IntKind.i64.wrap (((L : Nat) : Int) + (1 : Int)) = ((L + 1 : Nat) : Int) from by rw [wiV _ (by omega)]; omega)), kr (ciV (show IntKind.i64.wrap ((4 : Int) * ((L + 1 : Nat) : Int)) = ((4 * (L + 1) : Nat) : Int) from by rw [wiV _ (by omega)]; omega)), kr (cbV (show (((4 * (L + 1) : Nat) : Int) != ((z.length : Nat) : Int)) = false by rw [hzl]; simp)), trivial⟩) fun _ a u hE hS => iff hE <| wp_skip ?_
  refine rgp hE hS [ld 103, cu 36 [] [] (fun _ => .int .i64 2) (fun _ => []), pu, nw 101, st 101] (fun p4 => kp [(6, pt (p4 3).g 0)]) (fun p4 => kP [(101, some (.blk (p4 3).g 38 (pFb 2 0 0).cells))]) (fun _ => ⟨kr (cu_kind (w0 := w) false n t L 2 hk), trivial⟩) fun p4 a u hE hS => ?_
  refine wp_seq ?_
  refine rgp hE hS [pu, ld 101, pe (.bool false)] (fun _ => kp [(32, .bool false)]) kP0 (fun _ => ⟨kr (cbV (nbV (show (2 : Int) ≠ 0 by decide))), trivial⟩) fun _ a u hE hS => iff hE <| wp_skip ?_
  refine wp_seq ?_
  refine rg hE hS [pu, ld 103] (fun _ => kp [(41, .bool false)]) kP0 fun _ a u hE hS => iff hE <| wp_skip ?_
  refine rgp hE hS [pu, rsl 110 111, pu] (fun p7 => kp [(7, sv (p7 1).g (p7 1).c (z.drop 4).length (c - 4))]) (fun p7 => kP [(111, some (.ry (fun x => x < B) ((some ⟨(p7 1).g, (p7 1).c, none⟩)) (z.drop 4)))]) (fun _ => ⟨kr (show 4 ≤ z.length ∧ z.length ≤ z.length ∧ z.length ≤ c by omega), trivial⟩) fun p7 a u hE hS => ?_
  have hl4 : (z.drop 4).length = z.length - 4 := List.length_drop
  refine rgp hE hS [pu, ld 103, pe (.int .i64 (n : Nat)), pu] (fun _ => kp [(8, .int .i64 (n : Nat))]) kP0 (fun _ => ⟨kr (ciV (wiV ((n : Nat) : Int) (by omega))), trivial⟩) fun _ a u hE hS => ?_
  refine rg hE hS [pu] (fun _ => kp [(5, .bool false)]) kP0 fun _ a u hE hS => ?_
  refine wp_seq ?_
  refine rg hE hS [pu, ld 101] (fun _ => kp [(49, .int .i64 2)]) kP0 fun _ a u hE hS => wp_block ?_
  refine rgp hE hS [pe (.bool false), pu] (fun _ => kp [(64, .bool false)]) kP0 (fun _ => ⟨kr (cbV (nbV (show (2 : Int) ≠ 1 by decide))), trivial⟩) fun _ a u hE hS => iff hE ?_
  refine rgp hE hS [pe (.bool true), pu] (fun _ => kp [(101, .bool true)]) kP0 (fun _ => ⟨kr (cbV (ebV (show (2 : Int) = 2 by decide))), trivial⟩) fun _ a u hE hS => ift hE ?_
  refine rgp hE hS [pu, pu, pu, pe (.int .i64 ((24 * n : Nat) : Int)), pe (.int .i64 ((4 + 24 * n : Nat) : Int)), pe (.bool true), pu] (fun _ => kp [(5, .bool true)]) kP0 (fun _ => ⟨kr (ciV (show IntKind.i64.wrap ((24 : Int) * ((n : Nat) : Int)) = ((24 * n : Nat) : Int) from by rw [wiV _ (by omega)]; omega)), kr (ciV (show IntKind.i64.wrap ((4 : Int) + ((24 * n : Nat) : Int)) = ((4 + 24 * n : Nat) : Int) from by rw [wiV _ (by omega)]; omega)), kr (cbV (dtV (show (((z.drop 4).length : Nat) : Int) ≥ ((4 + 24 * n : Nat) : Int) by omega))), trivial⟩) fun _ a u hE hS => ?_
  refine rg hE hS [pu] (fun _ => kp [(109, .bool true)]) kP0 fun _ a u hE hS => ift hE ?_
  refine rgp hE hS [pu, cl cU32 [111] [], pu, st 101] kp0 (fun _ => kP [(101, some (.blk (p4 3).g 38 #[.int .i64 2, .int .u32 (rd32 (z.drop 4) 0), .int .u32 0, .int .u64 0, .int .u32 0, .int .u32 0, .int .u32 0, .slice none 0 0, .slice none 0 0, .slice none 0 0, .slice none 0 0, .string ByteArray.empty, .int .u8 0, .slice none 0 0, .slice none 0 0, .slice none 0 0, .slice none 0 0, .int .u32 0, .slice none 0 0, .int .u32 0, .int .u16 0, .int .u16 0, .int .u32 0, .int .u8 0, .slice none 0 0, .slice none 0 0, .bool false, .int .u8 0, .int .u8 0, .int .u16 0]))]) (fun _ => ⟨kr (show 4 ≤ (z.drop 4).length ∧ (z.drop 4).length ≤ (c - 4) ∧ 0 < (z.drop 4).length by omega), trivial⟩) fun _ a u hE hS => ?_
  refine rgE hE hS [pu, rsl 111 119, pu, cu 39 [119] [96, 97] (fun y => .tuple #[.slice y.a n y.c, .slice (dA (gV y.v 0)) (((z.drop 4).drop 4).drop (24 * n)).length (intOf (gV y.v 1)).toNat]) (fun y => [some (.ck (ckJ 7 y.a n ((parts4 repB 24 n ((z.drop 4).drop 4)).flatMap Rep.cells))), some (.ry (fun x => x < B) (dA (gV y.v 0)) (((z.drop 4).drop 4).drop (24 * n)))]), pu, pu, pu, pu, st 101, pu, st 101] kp0 (fun p16 => kP [(101, some (.blk (p4 3).g 38 #[.int .i64 2, .int .u32 (rd32 (z.drop 4) 0), .int .u32 0, .int .u64 0, .int .u32 0, .int .u32 0, .int .u32 0, .slice (p16 3).a n (p16 3).c, .slice (dA (gV (p16 3).v 0)) (((z.drop 4).drop 4).drop (24 * n)).length (intOf (gV (p16 3).v 1)).toNat, .slice none 0 0, .slice none 0 0, .string ByteArray.empty, .int .u8 0, .slice none 0 0, .slice none 0 0, .slice none 0 0, .slice none 0 0, .int .u32 0, .slice none 0 0, .int .u32 0, .int .u16 0, .int .u16 0, .int .u32 0, .int .u8 0, .slice none 0 0, .slice none 0 0, .bool false, .int .u8 0, .int .u8 0, .int .u16 0])), (96, some (.ck (ckJ 7 (p16 3).a n ((parts4 repB 24 n ((z.drop 4).drop 4)).flatMap Rep.cells)))), (97, some (.ry (fun x => x < B) ((dA (gV (p16 3).v 0))) (((z.drop 4).drop 4).drop (24 * n))))]) (fun p16 => ⟨kr (show 4 ≤ (z.drop 4).length ∧ (z.drop 4).length ≤ (z.drop 4).length ∧ (z.drop 4).length ≤ (c - 4) by omega), kr (cu_reports (w0 := w) (B := B) 119 (p16 1).g (p16 1).c ((z.drop 4).drop 4) (((z.drop 4).drop 4).length) (((c - 4) - 4)) n (u := none) (u' := none) rfl (by omega) (by omega) (by omega)), trivial⟩) fun p16 a u hE hS => ?_
  refine wp_seq ?_
  refine rg hE hS [pu, pu] (fun _ => kp [(152, .bool false)]) kP0 fun _ a u hE hS => iff hE <| wp_skip ?_
  refine rg hE hS [ld 101, st 102, pu] kp0 (fun _ => kP [(102, some (.blk (p1 0).g 38 #[.int .i64 2, .int .u32 (rd32 (z.drop 4) 0), .int .u32 0, .int .u64 0, .int .u32 0, .int .u32 0, .int .u32 0, .slice (p16 3).a n (p16 3).c, .slice (dA (gV (p16 3).v 0)) (((z.drop 4).drop 4).drop (24 * n)).length (intOf (gV (p16 3).v 1)).toNat, .slice none 0 0, .slice none 0 0, .string ByteArray.empty, .int .u8 0, .slice none 0 0, .slice none 0 0, .slice none 0 0, .slice none 0 0, .int .u32 0, .slice none 0 0, .int .u32 0, .int .u16 0, .int .u16 0, .int .u32 0, .int .u8 0, .slice none 0 0, .slice none 0 0, .bool false, .int .u8 0, .int .u8 0, .int .u16 0]))]) fun _ a u hE hS => ?_
  refine wp_ret ?_
  have hrd : RdB (fun _ => False) w (fun x => x < B) (dA (gV (p16 3).v 0)) (((z.drop 4).drop 4).drop (24 * n)) ∧ Byts (((z.drop 4).drop 4).drop (24 * n)) := hS.pure_ 97 (by kernel_rfl)
  have hr2 := hrd.1.1.reads
  have hrep := ckJ.reads (hS.ok 96 (ckJ 7 (p16 3).a n ((parts4 repB 24 n ((z.drop 4).drop 4)).flatMap Rep.cells)) (by kernel_rfl)) (by decide)
  have e : ({ pNul with kind := 2, sender := rd32 (z.drop 4) 0, reports := ⟨(p16 3).a, (p16 3).c, parts4 repB 24 n ((z.drop 4).drop 4)⟩, ext := ⟨dA (gV (p16 3).v 0), (intOf (gV (p16 3).v 1)).toNat, ((z.drop 4).drop 4).drop (24 * n)⟩ } : Pkt).cells = #[.int .i64 2, .int .u32 (rd32 (z.drop 4) 0), .int .u32 0, .int .u64 0, .int .u32 0, .int .u32 0, .int .u32 0, .slice (p16 3).a n (p16 3).c, .slice (dA (gV (p16 3).v 0)) (((z.drop 4).drop 4).drop (24 * n)).length (intOf (gV (p16 3).v 1)).toNat, .slice none 0 0, .slice none 0 0, .string ByteArray.empty, .int .u8 0, .slice none 0 0, .slice none 0 0, .slice none 0 0, .slice none 0 0, .int .u32 0, .slice none 0 0, .int .u32 0, .int .u16 0, .int .u16 0, .int .u32 0, .int .u8 0, .slice none 0 0, .slice none 0 0, .bool false, .int .u8 0, .int .u8 0, .int .u16 0] := by unfold Pkt.cells Sl.val; simp only [parts4_len]; rfl
  have hext : Reads u u.heap.size 1 (dA (gV (p16 3).v 0)) (((z.drop 4).drop 4).drop (24 * n)).length ((((z.drop 4).drop 4).drop (24 * n)).flatMap u8c) := by rw [u8c_flat]; exact (Reads.below (hr2.more hB) hS.below).more hS.size
  exact retct hE hS Tryz.results10 102 (p1 0).g 38 #[.int .i64 2, .int .u32 (rd32 (z.drop 4) 0), .int .u32 0, .int .u64 0, .int .u32 0, .int .u32 0, .int .u32 0, .slice (p16 3).a n (p16 3).c, .slice (dA (gV (p16 3).v 0)) (((z.drop 4).drop 4).drop (24 * n)).length (intOf (gV (p16 3).v 1)).toNat, .slice none 0 0, .slice none 0 0, .string ByteArray.empty, .int .u8 0, .slice none 0 0, .slice none 0 0, .slice none 0 0, .slice none 0 0, .int .u32 0, .slice none 0 0, .int .u32 0, .int .u16 0, .int .u16 0, .int .u32 0, .int .u8 0, .slice none 0 0, .slice none 0 0, .bool false, .int .u8 0, .int .u8 0, .int .u16 0] (.agg #[.int .i64 2, .int .u32 (rd32 (z.drop 4) 0), .int .u32 0, .int .u64 0, .int .u32 0, .int .u32 0, .int .u32 0, .slice (p16 3).a n (p16 3).c, .slice (dA (gV (p16 3).v 0)) (((z.drop 4).drop 4).drop (24 * n)).length (intOf (gV (p16 3).v 1)).toNat, .slice none 0 0, .slice none 0 0, .string ByteArray.empty, .int .u8 0, .slice none 0 0, .slice none 0 0, .slice none 0 0, .slice none 0 0, .int .u32 0, .slice none 0 0, .int .u32 0, .int .u16 0, .int .u16 0, .int .u32 0, .int .u8 0, .slice none 0 0, .slice none 0 0, .bool false, .int .u8 0, .int .u8 0, .int .u16 0]) (.int .i64 0) (.inr ⟨({ pNul with kind := 2, sender := rd32 (z.drop 4) 0, reports := ⟨(p16 3).a, (p16 3).c, parts4 repB 24 n ((z.drop 4).drop 4)⟩, ext := ⟨dA (gV (p16 3).v 0), (intOf (gV (p16 3).v 1)).toNat, ((z.drop 4).drop 4).drop (24 * n)⟩ } : Pkt), by rw [e], ⟨h8, _, _, _, _, rfl⟩, ⟨by unfold Sl.Lies; rw [parts4_len]; exact hrep, hext, reads_nil, (fun x hx => by cases hx), reads_nil, reads_nil, reads_nil, reads_nil, reads_nil, reads_nil, (fun x hx => by cases hx), reads_nil, (fun x hx => by cases hx), reads_nil⟩, hS.below⟩)
 ·skip
  refine go_in Tryz.func10 rfl Tryz.ntmps10 [sv b o z.length c] fun a hE => ?_
  have hS := stp_in w
  have hS := stp_ry hS 110 hr (fun x hx => ⟨by omega, id⟩) hd.byts
  have hn31 := hd.cnt31
  have h4 := hd.len
  have hL : L ≤ 65535 := by have h1 := hd.ln; have h2 := rd16_lt hd.byts 2; omega
  refine rg hE hS [nw 102, pu] (fun p1 => kp [(2, pt (p1 0).g 0), (3, .int .i64 0)]) (fun p1 => kP [(102, some (.blk (p1 0).g 38 zP))]) fun p1 a u hE hS => ?_
  refine rgp hE hS [pu, cu 7 [110] [] (fun _ => .tuple #[.agg #[.bool false, .int .u8 (n : Nat), .int .u8 t, .int .u16 (L : Nat)], .bool true]) (fun _ => []), pu, pu, pu, nw 103, st 103, pu] (fun p2 => kp [(4, pt (p2 5).g 0), (5, .bool true)]) (fun p2 => kP [(103, some (.blk (p2 5).g 36 #[.bool false, .int .u8 (n : Nat), .int .u8 t, .int .u16 (L : Nat)]))]) (fun _ => ⟨kr (cu_hdr (w0 := w) hd (B := B) 110 (some ⟨b, o, none⟩) z.length c rfl hc), trivial⟩) fun p2 a u hE hS => ?_
  refine wp_seq ?_
  refine rgp hE hS [pu, pu, pu, pu, ld 103, pe (.int .i64 (L : Nat)), pe (.int .i64 ((L + 1 : Nat) : Int)), pe (.int .i64 ((4 * (L + 1) : Nat) : Int)), pu, pu, pe (.bool false), pu] (fun _ => kp [(25, .bool false)]) kP0 (fun _ => ⟨kr (ciV (wiV ((L : Nat) : Int) (by omega))), kr (ciV (show IntKind.i64.wrap (((L : Nat) : Int) + (1 : Int)) = ((L + 1 : Nat) : Int) from by rw [wiV _ (by omega)]; omega)), kr (ciV (show IntKind.i64.wrap ((4 : Int) * ((L + 1 : Nat) : Int)) = ((4 * (L + 1) : Nat) : Int) from by rw [wiV _ (by omega)]; omega)), kr (cbV (show (((4 * (L + 1) : Nat) : Int) != ((z.length : Nat) : Int)) = false by rw [hzl]; simp)), trivial⟩) fun _ a u hE hS => iff hE <| wp_skip ?_
  refine rgp hE hS [ld 103, cu 36 [] [] (fun _ => .int .i64 2) (fun _ => []), pu, nw 101, st 101] (fun p4 => kp [(6, pt (p4 3).g 0)]) (fun p4 => kP [(101, some (.blk (p4 3).g 38 (pFb 2 0 0).cells))]) (fun _ => ⟨kr (cu_kind (w0 := w) false n t L 2 hk), trivial⟩) fun p4 a u hE hS => ?_
  refine wp_seq ?_
  refine rgp hE hS [pu, ld 101, pe (.bool false)] (fun _ => kp [(32, .bool false)]) kP0 (fun _ => ⟨kr (cbV (nbV (show (2 : Int) ≠ 0 by decide))), trivial⟩) fun _ a u hE hS => iff hE <| wp_skip ?_
  refine wp_seq ?_
  refine rg hE hS [pu, ld 103] (fun _ => kp [(41, .bool false)]) kP0 fun _ a u hE hS => iff hE <| wp_skip ?_
  refine rgp hE hS [pu, rsl 110 111, pu] (fun p7 => kp [(7, sv (p7 1).g (p7 1).c (z.drop 4).length (c - 4))]) (fun p7 => kP [(111, some (.ry (fun x => x < B) ((some ⟨(p7 1).g, (p7 1).c, none⟩)) (z.drop 4)))]) (fun _ => ⟨kr (show 4 ≤ z.length ∧ z.length ≤ z.length ∧ z.length ≤ c by omega), trivial⟩) fun p7 a u hE hS => ?_
  have hl4 : (z.drop 4).length = z.length - 4 := List.length_drop
  refine rgp hE hS [pu, ld 103, pe (.int .i64 (n : Nat)), pu] (fun _ => kp [(8, .int .i64 (n : Nat))]) kP0 (fun _ => ⟨kr (ciV (wiV ((n : Nat) : Int) (by omega))), trivial⟩) fun _ a u hE hS => ?_
  refine rg hE hS [pu] (fun _ => kp [(5, .bool false)]) kP0 fun _ a u hE hS => ?_
  refine wp_seq ?_
  refine rg hE hS [pu, ld 101] (fun _ => kp [(49, .int .i64 2)]) kP0 fun _ a u hE hS => wp_block ?_
  refine rgp hE hS [pe (.bool false), pu] (fun _ => kp [(64, .bool false)]) kP0 (fun _ => ⟨kr (cbV (nbV (show (2 : Int) ≠ 1 by decide))), trivial⟩) fun _ a u hE hS => iff hE ?_
  refine rgp hE hS [pe (.bool true), pu] (fun _ => kp [(101, .bool true)]) kP0 (fun _ => ⟨kr (cbV (ebV (show (2 : Int) = 2 by decide))), trivial⟩) fun _ a u hE hS => ift hE ?_
  refine rgp hE hS [pu, pu, pu, pe (.int .i64 ((24 * n : Nat) : Int)), pe (.int .i64 ((4 + 24 * n : Nat) : Int)), pe (.bool false), pu] (fun _ => kp [(5, .bool false)]) kP0 (fun _ => ⟨kr (ciV (show IntKind.i64.wrap ((24 : Int) * ((n : Nat) : Int)) = ((24 * n : Nat) : Int) from by rw [wiV _ (by omega)]; omega)), kr (ciV (show IntKind.i64.wrap ((4 : Int) + ((24 * n : Nat) : Int)) = ((4 + 24 * n : Nat) : Int) from by rw [wiV _ (by omega)]; omega)), kr (cbV (dfV (show ¬ ((((z.drop 4).length : Nat) : Int) ≥ ((4 + 24 * n : Nat) : Int)) by omega))), trivial⟩) fun _ a u hE hS => ?_
  refine rg hE hS [pu] (fun _ => kp [(109, .bool false)]) kP0 fun _ a u hE hS => iff hE <| wp_skip ?_
  refine wp_seq ?_
  refine rg hE hS [pu, pu] (fun _ => kp [(152, .bool true)]) kP0 fun _ a u hE hS => ift hE ?_
  refine rg hE hS [pu, st 102, pu] (fun _ => kp [(3, .int .i64 2)]) kP0 fun _ a u hE hS => ?_
  refine wp_ret (thR ?_)
  exact retct hE hS Tryz.results10 102 (p1 0).g 38 pNul.cells (.agg pNul.cells) (.int .i64 2) (.inl ⟨_, _, rfl, by decide, rfl, hS.below⟩)
def R0 (t : Int) (z : List Int) (q : Pkt) : Prop := t ≠ 207 ∧ ∃ A c, q = { pNul with data := ⟨A, c, z⟩ }
theorem readOne_0 (B b o c : Nat) (z : List Int) (w : World) (hr : Reads w B 1 (some ⟨b, o, none⟩) z.length (u8s z)) (hB : B ≤ w.heap.size) (hc : z.length ≤ c) (hl : z.length ≤ 131072) (pad : Bool) (n : Nat) (t : Int) (L : Nat) (hd : Hd z pad n t L) (hzl : z.length = 4 * (L + 1)) (hk : kindOf (n : Nat) t = 0) :
  Calls Tryz.prog 10 #[.slice (some ⟨b, o, none⟩) z.length c] w (RoneOut w (R0 t z)) := by
 by_cases h207 : t = 207
 ·skip
  refine go_in Tryz.func10 rfl Tryz.ntmps10 [sv b o z.length c] fun a hE => ?_
  have hS := stp_in w
  have hS := stp_ry hS 110 hr (fun x hx => ⟨by omega, id⟩) hd.byts
  have hn31 := hd.cnt31
  have h4 := hd.len
  have hL : L ≤ 65535 := by have h1 := hd.ln; have h2 := rd16_lt hd.byts 2; omega
  refine rg hE hS [nw 102, pu] (fun p1 => kp [(2, pt (p1 0).g 0), (3, .int .i64 0)]) (fun p1 => kP [(102, some (.blk (p1 0).g 38 zP))]) fun p1 a u hE hS => ?_
  refine rgp hE hS [pu, cu 7 [110] [] (fun _ => .tuple #[.agg #[.bool pad, .int .u8 (n : Nat), .int .u8 t, .int .u16 (L : Nat)], .bool true]) (fun _ => []), pu, pu, pu, nw 103, st 103, pu] (fun p2 => kp [(4, pt (p2 5).g 0), (5, .bool true)]) (fun p2 => kP [(103, some (.blk (p2 5).g 36 #[.bool pad, .int .u8 (n : Nat), .int .u8 t, .int .u16 (L : Nat)]))]) (fun _ => ⟨kr (cu_hdr (w0 := w) hd (B := B) 110 (some ⟨b, o, none⟩) z.length c rfl hc), trivial⟩) fun p2 a u hE hS => ?_
  refine wp_seq ?_
  refine rgp hE hS [pu, pu, pu, pu, ld 103, pe (.int .i64 (L : Nat)), pe (.int .i64 ((L + 1 : Nat) : Int)), pe (.int .i64 ((4 * (L + 1) : Nat) : Int)), pu, pu, pe (.bool false), pu] (fun _ => kp [(25, .bool false)]) kP0 (fun _ => ⟨kr (ciV (wiV ((L : Nat) : Int) (by omega))), kr (ciV (show IntKind.i64.wrap (((L : Nat) : Int) + (1 : Int)) = ((L + 1 : Nat) : Int) from by rw [wiV _ (by omega)]; omega)), kr (ciV (show IntKind.i64.wrap ((4 : Int) * ((L + 1 : Nat) : Int)) = ((4 * (L + 1) : Nat) : Int) from by rw [wiV _ (by omega)]; omega)), kr (cbV (show (((4 * (L + 1) : Nat) : Int) != ((z.length : Nat) : Int)) = false by rw [hzl]; simp)), trivial⟩) fun _ a u hE hS => iff hE <| wp_skip ?_
  refine rgp hE hS [ld 103, cu 36 [] [] (fun _ => .int .i64 0) (fun _ => []), pu, nw 101, st 101] (fun p4 => kp [(6, pt (p4 3).g 0)]) (fun p4 => kP [(101, some (.blk (p4 3).g 38 (pFb 0 0 0).cells))]) (fun _ => ⟨kr (cu_kind (w0 := w) pad n t L 0 hk), trivial⟩) fun p4 a u hE hS => ?_
  refine wp_seq ?_
  refine rgp hE hS [pu, ld 101, pe (.bool true)] (fun _ => kp [(32, .bool true)]) kP0 (fun _ => ⟨kr (cbV (ebV (show (0 : Int) = 0 by rfl))), trivial⟩) fun _ a u hE hS => ift hE ?_
  refine wp_seq ?_
  refine rgp hE hS [pu, ld 103, pe (.bool true)] (fun _ => kp [(35, .bool true)]) kP0 (fun _ => ⟨kr (cbV (ebV (show (t : Int) = 207 by exact h207))), trivial⟩) fun _ a u hE hS => ift hE ?_
  refine rg hE hS [pu, st 102, pu] (fun _ => kp [(3, .int .i64 2)]) kP0 fun _ a u hE hS => ?_
  refine wp_ret (thR (thR ?_))
  exact retct hE hS Tryz.results10 102 (p1 0).g 38 pNul.cells (.agg pNul.cells) (.int .i64 2) (.inl ⟨_, _, rfl, by decide, rfl, hS.below⟩)
 ·skip
  refine go_in Tryz.func10 rfl Tryz.ntmps10 [sv b o z.length c] fun a hE => ?_
  have hS := stp_in w
  have hS := stp_ry hS 110 hr (fun x hx => ⟨by omega, id⟩) hd.byts
  have hn31 := hd.cnt31
  have h4 := hd.len
  have hL : L ≤ 65535 := by have h1 := hd.ln; have h2 := rd16_lt hd.byts 2; omega
  refine rg hE hS [nw 102, pu] (fun p1 => kp [(2, pt (p1 0).g 0), (3, .int .i64 0)]) (fun p1 => kP [(102, some (.blk (p1 0).g 38 zP))]) fun p1 a u hE hS => ?_
  refine rgp hE hS [pu, cu 7 [110] [] (fun _ => .tuple #[.agg #[.bool pad, .int .u8 (n : Nat), .int .u8 t, .int .u16 (L : Nat)], .bool true]) (fun _ => []), pu, pu, pu, nw 103, st 103, pu] (fun p2 => kp [(4, pt (p2 5).g 0), (5, .bool true)]) (fun p2 => kP [(103, some (.blk (p2 5).g 36 #[.bool pad, .int .u8 (n : Nat), .int .u8 t, .int .u16 (L : Nat)]))]) (fun _ => ⟨kr (cu_hdr (w0 := w) hd (B := B) 110 (some ⟨b, o, none⟩) z.length c rfl hc), trivial⟩) fun p2 a u hE hS => ?_
  refine wp_seq ?_
  refine rgp hE hS [pu, pu, pu, pu, ld 103, pe (.int .i64 (L : Nat)), pe (.int .i64 ((L + 1 : Nat) : Int)), pe (.int .i64 ((4 * (L + 1) : Nat) : Int)), pu, pu, pe (.bool false), pu] (fun _ => kp [(25, .bool false)]) kP0 (fun _ => ⟨kr (ciV (wiV ((L : Nat) : Int) (by omega))), kr (ciV (show IntKind.i64.wrap (((L : Nat) : Int) + (1 : Int)) = ((L + 1 : Nat) : Int) from by rw [wiV _ (by omega)]; omega)), kr (ciV (show IntKind.i64.wrap ((4 : Int) * ((L + 1 : Nat) : Int)) = ((4 * (L + 1) : Nat) : Int) from by rw [wiV _ (by omega)]; omega)), kr (cbV (show (((4 * (L + 1) : Nat) : Int) != ((z.length : Nat) : Int)) = false by rw [hzl]; simp)), trivial⟩) fun _ a u hE hS => iff hE <| wp_skip ?_
  refine rgp hE hS [ld 103, cu 36 [] [] (fun _ => .int .i64 0) (fun _ => []), pu, nw 101, st 101] (fun p4 => kp [(6, pt (p4 3).g 0)]) (fun p4 => kP [(101, some (.blk (p4 3).g 38 (pFb 0 0 0).cells))]) (fun _ => ⟨kr (cu_kind (w0 := w) pad n t L 0 hk), trivial⟩) fun p4 a u hE hS => ?_
  refine wp_seq ?_
  refine rgp hE hS [pu, ld 101, pe (.bool true)] (fun _ => kp [(32, .bool true)]) kP0 (fun _ => ⟨kr (cbV (ebV (show (0 : Int) = 0 by rfl))), trivial⟩) fun _ a u hE hS => ift hE ?_
  refine wp_seq ?_
  refine rgp hE hS [pu, ld 103, pe (.bool false)] (fun _ => kp [(35, .bool false)]) kP0 (fun _ => ⟨kr (cbV (nbV (show (t : Int) ≠ 207 by exact h207))), trivial⟩) fun _ a u hE hS => iff hE <| wp_skip ?_
  refine rg hE hS [pu, pu, st 101] kp0 (fun _ => kP [(101, some (.blk (p4 3).g 38 #[.int .i64 0, .int .u32 0, .int .u32 0, .int .u64 0, .int .u32 0, .int .u32 0, .int .u32 0, .slice none 0 0, .slice none 0 0, .slice none 0 0, .slice none 0 0, .string ByteArray.empty, .int .u8 0, sv b o z.length c, .slice none 0 0, .slice none 0 0, .slice none 0 0, .int .u32 0, .slice none 0 0, .int .u32 0, .int .u16 0, .int .u16 0, .int .u32 0, .int .u8 0, .slice none 0 0, .slice none 0 0, .bool false, .int .u8 0, .int .u8 0, .int .u16 0]))]) fun _ a u hE hS => ?_
  refine rg hE hS [ld 101, st 102, pu] kp0 (fun _ => kP [(102, some (.blk (p1 0).g 38 #[.int .i64 0, .int .u32 0, .int .u32 0, .int .u64 0, .int .u32 0, .int .u32 0, .int .u32 0, .slice none 0 0, .slice none 0 0, .slice none 0 0, .slice none 0 0, .string ByteArray.empty, .int .u8 0, sv b o z.length c, .slice none 0 0, .slice none 0 0, .slice none 0 0, .int .u32 0, .slice none 0 0, .int .u32 0, .int .u16 0, .int .u16 0, .int .u32 0, .int .u8 0, .slice none 0 0, .slice none 0 0, .bool false, .int .u8 0, .int .u8 0, .int .u16 0]))]) fun _ a u hE hS => ?_
  refine wp_ret (thR ?_)
  exact retct hE hS Tryz.results10 102 (p1 0).g 38 ({ pNul with data := ⟨some ⟨b, o, none⟩, c, z⟩ } : Pkt).cells (.agg ({ pNul with data := ⟨some ⟨b, o, none⟩, c, z⟩ } : Pkt).cells) (.int .i64 0) (.inr ⟨({ pNul with data := ⟨some ⟨b, o, none⟩, c, z⟩ } : Pkt), rfl, ⟨h207, _, _, rfl⟩, ⟨reads_nil, reads_nil, reads_nil, (fun x hx => by cases hx), reads_nil, (by unfold Sl.Lies; rw [u8c_flat]; exact (Reads.below (hr.more hB) hS.below).more hS.size), reads_nil, reads_nil, reads_nil, reads_nil, (fun x hx => by cases hx), reads_nil, (fun x hx => by cases hx), reads_nil⟩, hS.below⟩)
theorem readOne_pad (k : Int) (R : Pkt → Prop) (B b o c : Nat) (z : List Int) (w : World) (hr : Reads w B 1 (some ⟨b, o, none⟩) z.length (u8s z)) (hB : B ≤ w.heap.size) (hc : z.length ≤ c) (hl : z.length ≤ 131072) (n : Nat) (t : Int) (L : Nat) (hd : Hd z true n t L) (hzl : z.length = 4 * (L + 1)) (hk : kindOf (n : Nat) t = k) (hk0 : k ≠ 0) :
  Calls Tryz.prog 10 #[.slice (some ⟨b, o, none⟩) z.length c] w (RoneOut w R) := by
 refine go_in Tryz.func10 rfl Tryz.ntmps10 [sv b o z.length c] fun a hE => ?_
 have hS := stp_in w
 have hS := stp_ry hS 110 hr (fun x hx => ⟨by omega, id⟩) hd.byts
 have hn31 := hd.cnt31
 have h4 := hd.len
 have hL : L ≤ 65535 := by have h1 := hd.ln; have h2 := rd16_lt hd.byts 2; omega
 refine rg hE hS [nw 102, pu] (fun p1 => kp [(2, pt (p1 0).g 0), (3, .int .i64 0)]) (fun p1 => kP [(102, some (.blk (p1 0).g 38 zP))]) fun p1 a u hE hS => ?_
 refine rgp hE hS [pu, cu 7 [110] [] (fun _ => .tuple #[.agg #[.bool true, .int .u8 (n : Nat), .int .u8 t, .int .u16 (L : Nat)], .bool true]) (fun _ => []), pu, pu, pu, nw 103, st 103, pu] (fun p2 => kp [(4, pt (p2 5).g 0), (5, .bool true)]) (fun p2 => kP [(103, some (.blk (p2 5).g 36 #[.bool true, .int .u8 (n : Nat), .int .u8 t, .int .u16 (L : Nat)]))]) (fun _ => ⟨kr (cu_hdr (w0 := w) hd (B := B) 110 (some ⟨b, o, none⟩) z.length c rfl hc), trivial⟩) fun p2 a u hE hS => ?_
 refine wp_seq ?_
 refine rgp hE hS [pu, pu, pu, pu, ld 103, pe (.int .i64 (L : Nat)), pe (.int .i64 ((L + 1 : Nat) : Int)), pe (.int .i64 ((4 * (L + 1) : Nat) : Int)), pu, pu, pe (.bool false), pu] (fun _ => kp [(25, .bool false)]) kP0 (fun _ => ⟨kr (ciV (wiV ((L : Nat) : Int) (by omega))), kr (ciV (show IntKind.i64.wrap (((L : Nat) : Int) + (1 : Int)) = ((L + 1 : Nat) : Int) from by rw [wiV _ (by omega)]; omega)), kr (ciV (show IntKind.i64.wrap ((4 : Int) * ((L + 1 : Nat) : Int)) = ((4 * (L + 1) : Nat) : Int) from by rw [wiV _ (by omega)]; omega)), kr (cbV (show (((4 * (L + 1) : Nat) : Int) != ((z.length : Nat) : Int)) = false by rw [hzl]; simp)), trivial⟩) fun _ a u hE hS => iff hE <| wp_skip ?_
 refine rgp hE hS [ld 103, cu 36 [] [] (fun _ => .int .i64 k) (fun _ => []), pu, nw 101, st 101] (fun p4 => kp [(6, pt (p4 3).g 0)]) (fun p4 => kP [(101, some (.blk (p4 3).g 38 (pFb k 0 0).cells))]) (fun _ => ⟨kr (cu_kind (w0 := w) true n t L k hk), trivial⟩) fun p4 a u hE hS => ?_
 refine wp_seq ?_
 refine rgp hE hS [pu, ld 101, pe (.bool false)] (fun _ => kp [(32, .bool false)]) kP0 (fun _ => ⟨kr (cbV (nbV (show (k : Int) ≠ 0 by exact hk0))), trivial⟩) fun _ a u hE hS => iff hE <| wp_skip ?_
 refine wp_seq ?_
 refine rg hE hS [pu, ld 103] (fun _ => kp [(41, .bool true)]) kP0 fun _ a u hE hS => ift hE ?_
 refine rg hE hS [pu, st 102, pu] (fun _ => kp [(3, .int .i64 2)]) kP0 fun _ a u hE hS => ?_
 refine wp_ret (thR ?_)
 exact retct hE hS Tryz.results10 102 (p1 0).g 38 pNul.cells (.agg pNul.cells) (.int .i64 2) (.inl ⟨_, _, rfl, by decide, rfl, hS.below⟩)
theorem readOne_len (R : Pkt → Prop) (B b o c : Nat) (z : List Int) (w : World) (hr : Reads w B 1 (some ⟨b, o, none⟩) z.length (u8s z)) (hB : B ≤ w.heap.size) (hc : z.length ≤ c) (hl : z.length ≤ 131072) (pad : Bool) (n : Nat) (t : Int) (L : Nat) (hd : Hd z pad n t L) (hzl : z.length ≠ 4 * (L + 1)) :
  Calls Tryz.prog 10 #[.slice (some ⟨b, o, none⟩) z.length c] w (RoneOut w R) := by
 refine go_in Tryz.func10 rfl Tryz.ntmps10 [sv b o z.length c] fun a hE => ?_
 have hS := stp_in w
 have hS := stp_ry hS 110 hr (fun x hx => ⟨by omega, id⟩) hd.byts
 have hn31 := hd.cnt31
 have h4 := hd.len
 have hL : L ≤ 65535 := by have h1 := hd.ln; have h2 := rd16_lt hd.byts 2; omega
 refine rg hE hS [nw 102, pu] (fun p1 => kp [(2, pt (p1 0).g 0), (3, .int .i64 0)]) (fun p1 => kP [(102, some (.blk (p1 0).g 38 zP))]) fun p1 a u hE hS => ?_
 refine rgp hE hS [pu, cu 7 [110] [] (fun _ => .tuple #[.agg #[.bool pad, .int .u8 (n : Nat), .int .u8 t, .int .u16 (L : Nat)], .bool true]) (fun _ => []), pu, pu, pu, nw 103, st 103, pu] (fun p2 => kp [(4, pt (p2 5).g 0), (5, .bool true)]) (fun p2 => kP [(103, some (.blk (p2 5).g 36 #[.bool pad, .int .u8 (n : Nat), .int .u8 t, .int .u16 (L : Nat)]))]) (fun _ => ⟨kr (cu_hdr (w0 := w) hd (B := B) 110 (some ⟨b, o, none⟩) z.length c rfl hc), trivial⟩) fun p2 a u hE hS => ?_
 refine wp_seq ?_
 refine rgp hE hS [pu, pu, pu, pu, ld 103, pe (.int .i64 (L : Nat)), pe (.int .i64 ((L + 1 : Nat) : Int)), pe (.int .i64 ((4 * (L + 1) : Nat) : Int)), pu, pu, pe (.bool true), pu] (fun _ => kp [(25, .bool true)]) kP0 (fun _ => ⟨kr (ciV (wiV ((L : Nat) : Int) (by omega))), kr (ciV (show IntKind.i64.wrap (((L : Nat) : Int) + (1 : Int)) = ((L + 1 : Nat) : Int) from by rw [wiV _ (by omega)]; omega)), kr (ciV (show IntKind.i64.wrap ((4 : Int) * ((L + 1 : Nat) : Int)) = ((4 * (L + 1) : Nat) : Int) from by rw [wiV _ (by omega)]; omega)), kr (cbV (bne_iff_ne.2 (show ((4 * (L + 1) : Nat) : Int) ≠ ((z.length : Nat) : Int) by omega))), trivial⟩) fun _ a u hE hS => ift hE ?_
 refine rg hE hS [pu, st 102, pu] (fun _ => kp [(3, .int .i64 1)]) kP0 fun _ a u hE hS => ?_
 refine wp_ret (thR ?_)
 exact retct hE hS Tryz.results10 102 (p1 0).g 38 pNul.cells (.agg pNul.cells) (.int .i64 1) (.inl ⟨_, _, rfl, by decide, rfl, hS.below⟩)
theorem cu_hdr0 {w0 : World} {args : Array Value} (h : ∀ w, Below w0.heap.size w0 w → Calls Tryz.prog 7 args w fun e w' => e = .returned (.tuple #[.agg hdr0, .bool false]) ∧ Below w.heap.size w w')
  (L' : PL) (w : World) (hps : [] = ([] ++ []).map (lookP L')) (hS : Stp (fun _ => False) w0 w (restr ([] ++ []) (lookM (den (fun _ => False) w0 L')))) :
  Calls Tryz.prog 7 args w fun e w' => ∃ x : Pay, e = .returned (.tuple #[.agg hdr0, .bool false]) ∧ Stp (blksOf (lookM (den (fun _ => False) w0 L')) []) w w' (lookM (den (fun _ => False) w0 (zipW [] []))) :=
 (h w hS.below).mono fun e w' ⟨he, hB⟩ => ⟨pay0, he, stp_of_below hB⟩
theorem readOne_hdr (R : Pkt → Prop) (A : Option Addr) (c : Nat) (z : List Int) (w : World) (hh : ∀ w', Below w.heap.size w w' → Calls Tryz.prog 7 #[.slice A z.length c] w' fun e w'' => e = .returned (.tuple #[.agg hdr0, .bool false]) ∧ Below w'.heap.size w' w'') :
  Calls Tryz.prog 10 #[.slice A z.length c] w (RoneOut w R) := by
 refine go_in Tryz.func10 rfl Tryz.ntmps10 [.slice A z.length c] fun a hE => ?_
 have hS := stp_in w
 refine rg hE hS [nw 102, pu] (fun p1 => kp [(2, pt (p1 0).g 0), (3, .int .i64 0)]) (fun p1 => kP [(102, some (.blk (p1 0).g 38 zP))]) fun p1 a u hE hS => ?_
 refine rgp hE hS [pu, cu 7 [] [] (fun _ => .tuple #[.agg hdr0, .bool false]) (fun _ => []), pu, pu, pu, nw 103, st 103, pu] (fun p2 => kp [(4, pt (p2 5).g 0), (5, .bool false)]) (fun p2 => kP [(103, some (.blk (p2 5).g 36 hdr0))]) (fun _ => ⟨kr (cu_hdr0 (w0 := w) hh), trivial⟩) fun p2 a u hE hS => ?_
 refine wp_seq ?_
 refine rg hE hS [pu, pu, pu, sk, sk, sk, sk, sk, sk, sk, sk, pu] (fun _ => kp [(25, .bool true)]) kP0 fun _ a u hE hS => ift hE ?_
 refine rg hE hS [pu, st 102, pu] (fun _ => kp [(3, .int .i64 1)]) kP0 fun _ a u hE hS => ?_
 refine wp_ret (thR ?_)
 exact retct hE hS Tryz.results10 102 (p1 0).g 38 pNul.cells (.agg pNul.cells) (.int .i64 1) (.inl ⟨_, _, rfl, by decide, rfl, hS.below⟩)
end Go.Proofs.YtmmfpgoodfgkbaaGreatDoor
