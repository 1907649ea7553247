/-
  THE WALKS of the reference's reading of feedback messages. Condition: the bytes lie in memory, ahead of the packet's variable.
-/
import Derived.Test.YtmmfpgoodfgkbaaGreatDoorMRead
import Derived.Test.YtmmfpgoodfgkbaaGreatDoorMRk
namespace Go.Proofs.YtmmfpgoodfgkbaaGreatDoor
open Go Go.RowKit
set_option maxHeartbeats 4000000
set_option maxRecDepth 100000
set_option linter.unusedVariables false
set_option linter.unusedSimpArgs false

structure Pkt.NewR (q : Pkt) (w : World) (B C : Nat) : Prop where
 new : q.NewIn w B C
 src : InRows w B C 1 q.sources.A q.sources.l.length (q.sources.l.flatMap u32c)
 lists : ∀ x ∈ q.stats.l, InRows w B C 1 x.list.A x.list.l.length (x.list.l.flatMap u16c)
 ext : q.ext.l = []
 data : q.data.l = []
theorem Pkt.NewIn.wide {q : Pkt} {w : World} {B C B' D : Nat} (h : q.NewIn w B C) (hl : ∀ g, B ≤ g ∧ g < C → B' ≤ g ∧ g < D) : q.NewIn w B' D :=
 ⟨h.reports.wide hl, h.chunks.wide hl, fun x hx => (h.items x hx).wide hl, h.pairs.wide hl, h.slices.wide hl, h.entries.wide hl, h.blocks.wide hl, fun x hx => (h.mets x hx).wide hl, h.stats.wide hl, h.deltas.wide hl⟩
theorem Pkt.NewR.wide {q : Pkt} {w : World} {B C B' D : Nat} (h : q.NewR w B C) (hl : ∀ g, B ≤ g ∧ g < C → B' ≤ g ∧ g < D) : q.NewR w B' D :=
 ⟨h.new.wide hl, h.src.wide hl, fun x hx => (h.lists x hx).wide hl, h.ext, h.data⟩
theorem Pkt.NewR.st {q : Pkt} {w w' : World} {B C : Nat} (h : q.NewR w B C) (hk : ∀ g, B ≤ g ∧ g < C → w'.heap[g]? = w.heap[g]?) : q.NewR w' B C :=
 ⟨h.new.st hk, h.src.st hk, fun x hx => (h.lists x hx).st hk, h.ext, h.data⟩
theorem reads_nil {w : World} {B size : Nat} {A : Option Addr} : Reads w B size A 0 [] := ⟨by simp, fun h => absurd h (Nat.lt_irrefl _)⟩
theorem Pkt.NewR.lies {q : Pkt} {w : World} {B C : Nat} (h : q.NewR w B C) : q.Lies w C :=
 ⟨h.new.reports.reads, by unfold Sl.Lies; rw [h.ext]; exact reads_nil, h.new.chunks.reads, fun x hx => (h.new.items x hx).reads, h.src.reads, by unfold Sl.Lies; rw [h.data]; exact reads_nil, h.new.pairs.reads, h.new.slices.reads, h.new.entries.reads, h.new.blocks.reads, fun x hx => (h.new.mets x hx).reads, h.new.stats.reads, fun x hx => (h.lists x hx).reads, h.new.deltas.reads⟩
def RdOut (g : Nat) (w : World) (R : Pkt → Prop) (e : Ending) (w' : World) : Prop :=
 ∃ ok : Bool, e = .returned (.bool ok) ∧ w.grownBy w' (some g) ∧ (ok = true → ∃ q : Pkt, Blk w' g 38 q.cells ∧ q.NewR w' w.heap.size w'.heap.size ∧ R q)
theorem InRows.nil {w : World} {B C size : Nat} {A : Option Addr} : InRows w B C size A 0 [] := ⟨by simp, fun h => absurd h (Nat.lt_irrefl _)⟩
theorem and8191 (x : Int) (h0 : 0 ≤ x) (h1 : x < 4294967296) : bits .and .u32 x 8191 = x % 8192 := by
 have h31 : (BitVec.ofInt 32 8191).toNat = 2 ^ 13 - 1 := by decide
 have key : (BitVec.ofInt 32 x &&& BitVec.ofInt 32 8191).toNat = (x % ((2 ^ 32 : Nat) : Int)).toNat % 2 ^ 13 := by
  rw [BitVec.toNat_and, BitVec.toNat_ofInt, h31, Nat.and_two_pow_sub_one_eq_mod]
 show IntKind.u32.wrap ((BitVec.ofInt 32 x &&& BitVec.ofInt 32 8191).toNat : Nat) = _
 rw [key, IntKind.wrap_u32]
 omega
theorem and63 (x : Int) (h0 : 0 ≤ x) (h1 : x < 4294967296) : bits .and .u32 x 63 = x % 64 := by
 have h31 : (BitVec.ofInt 32 63).toNat = 2 ^ 6 - 1 := by decide
 have key : (BitVec.ofInt 32 x &&& BitVec.ofInt 32 63).toNat = (x % ((2 ^ 32 : Nat) : Int)).toNat % 2 ^ 6 := by
  rw [BitVec.toNat_and, BitVec.toNat_ofInt, h31, Nat.and_two_pow_sub_one_eq_mod]
 show IntKind.u32.wrap ((BitVec.ofInt 32 x &&& BitVec.ofInt 32 63).toNat : Nat) = _
 rw [key, IntKind.wrap_u32]
 omega
theorem shrv (k : IntKind) (x d : Int) (hd : 0 ≤ d) : Value.int k (x.fdiv d) = .int k (x / d) := by rw [Int.fdiv_eq_ediv_of_nonneg _ hd]
theorem c16 (x : Int) (h0 : 0 ≤ x) (h1 : x < 65536) : Value.int .u16 (x % 65536) = .int .u16 x := by rw [Int.emod_eq_of_lt h0 h1]
theorem c8 (x : Int) (h0 : 0 ≤ x) (h1 : x < 256) : Value.int .u8 (x % 256) = .int .u8 x := by rw [Int.emod_eq_of_lt h0 h1]
def sNil {α : Type} : Sl α := ⟨none, 0, []⟩
def pNul : Pkt := ⟨0, 0, 0, 0, 0, 0, 0, sNil, sNil, sNil, sNil, ByteArray.empty, 0, sNil, sNil, sNil, sNil, 0, sNil, 0, 0, 0, 0, 0, sNil, sNil, false, 0, 0, 0⟩
def pFb (k s m : Int) : Pkt := { pNul with kind := k, sender := s, media := m }
def parts4 {α : Type} (f : List Int → α) (j n : Nat) (b : List Int) : List α := (List.range n).map fun i => f (b.drop (j * i))
theorem parts4_succ {α : Type} (f : List Int → α) (j n : Nat) (b : List Int) : parts4 f j (n + 1) b = parts4 f j n b ++ [f (b.drop (j * n))] := by simp [parts4, List.range_succ]
theorem parts4_len {α : Type} (f : List Int → α) (j n : Nat) (b : List Int) : (parts4 f j n b).length = n := by simp [parts4]
def pairB (b : List Int) : Pair := ⟨rd16 b 0, rd16 (b.drop 2) 0⟩
def slcB (b : List Int) : Slc := ⟨rd32 b 0 / 524288, rd32 b 0 / 64 % 8192, rd32 b 0 % 64⟩
def entB (b : List Int) : Ent := ⟨rd32 b 0, gi b 4⟩
theorem fb_7 (g B b o c : Nat) (y : List Int) (h1 h2 h3 h4 : Value) (w : World) (s m : Int) (hb : Blk w g 38 (pFb 7 s m).cells) (hr : Reads w B 1 (some ⟨b, o, none⟩) y.length (u8s y)) (hB : B ≤ g) (hz : Byts y) (h8 : 8 ≤ y.length) (hc : y.length ≤ c) (hl : y.length ≤ 1048576) :
  Calls Tryz.prog 42 #[.pointer (some ⟨g, 0, none⟩), .slice (some ⟨b, o, none⟩) y.length c, .agg #[h1, h2, h3, h4]] w (RdOut g w (fun q => q = pFb 7 s m ∧ y.length = 8)) := by
 by_cases hq : y.length = 8
 ·skip
  refine go_in Tryz.func42 rfl Tryz.ntmps42 [pt g 0, sv b o y.length c, .agg #[h1, h2, h3, h4]] fun a hE => ?_
  have hS := stp_blk1 101 hb
  have hS := stp_ry hS 110 hr (fun x hx => ⟨by have := hb.lt; omega, by omega⟩) hz
  refine rg hE hS [nw 151, pu] (fun p1 => kp [(5, pt (p1 0).g 0), (6, .bool false)]) (fun p1 => kP [(151, some (.blk (p1 0).g 36 #[h1, h2, h3, h4]))]) fun p1 a u hE hS => ?_
  refine rgp hE hS [pu, rsl 110 111, pu] (fun p2 => kp [(7, sv (p2 1).g (p2 1).c (y.drop 8).length (c - 8))]) (fun p2 => kP [(111, some (.ry (fun x => x < B) ((some ⟨(p2 1).g, (p2 1).c, none⟩)) (y.drop 8)))]) (fun _ => ⟨kr (show 8 ≤ y.length ∧ y.length ≤ y.length ∧ y.length ≤ c by omega), trivial⟩) fun p2 a u hE hS => ?_
  have hl8 : (y.drop 8).length = y.length - 8 := List.length_drop
  refine wp_seq ?_
  refine rg hE hS [pu, pu, pu, ld 101] (fun _ => kp [(14, .int .i64 7)]) kP0 fun _ a u hE hS => wp_block ?_
  refine wp_seq ?_
  refine rgp hE hS [pe (.bool true), pu] (fun _ => kp [(15, .bool true)]) kP0 (fun _ => ⟨kr (cbV (ebV (show (7 : Int) = 7 by decide))), trivial⟩) fun _ a u hE hS => ift hE <| wp_skip <| ift hE ?_
  refine rgp hE hS [pu, pu, pe (.bool true), pu] (fun _ => kp [(6, .bool true)]) kP0 (fun _ => ⟨kr (cbV (ebV (show ((((y.drop 8).length : Nat) : Int) : Int) = 0 by omega))), trivial⟩) fun _ a u hE hS => ?_
  refine wp_ret (bkR (thR ?_))
  exact ret1 hE Tryz.results42 (.bool true) ⟨_, rfl, hS.grownBy (some g) (fun _ e => by rw [e]), fun _ => ⟨pFb 7 s m, pcB hS 101, ⟨⟨.nil, .nil, (fun x hx => by cases hx), .nil, .nil, .nil, .nil, (fun x hx => by cases hx), .nil, .nil⟩, .nil, (fun x hx => by cases hx), rfl, rfl⟩, rfl, hq⟩⟩
 ·skip
  refine go_in Tryz.func42 rfl Tryz.ntmps42 [pt g 0, sv b o y.length c, .agg #[h1, h2, h3, h4]] fun a hE => ?_
  have hS := stp_blk1 101 hb
  have hS := stp_ry hS 110 hr (fun x hx => ⟨by have := hb.lt; omega, by omega⟩) hz
  refine rg hE hS [nw 151, pu] (fun p1 => kp [(5, pt (p1 0).g 0), (6, .bool false)]) (fun p1 => kP [(151, some (.blk (p1 0).g 36 #[h1, h2, h3, h4]))]) fun p1 a u hE hS => ?_
  refine rgp hE hS [pu, rsl 110 111, pu] (fun p2 => kp [(7, sv (p2 1).g (p2 1).c (y.drop 8).length (c - 8))]) (fun p2 => kP [(111, some (.ry (fun x => x < B) ((some ⟨(p2 1).g, (p2 1).c, none⟩)) (y.drop 8)))]) (fun _ => ⟨kr (show 8 ≤ y.length ∧ y.length ≤ y.length ∧ y.length ≤ c by omega), trivial⟩) fun p2 a u hE hS => ?_
  have hl8 : (y.drop 8).length = y.length - 8 := List.length_drop
  refine wp_seq ?_
  refine rg hE hS [pu, pu, pu, ld 101] (fun _ => kp [(14, .int .i64 7)]) kP0 fun _ a u hE hS => wp_block ?_
  refine wp_seq ?_
  refine rgp hE hS [pe (.bool true), pu] (fun _ => kp [(15, .bool true)]) kP0 (fun _ => ⟨kr (cbV (ebV (show (7 : Int) = 7 by decide))), trivial⟩) fun _ a u hE hS => ift hE <| wp_skip <| ift hE ?_
  refine rgp hE hS [pu, pu, pe (.bool false), pu] kp0 kP0 (fun _ => ⟨kr (cbV (nbV (show ((((y.drop 8).length : Nat) : Int) : Int) ≠ 0 by omega))), trivial⟩) fun _ a u hE hS => ?_
  refine wp_ret (bkR (thR ?_))
  exact ret1 hE Tryz.results42 (.bool false) ⟨_, rfl, hS.grownBy (some g) (fun _ e => by rw [e]), (fun h => by cases h)⟩

theorem fb_9 (g B b o c : Nat) (y : List Int) (h1 h2 h3 h4 : Value) (w : World) (s m : Int) (hb : Blk w g 38 (pFb 9 s m).cells) (hr : Reads w B 1 (some ⟨b, o, none⟩) y.length (u8s y)) (hB : B ≤ g) (hz : Byts y) (h8 : 8 ≤ y.length) (hc : y.length ≤ c) (hl : y.length ≤ 1048576) :
  Calls Tryz.prog 42 #[.pointer (some ⟨g, 0, none⟩), .slice (some ⟨b, o, none⟩) y.length c, .agg #[h1, h2, h3, h4]] w (RdOut g w (fun q => q = pFb 9 s m ∧ y.length = 8)) := by
 by_cases hq : y.length = 8
 ·skip
  refine go_in Tryz.func42 rfl Tryz.ntmps42 [pt g 0, sv b o y.length c, .agg #[h1, h2, h3, h4]] fun a hE => ?_
  have hS := stp_blk1 101 hb
  have hS := stp_ry hS 110 hr (fun x hx => ⟨by have := hb.lt; omega, by omega⟩) hz
  refine rg hE hS [nw 151, pu] (fun p1 => kp [(5, pt (p1 0).g 0), (6, .bool false)]) (fun p1 => kP [(151, some (.blk (p1 0).g 36 #[h1, h2, h3, h4]))]) fun p1 a u hE hS => ?_
  refine rgp hE hS [pu, rsl 110 111, pu] (fun p2 => kp [(7, sv (p2 1).g (p2 1).c (y.drop 8).length (c - 8))]) (fun p2 => kP [(111, some (.ry (fun x => x < B) ((some ⟨(p2 1).g, (p2 1).c, none⟩)) (y.drop 8)))]) (fun _ => ⟨kr (show 8 ≤ y.length ∧ y.length ≤ y.length ∧ y.length ≤ c by omega), trivial⟩) fun p2 a u hE hS => ?_
  have hl8 : (y.drop 8).length = y.length - 8 := List.length_drop
  refine wp_seq ?_
  refine rg hE hS [pu, pu, pu, ld 101] (fun _ => kp [(14, .int .i64 9)]) kP0 fun _ a u hE hS => wp_block ?_
  refine wp_seq ?_
  refine rgp hE hS [pe (.bool false), pu] (fun _ => kp [(15, .bool false)]) kP0 (fun _ => ⟨kr (cbV (nbV (show (9 : Int) ≠ 7 by decide))), trivial⟩) fun _ a u hE hS => iff hE ?_
  refine rgE hE hS [pe (.bool true), pu] (fun _ => kp [(15, .bool true)]) kP0 (fun _ => ⟨kr (cbV (ebV (show (9 : Int) = 9 by decide))), trivial⟩) fun _ a u hE hS => ift hE ?_
  refine rgp hE hS [pu, pu, pe (.bool true), pu] (fun _ => kp [(6, .bool true)]) kP0 (fun _ => ⟨kr (cbV (ebV (show ((((y.drop 8).length : Nat) : Int) : Int) = 0 by omega))), trivial⟩) fun _ a u hE hS => ?_
  refine wp_ret (bkR (thR ?_))
  exact ret1 hE Tryz.results42 (.bool true) ⟨_, rfl, hS.grownBy (some g) (fun _ e => by rw [e]), fun _ => ⟨pFb 9 s m, pcB hS 101, ⟨⟨.nil, .nil, (fun x hx => by cases hx), .nil, .nil, .nil, .nil, (fun x hx => by cases hx), .nil, .nil⟩, .nil, (fun x hx => by cases hx), rfl, rfl⟩, rfl, hq⟩⟩
 ·skip
  refine go_in Tryz.func42 rfl Tryz.ntmps42 [pt g 0, sv b o y.length c, .agg #[h1, h2, h3, h4]] fun a hE => ?_
  have hS := stp_blk1 101 hb
  have hS := stp_ry hS 110 hr (fun x hx => ⟨by have := hb.lt; omega, by omega⟩) hz
  refine rg hE hS [nw 151, pu] (fun p1 => kp [(5, pt (p1 0).g 0), (6, .bool false)]) (fun p1 => kP [(151, some (.blk (p1 0).g 36 #[h1, h2, h3, h4]))]) fun p1 a u hE hS => ?_
  refine rgp hE hS [pu, rsl 110 111, pu] (fun p2 => kp [(7, sv (p2 1).g (p2 1).c (y.drop 8).length (c - 8))]) (fun p2 => kP [(111, some (.ry (fun x => x < B) ((some ⟨(p2 1).g, (p2 1).c, none⟩)) (y.drop 8)))]) (fun _ => ⟨kr (show 8 ≤ y.length ∧ y.length ≤ y.length ∧ y.length ≤ c by omega), trivial⟩) fun p2 a u hE hS => ?_
  have hl8 : (y.drop 8).length = y.length - 8 := List.length_drop
  refine wp_seq ?_
  refine rg hE hS [pu, pu, pu, ld 101] (fun _ => kp [(14, .int .i64 9)]) kP0 fun _ a u hE hS => wp_block ?_
  refine wp_seq ?_
  refine rgp hE hS [pe (.bool false), pu] (fun _ => kp [(15, .bool false)]) kP0 (fun _ => ⟨kr (cbV (nbV (show (9 : Int) ≠ 7 by decide))), trivial⟩) fun _ a u hE hS => iff hE ?_
  refine rgE hE hS [pe (.bool true), pu] (fun _ => kp [(15, .bool true)]) kP0 (fun _ => ⟨kr (cbV (ebV (show (9 : Int) = 9 by decide))), trivial⟩) fun _ a u hE hS => ift hE ?_
  refine rgp hE hS [pu, pu, pe (.bool false), pu] kp0 kP0 (fun _ => ⟨kr (cbV (nbV (show ((((y.drop 8).length : Nat) : Int) : Int) ≠ 0 by omega))), trivial⟩) fun _ a u hE hS => ?_
  refine wp_ret (bkR (thR ?_))
  exact ret1 hE Tryz.results42 (.bool false) ⟨_, rfl, hS.grownBy (some g) (fun _ e => by rw [e]), (fun h => by cases h)⟩

def cs6 (s m : Int) (v : Value) : Array Value := #[.int .i64 6, .int .u32 s, .int .u32 m, .int .u64 0, .int .u32 0, .int .u32 0, .int .u32 0, .slice none 0 0, .slice none 0 0, .slice none 0 0, .slice none 0 0, .string ByteArray.empty, .int .u8 0, .slice none 0 0, v, .slice none 0 0, .slice none 0 0, .int .u32 0, .slice none 0 0, .int .u32 0, .int .u16 0, .int .u16 0, .int .u32 0, .int .u8 0, .slice none 0 0, .slice none 0 0, .bool false, .int .u8 0, .int .u8 0, .int .u16 0]
theorem fb_6 (g B b o c : Nat) (y : List Int) (h1 h2 h3 h4 : Value) (w : World) (s m : Int) (hb : Blk w g 38 (cs6 s m (.slice none 0 0))) (hr : Reads w B 1 (some ⟨b, o, none⟩) y.length (u8s y)) (hB : B ≤ g) (hz : Byts y) (h8 : 8 ≤ y.length) (hc : y.length ≤ c) (hl : y.length ≤ 1048576) :
  Calls Tryz.prog 42 #[.pointer (some ⟨g, 0, none⟩), .slice (some ⟨b, o, none⟩) y.length c, .agg #[h1, h2, h3, h4]] w (RdOut g w (fun q => (∃ A c, q = { pFb 6 s m with pairs := ⟨A, c, parts4 pairB 4 ((y.length - 8) / 4) (y.drop 8)⟩ }) ∧ 0 < (y.length - 8) / 4)) := by
 rw [← List.length_drop]
 refine go_in Tryz.func42 rfl Tryz.ntmps42 [pt g 0, sv b o y.length c, .agg #[h1, h2, h3, h4]] fun a hE => ?_
 have hS := stp_blk1 101 hb
 have hS := stp_ry hS 110 hr (fun x hx => ⟨by have := hb.lt; omega, by omega⟩) hz
 refine rg hE hS [nw 151, pu] (fun p1 => kp [(5, pt (p1 0).g 0), (6, .bool false)]) (fun p1 => kP [(151, some (.blk (p1 0).g 36 #[h1, h2, h3, h4]))]) fun p1 a u hE hS => ?_
 refine rgp hE hS [pu, rsl 110 111, pu] (fun p2 => kp [(7, sv (p2 1).g (p2 1).c (y.drop 8).length (c - 8))]) (fun p2 => kP [(111, some (.ry (fun x => x < B) ((some ⟨(p2 1).g, (p2 1).c, none⟩)) (y.drop 8)))]) (fun _ => ⟨kr (show 8 ≤ y.length ∧ y.length ≤ y.length ∧ y.length ≤ c by omega), trivial⟩) fun p2 a u hE hS => ?_
 have hl8 : (y.drop 8).length = y.length - 8 := List.length_drop
 have hz8 : Byts (y.drop 8) := hz.drop 8
 generalize hbb : y.drop 8 = bb at hS hE hl8 hz8
 refine wp_seq ?_
 refine rg hE hS [pu, pu, pu, ld 101] (fun _ => kp [(14, .int .i64 6)]) kP0 fun _ a u hE hS => wp_block ?_
 refine wp_seq ?_
 refine rgp hE hS [pe (.bool false), pu] (fun _ => kp [(15, .bool false)]) kP0 (fun _ => ⟨kr (cbV (nbV (show (6 : Int) ≠ 7 by decide))), trivial⟩) fun _ a u hE hS => iff hE ?_
 refine rgE hE hS [pe (.bool false), pu] kp0 kP0 (fun _ => ⟨kr (cbV (nbV (show (6 : Int) ≠ 9 by decide))), trivial⟩) fun _ a u hE hS => iff hE ?_
 refine rgp hE hS [pe (.bool true), pu] (fun _ => kn [(21, .bool true)] [0, 1, 5, 6, 7, 14]) (fun _ => kN [] [111, 110, 101, 151]) (fun _ => ⟨kr (cbV (ebV (show (6 : Int) = 6 by decide))), trivial⟩) fun _ a u hE hS => ift hE ?_
 refine wp_seq ?_
 have hS := stp_row0 hS 1 w.heap.size 110 2
 refine wp_block ?_
 refine loop_k hE hS (bb.length / 4) (fun k x => kd [1, 5, 7, 14, 21] [(7, sv x.y.1.g x.y.1.c x.y.2.1.length x.y.2.2)]) (fun k x => kN [(101, some (.blk g 38 ((cs6 s m (.slice x.p.a x.n x.p.c))))), (1, some (.row w.heap.size 110 2 (.slice x.p.a x.n x.p.c) x.n x.xs)), (111, some (.ry (fun x => x < B) (some ⟨x.y.1.g, x.y.1.c, none⟩) x.y.2.1))] []) (fun k (x : Lx (Pay × List Int × Nat)) => x.n = k ∧ x.xs = (parts4 pairB 4 k bb).flatMap Pair.cells ∧ x.y.2.1 = bb.drop (4 * k) ∧ x.y.2.1.length ≤ x.y.2.2) ⟨pay0, 0, [], (p2 1), bb, (c - 8)⟩ (⟨rfl, by simp [parts4], by simp, by show bb.length ≤ (c - 8); omega⟩) ?_
 intro k x a u hkk hI hE hS K hK
 obtain ⟨hk1, hk2, hk3, hk4⟩ := hI
 obtain ⟨xp, xn, xs, y1, z1, c1⟩ := x
 simp only at hk1 hk2 hk3 hk4
 by_cases hlt : k < bb.length / 4
 ·skip
  have hzl : z1.length = bb.length - 4 * k := by rw [hk3]; exact List.length_drop
  have hz1 : Byts z1 := by rw [hk3]; exact hz8.drop _
  refine wp_seq ?_
  refine rgp hE hS [pu, pu, pe (.bool true)] (fun _ => kp [(25, .bool true)]) kP0 (fun _ => ⟨kr (cbV (dtV (show ((z1.length : Nat) : Int) ≥ 4 by omega))), trivial⟩) fun _ a u hE hS => ift hE <| wp_skip ?_
  refine wp_seq ?_
  refine wp_block ?_
  refine dgE hE hS [pu, pu, pu, pu, ld 101, pu, cl cU16 [111] [], pu, rsl 111 112, cl cU16 [112] [], pu, nw 92, ap 1 [92], pu, pu, st 101] kp0 (fun p8 => kP [(101, some (.blk g 38 ((cs6 s m (.slice (p8 12).a (xn + 1) (p8 12).c))))), (1, some (.row w.heap.size 110 2 (.slice (p8 12).a (xn + 1) (p8 12).c) (xn + 1) (xs ++ (pairB z1).cells)))]) (fun _ => ⟨kr (show 2 ≤ z1.length ∧ z1.length ≤ c1 ∧ 0 < z1.length by omega), kr (show 2 ≤ z1.length ∧ z1.length ≤ z1.length ∧ z1.length ≤ c1 by omega), kr (show 2 ≤ (z1.drop 2).length ∧ (z1.drop 2).length ≤ (c1 - 2) ∧ 0 < (z1.drop 2).length by simp only [List.length_drop]; omega), kr (show w.heap.size ≤ w.heap.size ∧ (xn + 1) * 4 ≤ 140737488355328 ∧ ∀ u ∈ (pairB z1).cells, u.oneCell' = true from ⟨Nat.le_refl _, by omega, by intro u hu; simp [Pair.cells] at hu; rcases hu with rfl | rfl <;> rfl⟩), trivial⟩) fun p8 a u hE hS => ?_
  refine rgE hE hS [pu, rsl 111 111, pu] (fun p9 => kp [(7, sv (p9 1).g (p9 1).c (z1.drop 4).length (c1 - 4))]) (fun p9 => kP [(111, some (.ry (fun x => x < B) ((some ⟨(p9 1).g, (p9 1).c, none⟩)) (z1.drop 4)))]) (fun _ => ⟨kr (show 4 ≤ z1.length ∧ z1.length ≤ z1.length ∧ z1.length ≤ c1 by omega), trivial⟩) fun p9 a u hE hS => ?_
  exact hK ⟨(p8 12), xn + 1, xs ++ (pairB z1).cells, (p9 1), z1.drop 4, c1 - 4⟩ a u _ _ hlt ⟨congrArg (· + 1) hk1, by show xs ++ _ = _; rw [hk2, parts4_succ, List.flatMap_append, hk3]; simp, by show z1.drop 4 = _; rw [hk3, List.drop_drop]; rfl, by show (z1.drop 4).length ≤ c1 - 4; rw [List.length_drop]; omega⟩ hE hS (by kernel_rfl)
 ·obtain rfl : k = bb.length / 4 := by omega
  have hzl : z1.length = bb.length - 4 * (bb.length / 4) := by rw [hk3]; exact List.length_drop
  refine wp_seq ?_
  refine rgp hE hS [pu, pu, pe (.bool false)] (fun _ => kp [(25, .bool false)]) kP0 (fun _ => ⟨kr (cbV (dfV (show ¬ (((z1.length : Nat) : Int) ≥ 4) by omega))), trivial⟩) fun _ a u hE hS => iff hE ?_
  refine wp_exit ?_
  refine rgp hE hS [pu, pu, pu, ld 101, pu, pe (.bool (decide (0 < bb.length / 4))), pu] (fun _ => kp [(6, .bool (decide (0 < bb.length / 4)))]) kP0 (fun _ => ⟨kr (show Value.bool (decide (((xn : Nat) : Int) > 0)) = Value.bool (decide (0 < bb.length / 4)) from cbV (decide_eq_decide.2 (by omega))), trivial⟩) fun _ a u hE hS => ?_
  refine wp_ret (bkR (thR ?_))
  subst hk1
  have hrow := pcR (base := w.heap.size) (e := 110) (size := 2) (v := .slice xp.a (bb.length / 4) xp.c) (n := bb.length / 4) (xs := xs) hS 1
  have hblk := pcB (g := g) (T := 38) (cs := (cs6 s m (.slice xp.a (bb.length / 4) xp.c))) hS 101
  have hrow2 : InRows u w.heap.size u.heap.size 2 xp.a (parts4 pairB 4 (bb.length / 4) bb).length ((parts4 pairB 4 (bb.length / 4) bb).flatMap Pair.cells) := by rw [parts4_len, ← hk2]; exact InRows.of_own hrow
  exact ret1 hE Tryz.results42 (.bool (decide (0 < bb.length / 4))) ⟨_, rfl, hS.grownBy (some g) (fun _ e => by rw [e]), fun hok => ⟨{ pFb 6 s m with pairs := ⟨xp.a, xp.c, parts4 pairB 4 (bb.length / 4) bb⟩ }, (by have e : ({ pFb 6 s m with pairs := ⟨xp.a, xp.c, parts4 pairB 4 (bb.length / 4) bb⟩ } : Pkt).cells = (cs6 s m (.slice xp.a (bb.length / 4) xp.c)) := (by unfold cs6 Pkt.cells Sl.val; simp only [parts4_len]; rfl); rw [e]; exact hblk), ⟨⟨.nil, .nil, (fun x hx => by cases hx), hrow2, .nil, .nil, .nil, (fun x hx => by cases hx), .nil, .nil⟩, .nil, (fun x hx => by cases hx), rfl, rfl⟩, ⟨xp.a, xp.c, rfl⟩, of_decide_eq_true hok⟩⟩

def cs10 (s m : Int) (v : Value) : Array Value := #[.int .i64 10, .int .u32 s, .int .u32 m, .int .u64 0, .int .u32 0, .int .u32 0, .int .u32 0, .slice none 0 0, .slice none 0 0, .slice none 0 0, .slice none 0 0, .string ByteArray.empty, .int .u8 0, .slice none 0 0, .slice none 0 0, v, .slice none 0 0, .int .u32 0, .slice none 0 0, .int .u32 0, .int .u16 0, .int .u16 0, .int .u32 0, .int .u8 0, .slice none 0 0, .slice none 0 0, .bool false, .int .u8 0, .int .u8 0, .int .u16 0]
theorem fb_10 (g B b o c : Nat) (y : List Int) (h1 h2 h3 h4 : Value) (w : World) (s m : Int) (hb : Blk w g 38 (cs10 s m (.slice none 0 0))) (hr : Reads w B 1 (some ⟨b, o, none⟩) y.length (u8s y)) (hB : B ≤ g) (hz : Byts y) (h8 : 8 ≤ y.length) (hc : y.length ≤ c) (hl : y.length ≤ 1048576) :
  Calls Tryz.prog 42 #[.pointer (some ⟨g, 0, none⟩), .slice (some ⟨b, o, none⟩) y.length c, .agg #[h1, h2, h3, h4]] w (RdOut g w (fun q => (∃ A c, q = { pFb 10 s m with slices := ⟨A, c, parts4 slcB 4 ((y.length - 8) / 4) (y.drop 8)⟩ }) ∧ 0 < (y.length - 8) / 4)) := by
 rw [← List.length_drop]
 refine go_in Tryz.func42 rfl Tryz.ntmps42 [pt g 0, sv b o y.length c, .agg #[h1, h2, h3, h4]] fun a hE => ?_
 have hS := stp_blk1 101 hb
 have hS := stp_ry hS 110 hr (fun x hx => ⟨by have := hb.lt; omega, by omega⟩) hz
 refine rg hE hS [nw 151, pu] (fun p1 => kp [(5, pt (p1 0).g 0), (6, .bool false)]) (fun p1 => kP [(151, some (.blk (p1 0).g 36 #[h1, h2, h3, h4]))]) fun p1 a u hE hS => ?_
 refine rgp hE hS [pu, rsl 110 111, pu] (fun p2 => kp [(7, sv (p2 1).g (p2 1).c (y.drop 8).length (c - 8))]) (fun p2 => kP [(111, some (.ry (fun x => x < B) ((some ⟨(p2 1).g, (p2 1).c, none⟩)) (y.drop 8)))]) (fun _ => ⟨kr (show 8 ≤ y.length ∧ y.length ≤ y.length ∧ y.length ≤ c by omega), trivial⟩) fun p2 a u hE hS => ?_
 have hl8 : (y.drop 8).length = y.length - 8 := List.length_drop
 have hz8 : Byts (y.drop 8) := hz.drop 8
 generalize hbb : y.drop 8 = bb at hS hE hl8 hz8
 refine wp_seq ?_
 refine rg hE hS [pu, pu, pu, ld 101] (fun _ => kp [(14, .int .i64 10)]) kP0 fun _ a u hE hS => wp_block ?_
 refine wp_seq ?_
 refine rgp hE hS [pe (.bool false), pu] (fun _ => kp [(15, .bool false)]) kP0 (fun _ => ⟨kr (cbV (nbV (show (10 : Int) ≠ 7 by decide))), trivial⟩) fun _ a u hE hS => iff hE ?_
 refine rgE hE hS [pe (.bool false), pu] kp0 kP0 (fun _ => ⟨kr (cbV (nbV (show (10 : Int) ≠ 9 by decide))), trivial⟩) fun _ a u hE hS => iff hE ?_
 refine rgp hE hS [pe (.bool false), pu] (fun _ => kp [(21, .bool false)]) kP0 (fun _ => ⟨kr (cbV (nbV (show (10 : Int) ≠ 6 by decide))), trivial⟩) fun _ a u hE hS => iff hE ?_
 refine rgp hE hS [pe (.bool true), pu] (fun _ => kn [(49, .bool true)] [0, 1, 5, 6, 7, 14]) (fun _ => kN [] [111, 110, 101, 151]) (fun _ => ⟨kr (cbV (ebV (show (10 : Int) = 10 by decide))), trivial⟩) fun _ a u hE hS => ift hE ?_
 refine wp_seq ?_
 have hS := stp_row0 hS 1 w.heap.size 113 3
 refine wp_block ?_
 refine loop_k hE hS (bb.length / 4) (fun k x => kd [1, 5, 7, 14, 49] [(7, sv x.y.1.g x.y.1.c x.y.2.1.length x.y.2.2)]) (fun k x => kN [(101, some (.blk g 38 ((cs10 s m (.slice x.p.a x.n x.p.c))))), (1, some (.row w.heap.size 113 3 (.slice x.p.a x.n x.p.c) x.n x.xs)), (111, some (.ry (fun x => x < B) (some ⟨x.y.1.g, x.y.1.c, none⟩) x.y.2.1))] []) (fun k (x : Lx (Pay × List Int × Nat)) => x.n = k ∧ x.xs = (parts4 slcB 4 k bb).flatMap Slc.cells ∧ x.y.2.1 = bb.drop (4 * k) ∧ x.y.2.1.length ≤ x.y.2.2) ⟨pay0, 0, [], (p2 1), bb, (c - 8)⟩ (⟨rfl, by simp [parts4], by simp, by show bb.length ≤ (c - 8); omega⟩) ?_
 intro k x a u hkk hI hE hS K hK
 obtain ⟨hk1, hk2, hk3, hk4⟩ := hI
 obtain ⟨xp, xn, xs, y1, z1, c1⟩ := x
 simp only at hk1 hk2 hk3 hk4
 by_cases hlt : k < bb.length / 4
 ·skip
  have hzl : z1.length = bb.length - 4 * k := by rw [hk3]; exact List.length_drop
  have hz1 : Byts z1 := by rw [hk3]; exact hz8.drop _
  have hu := rd32_lt hz1 0
  refine wp_seq ?_
  refine rgp hE hS [pu, pu, pe (.bool true)] (fun _ => kp [(53, .bool true)]) kP0 (fun _ => ⟨kr (cbV (dtV (show ((z1.length : Nat) : Int) ≥ 4 by omega))), trivial⟩) fun _ a u hE hS => ift hE <| wp_skip ?_
  refine wp_seq ?_
  refine wp_block ?_
  refine rgp hE hS [pu, cl cU32 [111] [], pu] (fun _ => kp [(8, .int .u32 (rd32 z1 0))]) kP0 (fun _ => ⟨kr (show 4 ≤ z1.length ∧ z1.length ≤ c1 ∧ 0 < z1.length by omega), trivial⟩) fun _ a u hE hS => ?_
  refine rgE hE hS [pu, pu, pu, pu, ld 101, pu, pe (.int .u32 (rd32 z1 0 / 524288)), pe (.int .u16 (rd32 z1 0 / 524288)), pu, pe (.int .u32 (rd32 z1 0 / 64)), pe (.int .u32 (rd32 z1 0 / 64 % 8192)), pe (.int .u16 (rd32 z1 0 / 64 % 8192)), pu, pe (.int .u32 (rd32 z1 0 % 64)), pe (.int .u8 (rd32 z1 0 % 64)), pu, nw 92, ap 1 [92], pu, pu, st 101] kp0 (fun p10 => kP [(101, some (.blk g 38 ((cs10 s m (.slice (p10 17).a (xn + 1) (p10 17).c))))), (1, some (.row w.heap.size 113 3 (.slice (p10 17).a (xn + 1) (p10 17).c) (xn + 1) (xs ++ (slcB z1).cells)))]) (fun _ => ⟨kr (shrv .u32 (rd32 z1 0) 524288 (by decide)), kr (c16 (rd32 z1 0 / 524288) (by omega) (by omega)), kr (shrv .u32 (rd32 z1 0) 64 (by decide)), kr (congrArg (Value.int .u32) (and8191 (rd32 z1 0 / 64) (by omega) (by omega))), kr (c16 (rd32 z1 0 / 64 % 8192) (by omega) (by omega)), kr (congrArg (Value.int .u32) (and63 (rd32 z1 0) (by omega) (by omega))), kr (c8 (rd32 z1 0 % 64) (by omega) (by omega)), kr (show w.heap.size ≤ w.heap.size ∧ (xn + 1) * 6 ≤ 140737488355328 ∧ ∀ u ∈ (slcB z1).cells, u.oneCell' = true from ⟨Nat.le_refl _, by omega, by intro u hu; simp [Slc.cells] at hu; rcases hu with rfl | rfl | rfl <;> rfl⟩), trivial⟩) fun p10 a u hE hS => ?_
  refine rgE hE hS [pu, rsl 111 111, pu] (fun p11 => kp [(7, sv (p11 1).g (p11 1).c (z1.drop 4).length (c1 - 4))]) (fun p11 => kP [(111, some (.ry (fun x => x < B) ((some ⟨(p11 1).g, (p11 1).c, none⟩)) (z1.drop 4)))]) (fun _ => ⟨kr (show 4 ≤ z1.length ∧ z1.length ≤ z1.length ∧ z1.length ≤ c1 by omega), trivial⟩) fun p11 a u hE hS => ?_
  exact hK ⟨(p10 17), xn + 1, xs ++ (slcB z1).cells, (p11 1), z1.drop 4, c1 - 4⟩ a u _ _ hlt ⟨congrArg (· + 1) hk1, by show xs ++ _ = _; rw [hk2, parts4_succ, List.flatMap_append, hk3]; simp, by show z1.drop 4 = _; rw [hk3, List.drop_drop]; rfl, by show (z1.drop 4).length ≤ c1 - 4; rw [List.length_drop]; omega⟩ hE hS (by kernel_rfl)
 ·obtain rfl : k = bb.length / 4 := by omega
  have hzl : z1.length = bb.length - 4 * (bb.length / 4) := by rw [hk3]; exact List.length_drop
  refine wp_seq ?_
  refine rgp hE hS [pu, pu, pe (.bool false)] (fun _ => kp [(53, .bool false)]) kP0 (fun _ => ⟨kr (cbV (dfV (show ¬ (((z1.length : Nat) : Int) ≥ 4) by omega))), trivial⟩) fun _ a u hE hS => iff hE ?_
  refine wp_exit ?_
  refine rgp hE hS [pu, pu, pu, ld 101, pu, pe (.bool (decide (0 < bb.length / 4))), pu] (fun _ => kp [(6, .bool (decide (0 < bb.length / 4)))]) kP0 (fun _ => ⟨kr (show Value.bool (decide (((xn : Nat) : Int) > 0)) = Value.bool (decide (0 < bb.length / 4)) from cbV (decide_eq_decide.2 (by omega))), trivial⟩) fun _ a u hE hS => ?_
  refine wp_ret (bkR (thR ?_))
  subst hk1
  have hrow := pcR (base := w.heap.size) (e := 113) (size := 3) (v := .slice xp.a (bb.length / 4) xp.c) (n := bb.length / 4) (xs := xs) hS 1
  have hblk := pcB (g := g) (T := 38) (cs := (cs10 s m (.slice xp.a (bb.length / 4) xp.c))) hS 101
  have hrow2 : InRows u w.heap.size u.heap.size 3 xp.a (parts4 slcB 4 (bb.length / 4) bb).length ((parts4 slcB 4 (bb.length / 4) bb).flatMap Slc.cells) := by rw [parts4_len, ← hk2]; exact InRows.of_own hrow
  exact ret1 hE Tryz.results42 (.bool (decide (0 < bb.length / 4))) ⟨_, rfl, hS.grownBy (some g) (fun _ e => by rw [e]), fun hok => ⟨{ pFb 10 s m with slices := ⟨xp.a, xp.c, parts4 slcB 4 (bb.length / 4) bb⟩ }, (by have e : ({ pFb 10 s m with slices := ⟨xp.a, xp.c, parts4 slcB 4 (bb.length / 4) bb⟩ } : Pkt).cells = (cs10 s m (.slice xp.a (bb.length / 4) xp.c)) := (by unfold cs10 Pkt.cells Sl.val; simp only [parts4_len]; rfl); rw [e]; exact hblk), ⟨⟨.nil, .nil, (fun x hx => by cases hx), .nil, hrow2, .nil, .nil, (fun x hx => by cases hx), .nil, .nil⟩, .nil, (fun x hx => by cases hx), rfl, rfl⟩, ⟨xp.a, xp.c, rfl⟩, of_decide_eq_true hok⟩⟩

def cs11 (s m : Int) (v : Value) : Array Value := #[.int .i64 11, .int .u32 s, .int .u32 m, .int .u64 0, .int .u32 0, .int .u32 0, .int .u32 0, .slice none 0 0, .slice none 0 0, .slice none 0 0, .slice none 0 0, .string ByteArray.empty, .int .u8 0, .slice none 0 0, .slice none 0 0, .slice none 0 0, v, .int .u32 0, .slice none 0 0, .int .u32 0, .int .u16 0, .int .u16 0, .int .u32 0, .int .u8 0, .slice none 0 0, .slice none 0 0, .bool false, .int .u8 0, .int .u8 0, .int .u16 0]
theorem fb_11 (g B b o c : Nat) (y : List Int) (h1 h2 h3 h4 : Value) (w : World) (s m : Int) (hb : Blk w g 38 (cs11 s m (.slice none 0 0))) (hr : Reads w B 1 (some ⟨b, o, none⟩) y.length (u8s y)) (hB : B ≤ g) (hz : Byts y) (h8 : 8 ≤ y.length) (hc : y.length ≤ c) (hl : y.length ≤ 1048576) :
  Calls Tryz.prog 42 #[.pointer (some ⟨g, 0, none⟩), .slice (some ⟨b, o, none⟩) y.length c, .agg #[h1, h2, h3, h4]] w (RdOut g w (fun q => (∃ A c, q = { pFb 11 s m with entries := ⟨A, c, parts4 entB 8 ((y.length - 8) / 8) (y.drop 8)⟩ }) ∧ 0 < (y.length - 8) / 8 ∧ (y.length - 8) % 8 = 0)) := by
 rw [← List.length_drop]
 refine go_in Tryz.func42 rfl Tryz.ntmps42 [pt g 0, sv b o y.length c, .agg #[h1, h2, h3, h4]] fun a hE => ?_
 have hS := stp_blk1 101 hb
 have hS := stp_ry hS 110 hr (fun x hx => ⟨by have := hb.lt; omega, by omega⟩) hz
 refine rg hE hS [nw 151, pu] (fun p1 => kp [(5, pt (p1 0).g 0), (6, .bool false)]) (fun p1 => kP [(151, some (.blk (p1 0).g 36 #[h1, h2, h3, h4]))]) fun p1 a u hE hS => ?_
 refine rgp hE hS [pu, rsl 110 111, pu] (fun p2 => kp [(7, sv (p2 1).g (p2 1).c (y.drop 8).length (c - 8))]) (fun p2 => kP [(111, some (.ry (fun x => x < B) ((some ⟨(p2 1).g, (p2 1).c, none⟩)) (y.drop 8)))]) (fun _ => ⟨kr (show 8 ≤ y.length ∧ y.length ≤ y.length ∧ y.length ≤ c by omega), trivial⟩) fun p2 a u hE hS => ?_
 have hl8 : (y.drop 8).length = y.length - 8 := List.length_drop
 have hz8 : Byts (y.drop 8) := hz.drop 8
 generalize hbb : y.drop 8 = bb at hS hE hl8 hz8
 refine wp_seq ?_
 refine rg hE hS [pu, pu, pu, ld 101] (fun _ => kp [(14, .int .i64 11)]) kP0 fun _ a u hE hS => wp_block ?_
 refine wp_seq ?_
 refine rgp hE hS [pe (.bool false), pu] (fun _ => kp [(15, .bool false)]) kP0 (fun _ => ⟨kr (cbV (nbV (show (11 : Int) ≠ 7 by decide))), trivial⟩) fun _ a u hE hS => iff hE ?_
 refine rgE hE hS [pe (.bool false), pu] kp0 kP0 (fun _ => ⟨kr (cbV (nbV (show (11 : Int) ≠ 9 by decide))), trivial⟩) fun _ a u hE hS => iff hE ?_
 refine rgp hE hS [pe (.bool false), pu] (fun _ => kp [(21, .bool false)]) kP0 (fun _ => ⟨kr (cbV (nbV (show (11 : Int) ≠ 6 by decide))), trivial⟩) fun _ a u hE hS => iff hE ?_
 refine rgp hE hS [pe (.bool false), pu] (fun _ => kp [(49, .bool false)]) kP0 (fun _ => ⟨kr (cbV (nbV (show (11 : Int) ≠ 10 by decide))), trivial⟩) fun _ a u hE hS => iff hE ?_
 refine rgp hE hS [pe (.bool true), pu] (fun _ => kn [(84, .bool true)] [0, 1, 5, 6, 7, 14]) (fun _ => kN [] [111, 110, 101, 151]) (fun _ => ⟨kr (cbV (ebV (show (11 : Int) = 11 by decide))), trivial⟩) fun _ a u hE hS => ift hE ?_
 refine wp_seq ?_
 have hS := stp_row0 hS 1 w.heap.size 116 2
 refine wp_block ?_
 refine loop_k hE hS (bb.length / 8) (fun k x => kd [1, 5, 7, 14, 84] [(7, sv x.y.1.g x.y.1.c x.y.2.1.length x.y.2.2)]) (fun k x => kN [(101, some (.blk g 38 ((cs11 s m (.slice x.p.a x.n x.p.c))))), (1, some (.row w.heap.size 116 2 (.slice x.p.a x.n x.p.c) x.n x.xs)), (111, some (.ry (fun x => x < B) (some ⟨x.y.1.g, x.y.1.c, none⟩) x.y.2.1))] []) (fun k (x : Lx (Pay × List Int × Nat)) => x.n = k ∧ x.xs = (parts4 entB 8 k bb).flatMap Ent.cells ∧ x.y.2.1 = bb.drop (8 * k) ∧ x.y.2.1.length ≤ x.y.2.2) ⟨pay0, 0, [], (p2 1), bb, (c - 8)⟩ (⟨rfl, by simp [parts4], by simp, by show bb.length ≤ (c - 8); omega⟩) ?_
 intro k x a u hkk hI hE hS K hK
 obtain ⟨hk1, hk2, hk3, hk4⟩ := hI
 obtain ⟨xp, xn, xs, y1, z1, c1⟩ := x
 simp only at hk1 hk2 hk3 hk4
 by_cases hlt : k < bb.length / 8
 ·skip
  have hzl : z1.length = bb.length - 8 * k := by rw [hk3]; exact List.length_drop
  have hz1 : Byts z1 := by rw [hk3]; exact hz8.drop _
  have hu := rd24_lt (hz1.drop 5) 0
  by_cases h24 : rd24 (z1.drop 5) 0 = 0
  rotate_left
  ·skip
   refine wp_seq ?_
   refine rgp hE hS [pu, pu, pe (.bool true)] (fun _ => kp [(88, .bool true)]) kP0 (fun _ => ⟨kr (cbV (dtV (show ((z1.length : Nat) : Int) ≥ 8 by omega))), trivial⟩) fun _ a u hE hS => ift hE <| wp_skip ?_
   refine wp_seq ?_
   refine wp_block ?_
   refine wp_seq ?_
   refine rgp hE hS [pu, rsl 111 112, cl cU24 [112] [], pe (.bool true)] (fun _ => kp [(94, .bool true)]) kP0 (fun _ => ⟨kr (show 5 ≤ z1.length ∧ z1.length ≤ z1.length ∧ z1.length ≤ c1 by omega), kr (show 3 ≤ (z1.drop 5).length ∧ (z1.drop 5).length ≤ (c1 - 5) ∧ 0 < (z1.drop 5).length by simp only [List.length_drop]; omega), kr (cbV (bne_iff_ne.2 h24)), trivial⟩) fun _ a u hE hS => ift hE ?_
   refine rg hE hS [pu] kp0 kP0 fun _ a u hE hS => ?_
   refine wp_ret (thR (bkR (thR (thR (bkR (thR (bkR (thR ?_))))))))
   exact ret1 hE Tryz.results42 (.bool false) ⟨_, rfl, hS.grownBy (some g) (fun _ e => by rw [e]), (fun h => by cases h)⟩
  refine wp_seq ?_
  refine rgp hE hS [pu, pu, pe (.bool true)] (fun _ => kp [(88, .bool true)]) kP0 (fun _ => ⟨kr (cbV (dtV (show ((z1.length : Nat) : Int) ≥ 8 by omega))), trivial⟩) fun _ a u hE hS => ift hE <| wp_skip ?_
  refine wp_seq ?_
  refine wp_block ?_
  refine wp_seq ?_
  refine rgp hE hS [pu, rsl 111 112, cl cU24 [112] [], pe (.bool false)] (fun _ => kp [(94, .bool false)]) kP0 (fun _ => ⟨kr (show 5 ≤ z1.length ∧ z1.length ≤ z1.length ∧ z1.length ≤ c1 by omega), kr (show 3 ≤ (z1.drop 5).length ∧ (z1.drop 5).length ≤ (c1 - 5) ∧ 0 < (z1.drop 5).length by simp only [List.length_drop]; omega), kr (cbV (show (rd24 (z1.drop 5) 0 != 0) = false by rw [h24]; rfl)), trivial⟩) fun _ a u hE hS => iff hE <| wp_skip ?_
  refine dgE hE hS [pu, pu, pu, pu, ld 101, pu, cl cU32 [111] [], pu, ix, rb 111 4, pu, nw 92, ap 1 [92], pu, pu, st 101] kp0 (fun p14 => kP [(101, some (.blk g 38 ((cs11 s m (.slice (p14 12).a (xn + 1) (p14 12).c))))), (1, some (.row w.heap.size 116 2 (.slice (p14 12).a (xn + 1) (p14 12).c) (xn + 1) (xs ++ (entB z1).cells)))]) (fun _ => ⟨kr (show 4 ≤ z1.length ∧ z1.length ≤ c1 ∧ 0 < z1.length by omega), kr (show 4 < z1.length by omega), kr (show 4 < (z1).length by omega), kr (show w.heap.size ≤ w.heap.size ∧ (xn + 1) * 8 ≤ 140737488355328 ∧ ∀ u ∈ (entB z1).cells, u.oneCell' = true from ⟨Nat.le_refl _, by omega, by intro u hu; simp [Ent.cells] at hu; rcases hu with rfl | rfl <;> rfl⟩), trivial⟩) fun p14 a u hE hS => ?_
  refine rgE hE hS [pu, rsl 111 111, pu] (fun p15 => kp [(7, sv (p15 1).g (p15 1).c (z1.drop 8).length (c1 - 8))]) (fun p15 => kP [(111, some (.ry (fun x => x < B) ((some ⟨(p15 1).g, (p15 1).c, none⟩)) (z1.drop 8)))]) (fun _ => ⟨kr (show 8 ≤ z1.length ∧ z1.length ≤ z1.length ∧ z1.length ≤ c1 by omega), trivial⟩) fun p15 a u hE hS => ?_
  exact hK ⟨(p14 12), xn + 1, xs ++ (entB z1).cells, (p15 1), z1.drop 8, c1 - 8⟩ a u _ _ hlt ⟨congrArg (· + 1) hk1, by show xs ++ _ = _; rw [hk2, parts4_succ, List.flatMap_append, hk3]; simp, by show z1.drop 8 = _; rw [hk3, List.drop_drop]; rfl, by show (z1.drop 8).length ≤ c1 - 8; rw [List.length_drop]; omega⟩ hE hS (by kernel_rfl)
 ·obtain rfl : k = bb.length / 8 := by omega
  by_cases he : bb.length % 8 = 0
  ·skip
   have hzl : z1.length = bb.length - 8 * (bb.length / 8) := by rw [hk3]; exact List.length_drop
   refine wp_seq ?_
   refine rgp hE hS [pu, pu, pe (.bool false)] (fun _ => kp [(88, .bool false)]) kP0 (fun _ => ⟨kr (cbV (dfV (show ¬ (((z1.length : Nat) : Int) ≥ 8) by omega))), trivial⟩) fun _ a u hE hS => iff hE ?_
   refine wp_exit ?_
   refine rgp hE hS [pu, pu, pe (.bool true), pu, pu, pu, pu, ld 101, pu, pe (.bool (decide (0 < bb.length / 8))), pu, pu] (fun _ => kp [(6, .bool (decide (0 < bb.length / 8)))]) kP0 (fun _ => ⟨kr (cbV (ebV (show (((z1.length : Nat) : Int) : Int) = 0 by omega))), kr (show Value.bool (decide (((xn : Nat) : Int) > 0)) = Value.bool (decide (0 < bb.length / 8)) from cbV (decide_eq_decide.2 (by omega))), trivial⟩) fun _ a u hE hS => ?_
   refine wp_ret (bkR (thR ?_))
   subst hk1
   have hrow := pcR (base := w.heap.size) (e := 116) (size := 2) (v := .slice xp.a (bb.length / 8) xp.c) (n := bb.length / 8) (xs := xs) hS 1
   have hblk := pcB (g := g) (T := 38) (cs := (cs11 s m (.slice xp.a (bb.length / 8) xp.c))) hS 101
   have hrow2 : InRows u w.heap.size u.heap.size 2 xp.a (parts4 entB 8 (bb.length / 8) bb).length ((parts4 entB 8 (bb.length / 8) bb).flatMap Ent.cells) := by rw [parts4_len, ← hk2]; exact InRows.of_own hrow
   exact ret1 hE Tryz.results42 (.bool (decide (0 < bb.length / 8))) ⟨_, rfl, hS.grownBy (some g) (fun _ e => by rw [e]), fun hok => ⟨{ pFb 11 s m with entries := ⟨xp.a, xp.c, parts4 entB 8 (bb.length / 8) bb⟩ }, (by have e : ({ pFb 11 s m with entries := ⟨xp.a, xp.c, parts4 entB 8 (bb.length / 8) bb⟩ } : Pkt).cells = (cs11 s m (.slice xp.a (bb.length / 8) xp.c)) := (by unfold cs11 Pkt.cells Sl.val; simp only [parts4_len]; rfl); rw [e]; exact hblk), ⟨⟨.nil, .nil, (fun x hx => by cases hx), .nil, .nil, hrow2, .nil, (fun x hx => by cases hx), .nil, .nil⟩, .nil, (fun x hx => by cases hx), rfl, rfl⟩, ⟨xp.a, xp.c, rfl⟩, of_decide_eq_true hok, he⟩⟩
  ·skip
   have hzl : z1.length = bb.length - 8 * (bb.length / 8) := by rw [hk3]; exact List.length_drop
   refine wp_seq ?_
   refine rgp hE hS [pu, pu, pe (.bool false)] (fun _ => kp [(88, .bool false)]) kP0 (fun _ => ⟨kr (cbV (dfV (show ¬ (((z1.length : Nat) : Int) ≥ 8) by omega))), trivial⟩) fun _ a u hE hS => iff hE ?_
   refine wp_exit ?_
   refine rgp hE hS [pu, pu, pe (.bool false), pu, sk, sk, sk, sk, sk, sk, pu, pu] kp0 kP0 (fun _ => ⟨kr (cbV (nbV (show (((z1.length : Nat) : Int) : Int) ≠ 0 by omega))), trivial⟩) fun _ a u hE hS => ?_
   refine wp_ret (bkR (thR ?_))
   subst hk1
   have hrow := pcR (base := w.heap.size) (e := 116) (size := 2) (v := .slice xp.a (bb.length / 8) xp.c) (n := bb.length / 8) (xs := xs) hS 1
   have hblk := pcB (g := g) (T := 38) (cs := (cs11 s m (.slice xp.a (bb.length / 8) xp.c))) hS 101
   have hrow2 : InRows u w.heap.size u.heap.size 2 xp.a (parts4 entB 8 (bb.length / 8) bb).length ((parts4 entB 8 (bb.length / 8) bb).flatMap Ent.cells) := by rw [parts4_len, ← hk2]; exact InRows.of_own hrow
   exact ret1 hE Tryz.results42 (.bool false) ⟨_, rfl, hS.grownBy (some g) (fun _ e => by rw [e]), (fun h => by cases h)⟩

end Go.Proofs.YtmmfpgoodfgkbaaGreatDoor
namespace Go.Proofs.YtmmfpgoodfgkbaaGreatDoor
open Go Go.RowKit
set_option maxHeartbeats 4000000
set_option maxRecDepth 100000
set_option linter.unusedVariables false
set_option linter.unusedSimpArgs false

def repB (b : List Int) : Rep := ⟨rd32 b 0, gi b 4, rd24 (b.drop 5) 0, rd32 (b.drop 8) 0, rd32 (b.drop 12) 0, rd32 (b.drop 16) 0, rd32 (b.drop 20) 0⟩
def SlB (w : World) (B : Nat) (v : Value) (l : List Int) : Prop := ∃ A c, v = .slice A l.length c ∧ l.length ≤ c ∧ Reads w B 1 A l.length (u8s l)
theorem readRep_any (B b o c : Nat) (y : List Int) (w : World) (hr : Reads w B 1 (some ⟨b, o, none⟩) y.length (u8s y)) (hB : B ≤ w.heap.size) (hz : Byts y) (h24 : 24 ≤ y.length) (hc : y.length ≤ c) :
  Calls Tryz.prog 72 #[.slice (some ⟨b, o, none⟩) y.length c] w fun e w' => e = .returned (.agg (repB y).cells.toArray) ∧ Below w.heap.size w w' := by
 refine go_in Tryz.func72 rfl Tryz.ntmps72 [sv b o y.length c] fun a hE => ?_
 have hS := stp_in w
 have hS := stp_ry hS 110 hr (fun x hx => ⟨by omega, id⟩) hz
 have hl5 : (y.drop 5).length = y.length - 5 := List.length_drop
 have hl8 : (y.drop 8).length = y.length - 8 := List.length_drop
 have hl12 : (y.drop 12).length = y.length - 12 := List.length_drop
 have hl16 : (y.drop 16).length = y.length - 16 := List.length_drop
 have hl20 : (y.drop 20).length = y.length - 20 := List.length_drop
 refine rg hE hS [nw 101] (fun p1 => kp [(2, pt (p1 0).g 0)]) (fun p1 => kP [(101, some (.blk (p1 0).g 98 #[.int .u32 0, .int .u8 0, .int .u32 0, .int .u32 0, .int .u32 0, .int .u32 0, .int .u32 0]))]) fun p1 a u hE hS => ?_
 refine dgp hE hS [pu, cl cU32 [110] [], pu, ix, rb 110 4, pu, rsl 110 111, cl cU24 [111] [], pu, rsl 110 112, cl cU32 [112] [], pu, rsl 110 113, cl cU32 [113] [], pu, rsl 110 114, cl cU32 [114] [], pu, rsl 110 115, cl cU32 [115] [], pu, st 101] kp0 (fun _ => kP [(101, some (.blk (p1 0).g 98 ((repB y).cells.toArray)))]) (fun _ => ⟨kr (show 4 ≤ y.length ∧ y.length ≤ c ∧ 0 < y.length by omega), kr (show 4 < y.length by omega), kr (show 4 < (y).length by omega), kr (show 5 ≤ y.length ∧ y.length ≤ y.length ∧ y.length ≤ c by omega), kr (show 3 ≤ (y.drop 5).length ∧ (y.drop 5).length ≤ (c - 5) ∧ 0 < (y.drop 5).length by omega), kr (show 8 ≤ y.length ∧ y.length ≤ y.length ∧ y.length ≤ c by omega), kr (show 4 ≤ (y.drop 8).length ∧ (y.drop 8).length ≤ (c - 8) ∧ 0 < (y.drop 8).length by omega), kr (show 12 ≤ y.length ∧ y.length ≤ y.length ∧ y.length ≤ c by omega), kr (show 4 ≤ (y.drop 12).length ∧ (y.drop 12).length ≤ (c - 12) ∧ 0 < (y.drop 12).length by omega), kr (show 16 ≤ y.length ∧ y.length ≤ y.length ∧ y.length ≤ c by omega), kr (show 4 ≤ (y.drop 16).length ∧ (y.drop 16).length ≤ (c - 16) ∧ 0 < (y.drop 16).length by omega), kr (show 20 ≤ y.length ∧ y.length ≤ y.length ∧ y.length ≤ c by omega), kr (show 4 ≤ (y.drop 20).length ∧ (y.drop 20).length ≤ (c - 20) ∧ 0 < (y.drop 20).length by omega), trivial⟩) fun _ a u hE hS => ?_
 refine wp_ret ?_
 exact retc hE hS Tryz.results72 101 (p1 0).g 98 (repB y).cells.toArray ⟨rfl, hS.below⟩ Tryz.underlying98
theorem cu_rep {olds : Nat → Prop} {w0 : World} {D : Nat → Prop} (j : Nat) (A : Option Addr) (l : List Int) (n c : Nat) (hn : n = l.length) (h24 : 24 ≤ l.length) (hc : l.length ≤ c)
  (L : PL) (w : World) (hps : [some (.ry D A l)] = ([j] ++ []).map (lookP L)) (hS : Stp olds w0 w (restr ([j] ++ []) (lookM (den olds w0 L)))) :
  Calls Tryz.prog 72 #[.slice A n c] w fun e w' => ∃ x : Pay, e = .returned (.agg (repB l).cells.toArray) ∧ Stp (blksOf (lookM (den olds w0 L)) []) w w' (lookM (den olds w0 (zipW [] []))) := by
 subst hn
 have hps' : [some (Pc.ry D A l)] = [j].map (lookP L) := by simpa using hps
 have hpc : RdB olds w0 D A l ∧ Byts l := hS.pure_ j (one_pc (olds := olds) (w0 := w0) hps').2
 have hr := rdb_kept hS hpc.1
 obtain ⟨b, o, rfl, _⟩ := Reads.addr hr (by omega) (by omega)
 exact (readRep_any w.heap.size b o c l w hr (Nat.le_refl _) hpc.2 h24 hc).mono fun e w' ⟨he, hB⟩ => ⟨pay0, he, stp_of_below hB⟩

theorem reports_read (n : Nat) (B b o c : Nat) (y : List Int) (w : World) (hr : Reads w B 1 (some ⟨b, o, none⟩) y.length (u8s y)) (hB : B ≤ w.heap.size) (hz : Byts y) (hn : 24 * n ≤ y.length) (hc : y.length ≤ c) (hl : y.length ≤ 1048576) :
  Calls Tryz.prog 39 #[.slice (some ⟨b, o, none⟩) y.length c, .int .i64 (n : Nat)] w fun e w' => ∃ A c1 v, e = .returned (.tuple #[.slice A n c1, v]) ∧ InRows w' w.heap.size w'.heap.size 7 A n ((parts4 repB 24 n y).flatMap Rep.cells) ∧ SlB w B v (y.drop (24 * n)) ∧ Below w.heap.size w w' := by
 refine go_in Tryz.func39 rfl Tryz.ntmps39 [sv b o y.length c, .int .i64 (n : Nat)] fun a hE => ?_
 have hS := stp_in w
 have hS := stp_ry hS 111 hr (fun x hx => ⟨by omega, id⟩) hz
 refine rg hE hS [pu, pu] (fun _ => kp [(4, .slice none 0 0), (5, .slice none 0 0)]) kP0 fun _ a u hE hS => ?_
 refine wp_seq ?_
 refine rg hE hS [pu, pu] (fun _ => kn [(6, .int .i64 (n : Nat)), (7, .int .i64 0)] [0, 4, 5]) (fun _ => kN [] [111]) fun _ a u hE hS => ?_
 have hS := stp_row0 hS 1 w.heap.size 98 7
 refine range_up hE hS 7 n (fun _ x => kd [7, 8, 16] [(4, .slice x.p.a x.n x.p.c), (0, sv x.y.1.g x.y.1.c x.y.2.1.length x.y.2.2)]) (fun _ x => kP [(1, some (.row w.heap.size 98 7 (.slice x.p.a x.n x.p.c) x.n x.xs)), (111, some (.ry (fun x => x < B) (some ⟨x.y.1.g, x.y.1.c, none⟩) x.y.2.1))]) (fun k (x : Lx (Pay × List Int × Nat)) => x.n = k ∧ x.xs = (parts4 repB 24 k y).flatMap Rep.cells ∧ x.y.2.1 = y.drop (24 * k) ∧ x.y.2.1.length ≤ x.y.2.2) ⟨pay0, 0, [], (⟨b, o, undef, none⟩ : Pay), y, c⟩ (by omega) (⟨rfl, by simp [parts4], by simp, by show y.length ≤ c; omega⟩) (fun k x a u hk hI hE hS K hK RK hRK => ?_) fun ⟨qq, n1, xs1, q2, z2, c2⟩ a u hI hE hS => ?_
 ·obtain ⟨hk1, hk2, hk3, hk4⟩ := hI
  obtain ⟨xp, xn, xs, y1, z1, c1⟩ := x
  simp only at hk1 hk2 hk3 hk4
  have hzl : z1.length = y.length - 24 * k := by rw [hk3]; exact List.length_drop
  have h24 : 24 * (k + 1) ≤ y.length := by omega
  refine rgp hE hS [pu, pu, cu 72 [111] [] (fun _ => .agg (repB z1).cells.toArray) (fun _ => []), nw 92, ap 1 [92], pu] (fun p3 => kp [(4, .slice (p3 4).a (xn + 1) (p3 4).c)]) (fun p3 => kP [(1, some (.row w.heap.size 98 7 (.slice (p3 4).a (xn + 1) (p3 4).c) (xn + 1) (xs ++ (repB z1).cells)))]) (fun _ => ⟨kr (cu_rep (w0 := w) (olds := fun _ => False) (D := fun x => x < B) 111 (some ⟨y1.g, y1.c, none⟩) z1 z1.length c1 rfl (by omega) (by omega)), kr (show w.heap.size ≤ w.heap.size ∧ (xn + 1) * 28 ≤ 140737488355328 ∧ ∀ u ∈ (repB z1).cells, u.oneCell' = true from ⟨Nat.le_refl _, by omega, by intro u hu; simp [Rep.cells] at hu; rcases hu with rfl | rfl | rfl | rfl | rfl | rfl | rfl <;> rfl⟩), trivial⟩) fun p3 a u hE hS => ?_
  refine rgE hE hS [pu, rsl 111 111, pu] (fun p4 => kp [(0, sv (p4 1).g (p4 1).c (z1.drop 24).length (c1 - 24))]) (fun p4 => kP [(111, some (.ry (fun x => x < B) ((some ⟨(p4 1).g, (p4 1).c, none⟩)) (z1.drop 24)))]) (fun _ => ⟨kr (show 24 ≤ z1.length ∧ z1.length ≤ z1.length ∧ z1.length ≤ c1 by omega), trivial⟩) fun p4 a u hE hS => ?_
  exact hK ⟨(p3 4), xn + 1, xs ++ (repB z1).cells, (p4 1), z1.drop 24, c1 - 24⟩ a u _ _ ⟨congrArg (· + 1) hk1, by show xs ++ _ = _; rw [hk2, parts4_succ, List.flatMap_append, hk3]; simp, by show z1.drop 24 = _; rw [hk3, List.drop_drop]; rfl, by show (z1.drop 24).length ≤ c1 - 24; rw [List.length_drop]; omega⟩ hE hS (by kernel_rfl)
 simp only at hI
 obtain ⟨h1, h2, h3, h4⟩ := hI
 subst h1
 refine rg hE hS [pu, pu, pu, pu] (fun _ => kp [(5, sv q2.g q2.c z2.length c2)]) kP0 fun _ a u hE hS => ?_
 refine wp_ret ?_
 have hrow := pcR (base := w.heap.size) (e := 98) (size := 7) (v := .slice qq.a n1 qq.c) (n := n1) (xs := xs1) hS 1
 have hrd : RdB (fun _ => False) w (fun x => x < B) (some ⟨q2.g, q2.c, none⟩) z2 ∧ Byts z2 := hS.pure_ 111 (by kernel_rfl)
 obtain ⟨⟨hr1, hB1⟩, _⟩ := hrd
 exact ret2 hE Tryz.results39 (.slice qq.a n1 qq.c) (.slice (some ⟨q2.g, q2.c, none⟩) z2.length c2) ⟨qq.a, qq.c, _, rfl, by rw [← h2]; exact InRows.of_own hrow, ⟨_, _, by rw [h3], by rw [← h3]; exact h4, by rw [← h3]; exact hr1.reads⟩, hS.below⟩

def srcB (b : List Int) : Int := rd32 b 0
def cs4 (v : Value) (t : ByteArray) : Array Value := #[.int .i64 4, .int .u32 0, .int .u32 0, .int .u64 0, .int .u32 0, .int .u32 0, .int .u32 0, .slice none 0 0, .slice none 0 0, .slice none 0 0, v, .string t, .int .u8 0, .slice none 0 0, .slice none 0 0, .slice none 0 0, .slice none 0 0, .int .u32 0, .slice none 0 0, .int .u32 0, .int .u16 0, .int .u16 0, .int .u32 0, .int .u8 0, .slice none 0 0, .slice none 0 0, .bool false, .int .u8 0, .int .u8 0, .int .u16 0]
def ByeT (z : List Int) (t : ByteArray) : Prop := (z.length = 0 ∧ t = ByteArray.empty) ∨ ∃ r : Nat, gi z 0 = (r : Int) ∧ 1 + r ≤ z.length ∧ t = strB ((z.take (1 + r)).drop 1)
def ByeR (n : Nat) (y : List Int) (q : Pkt) : Prop := ∃ A c t, q = { pNul with kind := 4, sources := ⟨A, c, parts4 srcB 4 n y⟩, text := t } ∧ 4 * n ≤ y.length ∧ ByeT (y.drop (4 * n)) t
theorem readBye_any (g : Nat) (n : Nat) (B b o c : Nat) (y : List Int) (w : World) (hb : Blk w g 38 (cs4 (.slice none 0 0) ByteArray.empty)) (hr : Reads w B 1 (some ⟨b, o, none⟩) y.length (u8s y)) (hB : B ≤ g) (hz : Byts y) (hc : y.length ≤ c) (hl : y.length ≤ 1048576) (hn : n ≤ 31) :
  Calls Tryz.prog 41 #[.pointer (some ⟨g, 0, none⟩), .slice (some ⟨b, o, none⟩) y.length c, .int .i64 (n : Nat)] w (RdOut g w (ByeR n y)) := by
 refine go_in Tryz.func41 rfl Tryz.ntmps41 [pt g 0, sv b o y.length c, .int .i64 (n : Nat)] fun a hE => ?_
 have hS := stp_blk1 101 hb
 have hS := stp_ry hS 111 hr (fun x hx => ⟨by have := hb.lt; omega, by omega⟩) hz
 by_cases h4 : y.length < 4 * n
 ·skip
  refine rg hE hS [pu] (fun _ => kp [(6, .bool false)]) kP0 fun _ a u hE hS => ?_
  refine wp_seq ?_
  refine rgp hE hS [pu, pu, pu, pe (.int .i64 ((4 * n : Nat) : Int)), pe (.bool true)] (fun _ => kp [(14, .bool true)]) kP0 (fun _ => ⟨kr (ciV (show IntKind.i64.wrap ((4 : Int) * ((n : Nat) : Int)) = ((4 * n : Nat) : Int) from by rw [wiV _ (by omega)]; omega)), kr (cbV (dtV (show ((y.length : Nat) : Int) < ((4 * n : Nat) : Int) by omega))), trivial⟩) fun _ a u hE hS => ift hE ?_
  refine rg hE hS [pu] kp0 kP0 fun _ a u hE hS => ?_
  refine wp_ret (thR ?_)
  exact ret1 hE Tryz.results41 (.bool false) ⟨_, rfl, hS.grownBy (some g) (fun _ e => by rw [e]), (fun h => by cases h)⟩
 refine rg hE hS [pu] (fun _ => kp [(6, .bool false)]) kP0 fun _ a u hE hS => ?_
 refine wp_seq ?_
 refine rgp hE hS [pu, pu, pu, pe (.int .i64 ((4 * n : Nat) : Int)), pe (.bool false)] (fun _ => kp [(14, .bool false)]) kP0 (fun _ => ⟨kr (ciV (show IntKind.i64.wrap ((4 : Int) * ((n : Nat) : Int)) = ((4 * n : Nat) : Int) from by rw [wiV _ (by omega)]; omega)), kr (cbV (dfV (show ¬ (((y.length : Nat) : Int) < ((4 * n : Nat) : Int)) by omega))), trivial⟩) fun _ a u hE hS => iff hE <| wp_skip ?_
 refine wp_seq ?_
 refine rg hE hS [pu, pu] (fun _ => kn [(15, .int .i64 (n : Nat)), (16, .int .i64 0)] [0, 1, 6]) (fun _ => kN [] [111, 101]) fun _ a u hE hS => ?_
 have hS := stp_row0 hS 1 w.heap.size 22 1
 refine range_up hE hS 16 n (fun _ x => kd [16, 17, 31] [(1, sv x.y.1.g x.y.1.c x.y.2.1.length x.y.2.2)]) (fun _ x => kP [(101, some (.blk g 38 ((cs4 (.slice x.p.a x.n x.p.c) ByteArray.empty)))), (1, some (.row w.heap.size 22 1 (.slice x.p.a x.n x.p.c) x.n x.xs)), (111, some (.ry (fun x => x < B) (some ⟨x.y.1.g, x.y.1.c, none⟩) x.y.2.1))]) (fun k (x : Lx (Pay × List Int × Nat)) => x.n = k ∧ x.xs = (parts4 srcB 4 k y).flatMap u32c ∧ x.y.2.1 = y.drop (4 * k) ∧ x.y.2.1.length ≤ x.y.2.2) ⟨pay0, 0, [], (⟨b, o, undef, none⟩ : Pay), y, c⟩ (by omega) (⟨rfl, by simp [parts4], by simp, by show y.length ≤ c; omega⟩) (fun k x a u hk hI hE hS K hK RK hRK => ?_) fun ⟨qq, n1, xs1, q2, z2, c2⟩ a u hI hE hS => ?_
 ·obtain ⟨hk1, hk2, hk3, hk4⟩ := hI
  obtain ⟨xp, xn, xs, y1, z1, c1⟩ := x
  simp only at hk1 hk2 hk3 hk4
  have hzl : z1.length = y.length - 4 * k := by rw [hk3]; exact List.length_drop
  have h24 : 4 * (k + 1) ≤ y.length := by omega
  refine dgp hE hS [pu, pu, pu, pu, ld 101, pu, cl cU32 [111] [], nw 92, ap 1 [92], pu, pu, st 101] kp0 (fun p7 => kP [(101, some (.blk g 38 ((cs4 (.slice (p7 8).a (xn + 1) (p7 8).c) ByteArray.empty)))), (1, some (.row w.heap.size 22 1 (.slice (p7 8).a (xn + 1) (p7 8).c) (xn + 1) (xs ++ u32c (srcB z1))))]) (fun _ => ⟨kr (show 4 ≤ z1.length ∧ z1.length ≤ c1 ∧ 0 < z1.length by omega), kr (show w.heap.size ≤ w.heap.size ∧ (xn + 1) * 4 ≤ 140737488355328 ∧ ∀ u ∈ u32c (srcB z1), u.oneCell' = true from ⟨Nat.le_refl _, by omega, by intro u hu; simp [u32c] at hu; rw [hu]; rfl⟩), trivial⟩) fun p7 a u hE hS => ?_
  refine rgE hE hS [pu, rsl 111 111, pu] (fun p8 => kp [(1, sv (p8 1).g (p8 1).c (z1.drop 4).length (c1 - 4))]) (fun p8 => kP [(111, some (.ry (fun x => x < B) ((some ⟨(p8 1).g, (p8 1).c, none⟩)) (z1.drop 4)))]) (fun _ => ⟨kr (show 4 ≤ z1.length ∧ z1.length ≤ z1.length ∧ z1.length ≤ c1 by omega), trivial⟩) fun p8 a u hE hS => ?_
  exact hK ⟨(p7 8), xn + 1, xs ++ u32c (srcB z1), (p8 1), z1.drop 4, c1 - 4⟩ a u _ _ ⟨congrArg (· + 1) hk1, by show xs ++ _ = _; rw [hk2, parts4_succ, List.flatMap_append, hk3]; simp, by show z1.drop 4 = _; rw [hk3, List.drop_drop]; rfl, by show (z1.drop 4).length ≤ c1 - 4; rw [List.length_drop]; omega⟩ hE hS (by kernel_rfl)
 simp only at hI
 obtain ⟨h1, h2, h3, h4b⟩ := hI
 subst h1
 have hz2 : Byts z2 := by rw [h3]; exact hz.drop _
 have hzl : z2.length = y.length - 4 * n1 := by rw [h3]; exact List.length_drop
 by_cases hq0 : z2.length = 0
 ·skip
  refine wp_seq ?_
  refine rgp hE hS [pu, pu, pe (.bool true)] (fun _ => kp [(34, .bool true)]) kP0 (fun _ => ⟨kr (cbV (ebV (show (((z2.length : Nat) : Int) : Int) = 0 by omega))), trivial⟩) fun _ a u hE hS => ift hE ?_
  refine rg hE hS [pu] (fun _ => kp [(6, .bool true)]) kP0 fun _ a u hE hS => ?_
  refine wp_ret (thR ?_)
  have hrow := pcR (base := w.heap.size) (e := 22) (size := 1) (v := .slice qq.a n1 qq.c) (n := n1) (xs := xs1) hS 1
  have hblk := pcB (g := g) (T := 38) (cs := cs4 (.slice qq.a n1 qq.c) ByteArray.empty) hS 101
  have hrow2 : InRows u w.heap.size u.heap.size 1 qq.a (parts4 srcB 4 n1 y).length ((parts4 srcB 4 n1 y).flatMap u32c) := by rw [parts4_len, ← h2]; exact InRows.of_own hrow
  exact ret1 hE Tryz.results41 (.bool true) ⟨_, rfl, hS.grownBy (some g) (fun _ e => by rw [e]), fun _ => ⟨{ pNul with kind := 4, sources := ⟨qq.a, qq.c, parts4 srcB 4 n1 y⟩, text := ByteArray.empty }, (by have e : ({ pNul with kind := 4, sources := ⟨qq.a, qq.c, parts4 srcB 4 n1 y⟩, text := ByteArray.empty } : Pkt).cells = cs4 (.slice qq.a n1 qq.c) ByteArray.empty := (by unfold cs4 Pkt.cells Sl.val; simp only [parts4_len]; rfl); rw [e]; exact hblk), ⟨⟨.nil, .nil, (fun x hx => by cases hx), .nil, .nil, .nil, .nil, (fun x hx => by cases hx), .nil, .nil⟩, hrow2, (fun x hx => by cases hx), rfl, rfl⟩, qq.a, qq.c, ByteArray.empty, rfl, by omega, by rw [← h3]; exact .inl ⟨hq0, rfl⟩⟩⟩
 have hg0 := hz2.gi 0
 obtain ⟨r, hr0⟩ : ∃ r : Nat, gi z2 0 = (r : Int) := ⟨(gi z2 0).toNat, by omega⟩
 by_cases hq17 : 1 + r > z2.length
 ·skip
  refine wp_seq ?_
  refine rgp hE hS [pu, pu, pe (.bool false)] (fun _ => kp [(34, .bool false)]) kP0 (fun _ => ⟨kr (cbV (nbV (show (((z2.length : Nat) : Int) : Int) ≠ 0 by omega))), trivial⟩) fun _ a u hE hS => iff hE <| wp_skip ?_
  refine rgp hE hS [pu, ix, rb 111 0, pe (.int .i64 (gi z2 0)), pe (.int .i64 ((1 + r : Nat) : Int)), pu] (fun _ => kp [(7, .int .i64 ((1 + r : Nat) : Int))]) kP0 (fun _ => ⟨kr (show 0 < z2.length by omega), kr (show 0 < (z2).length by omega), kr (ciV (wiV (gi z2 0) (by omega))), kr (ciV (show IntKind.i64.wrap (1 + gi z2 0) = ((1 + r : Nat) : Int) from (wiV _ (by omega)).trans (by omega))), trivial⟩) fun _ a u hE hS => ?_
  refine wp_seq ?_
  refine rgp hE hS [pu, pu, pu, pe (.bool true), pu, sk, sk, sk, sk, sk, pu, pu, sk, sk, pu] (fun _ => kp [(54, .bool true)]) kP0 (fun _ => ⟨kr (cbV (dtV (show ((1 + r : Nat) : Int) > ((z2.length : Nat) : Int) by omega))), trivial⟩) fun _ a u hE hS => ift hE ?_
  refine rg hE hS [pu] kp0 kP0 fun _ a u hE hS => ?_
  refine wp_ret (thR ?_)
  exact ret1 hE Tryz.results41 (.bool false) ⟨_, rfl, hS.grownBy (some g) (fun _ e => by rw [e]), (fun h => by cases h)⟩
 by_cases hq23 : z2.length - (1 + r) > 3
 ·skip
  refine wp_seq ?_
  refine rgp hE hS [pu, pu, pe (.bool false)] (fun _ => kp [(34, .bool false)]) kP0 (fun _ => ⟨kr (cbV (nbV (show (((z2.length : Nat) : Int) : Int) ≠ 0 by omega))), trivial⟩) fun _ a u hE hS => iff hE <| wp_skip ?_
  refine rgp hE hS [pu, ix, rb 111 0, pe (.int .i64 (gi z2 0)), pe (.int .i64 ((1 + r : Nat) : Int)), pu] (fun _ => kp [(7, .int .i64 ((1 + r : Nat) : Int))]) kP0 (fun _ => ⟨kr (show 0 < z2.length by omega), kr (show 0 < (z2).length by omega), kr (ciV (wiV (gi z2 0) (by omega))), kr (ciV (show IntKind.i64.wrap (1 + gi z2 0) = ((1 + r : Nat) : Int) from (wiV _ (by omega)).trans (by omega))), trivial⟩) fun _ a u hE hS => ?_
  refine wp_seq ?_
  refine rgp hE hS [pu, pu, pu, pe (.bool false), pu, pu, pu, pu, pe (.int .i64 ((z2.length - (1 + r) : Nat) : Int)), pe (.bool true), pu, pu, sk, sk, pu] (fun _ => kp [(54, .bool true)]) kP0 (fun _ => ⟨kr (cbV (dfV (show ¬ (((1 + r : Nat) : Int) > ((z2.length : Nat) : Int)) by omega))), kr (ciV (show IntKind.i64.wrap (((z2.length : Nat) : Int) - ((1 + r : Nat) : Int)) = ((z2.length - (1 + r) : Nat) : Int) from (wiV _ (by omega)).trans (by omega))), kr (cbV (dtV (show ((z2.length - (1 + r) : Nat) : Int) > 3 by omega))), trivial⟩) fun _ a u hE hS => ift hE ?_
  refine rg hE hS [pu] kp0 kP0 fun _ a u hE hS => ?_
  refine wp_ret (thR ?_)
  exact ret1 hE Tryz.results41 (.bool false) ⟨_, rfl, hS.grownBy (some g) (fun _ e => by rw [e]), (fun h => by cases h)⟩
 by_cases hq5 : r = 0
 ·skip
  refine wp_seq ?_
  refine rgp hE hS [pu, pu, pe (.bool false)] (fun _ => kp [(34, .bool false)]) kP0 (fun _ => ⟨kr (cbV (nbV (show (((z2.length : Nat) : Int) : Int) ≠ 0 by omega))), trivial⟩) fun _ a u hE hS => iff hE <| wp_skip ?_
  refine rgp hE hS [pu, ix, rb 111 0, pe (.int .i64 (gi z2 0)), pe (.int .i64 ((1 + r : Nat) : Int)), pu] (fun _ => kp [(7, .int .i64 ((1 + r : Nat) : Int))]) kP0 (fun _ => ⟨kr (show 0 < z2.length by omega), kr (show 0 < (z2).length by omega), kr (ciV (wiV (gi z2 0) (by omega))), kr (ciV (show IntKind.i64.wrap (1 + gi z2 0) = ((1 + r : Nat) : Int) from (wiV _ (by omega)).trans (by omega))), trivial⟩) fun _ a u hE hS => ?_
  refine wp_seq ?_
  refine rgp hE hS [pu, pu, pu, pe (.bool false), pu, pu, pu, pu, pe (.int .i64 ((z2.length - (1 + r) : Nat) : Int)), pe (.bool false), pu, pu, pu, pe (.bool true), pu] (fun _ => kp [(54, .bool true)]) kP0 (fun _ => ⟨kr (cbV (dfV (show ¬ (((1 + r : Nat) : Int) > ((z2.length : Nat) : Int)) by omega))), kr (ciV (show IntKind.i64.wrap (((z2.length : Nat) : Int) - ((1 + r : Nat) : Int)) = ((z2.length - (1 + r) : Nat) : Int) from (wiV _ (by omega)).trans (by omega))), kr (cbV (dfV (show ¬ (((z2.length - (1 + r) : Nat) : Int) > 3) by omega))), kr (cbV (ebV (show (((1 + r : Nat) : Int) : Int) = 1 by omega))), trivial⟩) fun _ a u hE hS => ift hE ?_
  refine rg hE hS [pu] kp0 kP0 fun _ a u hE hS => ?_
  refine wp_ret (thR ?_)
  exact ret1 hE Tryz.results41 (.bool false) ⟨_, rfl, hS.grownBy (some g) (fun _ e => by rw [e]), (fun h => by cases h)⟩
 refine wp_seq ?_
 refine rgp hE hS [pu, pu, pe (.bool false)] (fun _ => kp [(34, .bool false)]) kP0 (fun _ => ⟨kr (cbV (nbV (show (((z2.length : Nat) : Int) : Int) ≠ 0 by omega))), trivial⟩) fun _ a u hE hS => iff hE <| wp_skip ?_
 refine rgp hE hS [pu, ix, rb 111 0, pe (.int .i64 (gi z2 0)), pe (.int .i64 ((1 + r : Nat) : Int)), pu] (fun _ => kp [(7, .int .i64 ((1 + r : Nat) : Int))]) kP0 (fun _ => ⟨kr (show 0 < z2.length by omega), kr (show 0 < (z2).length by omega), kr (ciV (wiV (gi z2 0) (by omega))), kr (ciV (show IntKind.i64.wrap (1 + gi z2 0) = ((1 + r : Nat) : Int) from (wiV _ (by omega)).trans (by omega))), trivial⟩) fun _ a u hE hS => ?_
 refine wp_seq ?_
 refine rgp hE hS [pu, pu, pu, pe (.bool false), pu, pu, pu, pu, pe (.int .i64 ((z2.length - (1 + r) : Nat) : Int)), pe (.bool false), pu, pu, pu, pe (.bool false), pu] (fun _ => kp [(54, .bool false)]) kP0 (fun _ => ⟨kr (cbV (dfV (show ¬ (((1 + r : Nat) : Int) > ((z2.length : Nat) : Int)) by omega))), kr (ciV (show IntKind.i64.wrap (((z2.length : Nat) : Int) - ((1 + r : Nat) : Int)) = ((z2.length - (1 + r) : Nat) : Int) from (wiV _ (by omega)).trans (by omega))), kr (cbV (dfV (show ¬ (((z2.length - (1 + r) : Nat) : Int) > 3) by omega))), kr (cbV (nbV (show (((1 + r : Nat) : Int) : Int) ≠ 1 by omega))), trivial⟩) fun _ a u hE hS => iff hE <| wp_skip ?_
 refine rgp hE hS [pu, pu, pu, rsl 111 112, rt 112, pu, pu, st 101] kp0 (fun _ => kP [(101, some (.blk g 38 ((cs4 (.slice qq.a n1 qq.c) ((strB ((z2.take (1 + r)).drop 1)))))))]) (fun _ => ⟨kr (show 1 ≤ (1 + r) ∧ (1 + r) ≤ z2.length ∧ z2.length ≤ c2 by omega), trivial⟩) fun _ a u hE hS => ?_
 refine wp_seq ?_
 refine rgp hE hS [pu, pu, rsl 111 113, pu, pu] (fun p27 => kn [(64, sv (p27 2).g (p27 2).c (z2.drop (1 + r)).length (c2 - (1 + r))), (65, .int .i64 ((z2.drop (1 + r)).length : Nat)), (66, .int .i64 0)] [6]) (fun p27 => kN [(113, some (.ry (fun x => x < B) ((some ⟨(p27 2).g, (p27 2).c, none⟩)) (z2.drop (1 + r))))] [101, 1, 111]) (fun _ => ⟨kr (show (1 + r) ≤ z2.length ∧ z2.length ≤ z2.length ∧ z2.length ≤ c2 by omega), trivial⟩) fun p27 a u hE hS => ?_
 refine range_up hE hS 66 ((z2.drop (1 + r)).length) (fun _ _ => kd [66, 67, 72] []) (fun _ x => kP []) (fun k (x : Unit) => True) () (by rw [List.length_drop]; omega) (trivial) (fun k x a u hk hI hE hS K hK RK hRK => ?_) fun _ a u hI hE hS => ?_
 ·obtain hk1 := hI
  by_cases hb0 : gi (z2.drop (1 + r)) k = 0
  rotate_left
  ·skip
   refine rgp hE hS [ix, rb 113 k, pu] (fun _ => kp [(9, .int .u8 (gi (z2.drop (1 + r)) k))]) kP0 (fun _ => ⟨kr (show k < (z2.drop (1 + r)).length by omega), kr (show k < (z2.drop (1 + r)).length by omega), trivial⟩) fun _ a u hE hS => ?_
   refine rgp hE hS [pu, pe (.bool true)] (fun _ => kp [(71, .bool true)]) kP0 (fun _ => ⟨kr (cbV (bne_iff_ne.2 hb0)), trivial⟩) fun _ a u hE hS => ift hE ?_
   refine rg hE hS [pu] kp0 kP0 fun _ a u hE hS => ?_
   refine wp_ret (bkR (thR (hRK _ _ _ (fun _ h => by cases h) (fun h => by cases h) (thR ?_))))
   exact ret1 hE Tryz.results41 (.bool false) ⟨_, rfl, hS.grownBy (some g) (fun _ e => by rw [e]), (fun h => by cases h)⟩
  refine rgp hE hS [ix, rb 113 k, pu] (fun _ => kp [(9, .int .u8 (gi (z2.drop (1 + r)) k))]) kP0 (fun _ => ⟨kr (show k < (z2.drop (1 + r)).length by omega), kr (show k < (z2.drop (1 + r)).length by omega), trivial⟩) fun _ a u hE hS => ?_
  refine rgp hE hS [pu, pe (.bool false)] (fun _ => kp [(71, .bool false)]) kP0 (fun _ => ⟨kr (cbV (show (gi (z2.drop (1 + r)) k != 0) = false by rw [hb0]; rfl)), trivial⟩) fun _ a u hE hS => iff hE <| wp_skip ?_
  exact hK () a u _ _ trivial hE hS (by kernel_rfl)
 refine rg hE hS [pu] (fun _ => kp [(6, .bool true)]) kP0 fun _ a u hE hS => ?_
 refine wp_ret ?_
 have hrow := pcR (base := w.heap.size) (e := 22) (size := 1) (v := .slice qq.a n1 qq.c) (n := n1) (xs := xs1) hS 1
 have hblk := pcB (g := g) (T := 38) (cs := cs4 (.slice qq.a n1 qq.c) (strB ((z2.take (1 + r)).drop 1))) hS 101
 have hrow2 : InRows u w.heap.size u.heap.size 1 qq.a (parts4 srcB 4 n1 y).length ((parts4 srcB 4 n1 y).flatMap u32c) := by rw [parts4_len, ← h2]; exact InRows.of_own hrow
 exact ret1 hE Tryz.results41 (.bool true) ⟨_, rfl, hS.grownBy (some g) (fun _ e => by rw [e]), fun _ => ⟨{ pNul with kind := 4, sources := ⟨qq.a, qq.c, parts4 srcB 4 n1 y⟩, text := (strB ((z2.take (1 + r)).drop 1)) }, (by have e : ({ pNul with kind := 4, sources := ⟨qq.a, qq.c, parts4 srcB 4 n1 y⟩, text := (strB ((z2.take (1 + r)).drop 1)) } : Pkt).cells = cs4 (.slice qq.a n1 qq.c) (strB ((z2.take (1 + r)).drop 1)) := (by unfold cs4 Pkt.cells Sl.val; simp only [parts4_len]; rfl); rw [e]; exact hblk), ⟨⟨.nil, .nil, (fun x hx => by cases hx), .nil, .nil, .nil, .nil, (fun x hx => by cases hx), .nil, .nil⟩, hrow2, (fun x hx => by cases hx), rfl, rfl⟩, qq.a, qq.c, (strB ((z2.take (1 + r)).drop 1)), rfl, by omega, by rw [← h3]; exact .inr ⟨r, hr0, by omega, rfl⟩⟩⟩

end Go.Proofs.YtmmfpgoodfgkbaaGreatDoor
