/-
  THE WALKS of the package's writing of a packet. Condition: what it holds can be written; no part is too long.
-/
import Derived.Test.YtmmfpgoodfgkbaaGreatMar
import Derived.Test.YtmmfpgoodfgkbaaGreatLens
import Derived.Test.YtmmfpgoodfgkbaaGreatAppZ
import Derived.Test.YtmmfpgoodfgkbaaGreatForms
namespace Go.Proofs.YtmmfpgoodfgkbaaGreat
open Go Go.RowKit
set_option linter.unusedVariables false
set_option linter.unusedSimpArgs false

set_option maxHeartbeats 4000000 in
set_option maxRecDepth 100000 in
theorem mar_1 (s n t pc oc : Int) (A A2 : Option Addr) (c c2 : Nat) (l : List Rep) (e : List Int) (w : World) (hr : Reads w w.heap.size 7 A l.length (repsC l)) (hx : Reads w w.heap.size 1 A2 e.length (u8s e)) (hl : l.length ≤ 31) (hok : ∀ x ∈ l, x.Ok ∧ x.lost < 16777216) (he : e.length ≤ 1048576) (h4 : e.length % 4 = 0) (hs : 0 ≤ s ∧ s < 4294967296) (hn : 0 ≤ n ∧ n < 18446744073709551616) (ht : 0 ≤ t ∧ t < 4294967296) (hpc : 0 ≤ pc ∧ pc < 4294967296) (hoc : 0 ≤ oc ∧ oc < 4294967296) :
    Calls Tryz.prog 99 #[.agg #[.int .u32 s, .int .u64 n, .int .u32 t, .int .u32 pc, .int .u32 oc, .slice A (l.length : Nat) c, .slice A2 (e.length : Nat) c2]] w (MarOut w (hdrB ((l.length : Int) % 256) 200 ((((4 + (be32 s ++ be64 n ++ be32 t ++ be32 pc ++ be32 oc ++ l.flatMap Rep.bytes ++ e).length : Nat) : Int) / 4 - 1) % 65536) ++ (be32 s ++ be64 n ++ be32 t ++ be32 pc ++ be32 oc ++ l.flatMap Rep.bytes ++ e))) := by
  obtain ⟨N, hN⟩ : ∃ N, N = 28 + 24 * l.length + e.length + pad4 e.length := ⟨_, rfl⟩
  have hp : pad4 e.length = 0 := by unfold pad4; omega
  have hfl := fl_len l Rep.bytes 24 (fun x => x.bytes_len)
  have hBN : 4 + (be32 s ++ be64 n ++ be32 t ++ be32 pc ++ be32 oc ++ l.flatMap Rep.bytes ++ e).length = N := by simp only [List.length_append, be32_len, be64_len, hfl]; omega
  rw [hBN]
  refine go_in Tryz.func99 rfl Tryz.ntmps99 [.agg #[.int .u32 s, .int .u64 n, .int .u32 t, .int .u32 pc, .int .u32 oc, .slice A (l.length : Nat) c, .slice A2 (e.length : Nat) c2]] fun a hE => ?_
  have hS := stp_in w
  refine rg hE hS [nw 101, pu, pu] (fun p1 => kp [(1, pt (p1 0).g 0), (2, .slice none 0 0), (3, .nilIface)]) (fun p1 => kP [(101, some (.blk (p1 0).g 155 #[.int .u32 s, .int .u64 n, .int .u32 t, .int .u32 pc, .int .u32 oc, .slice A (l.length : Nat) c, .slice A2 (e.length : Nat) c2]))]) fun p1 a u hE hS => ?_
  refine rgp hE hS [cu 100 [101] [] (fun _ => .int .i64 (N : Nat)) (fun _ => []), mk 1, pu] (fun p2 => kp [(4, sv (p2 1).g 0 N N)]) (fun p2 => kP [(1, some (.buf (p2 1).g (List.replicate N 0)))]) (fun _ => ⟨kr (cu_val (P := Tryz.prog) (w0 := w) 101 (p1 0).g 155 #[.int .u32 s, .int .u64 n, .int .u32 t, .int .u32 pc, .int .u32 oc, .slice A (l.length : Nat) c, .slice A2 (e.length : Nat) c2] 100 #[.pointer (some ⟨(p1 0).g, 0, none⟩)] (.int .i64 (N : Nat)) (fun w4 hB hz hb => by rw [hN]; exact srsize_any (p1 0).g w4 A A2 l c e.length c2 _ _ _ _ _ _ hb ((Reads.below hr hB).more hz) (by omega) (by omega))), kr (show N ≤ 140737488355328 by omega), trivial⟩) fun p2 a u hE hS => ?_
  rw [pz_start N (by omega)] at hS
  refine rgp hE hS [pu, sc, pu] (fun _ => kp [(5, sv (p2 1).g 4 (N - 4) (N - 4))]) (fun _ => kP []) (fun _ => ⟨kr (show 4 ≤ N ∧ N ≤ N ∧ (4 < N ∨ 4 = 0) by omega), trivial⟩) fun _ a u hE hS => ?_
  refine dgp hE hS [pu, sc, pu, ld 101, cl put32c [] [1]] (fun _ => kp []) (fun _ => kP [(1, some (.buf (p2 1).g (put (pz [0, 0, 0, 0] N) 4 (be32 s))))]) (fun _ => ⟨kr (show 0 ≤ (N - 4) ∧ (N - 4) ≤ (N - 4) ∧ (0 < (N - 4) ∨ 0 = 0) by omega), kr (show 4 ≤ N - 4 ∧ 4 + 4 ≤ (pz [0, 0, 0, 0] N).length ∧ 0 ≤ s ∧ s < 4294967296 from ⟨by omega, by rw [pz_len _ _ (by simp only [List.length_append, List.length_cons, List.length_nil, be32_len, be64_len, be16_len]; omega)]; omega, hs.1, hs.2⟩), trivial⟩) fun _ a u hE hS => ?_
  rw [put_pz ([0, 0, 0, 0]) (be32 s) N (4) (rfl) (by simp only [List.length_append, List.length_cons, List.length_nil, be32_len, be64_len, be16_len]; omega)] at hS
  refine dgp hE hS [pu, sc, pu, ld 101, cu 103 [] [1] (fun _ => .tuple #[]) (fun _ => [some (.buf (p2 1).g (put (pz ([0, 0, 0, 0] ++ be32 s) N) 8 (be64 n)))])] (fun _ => kp []) (fun _ => kP [(1, some (.buf (p2 1).g (put (pz ([0, 0, 0, 0] ++ be32 s) N) 8 (be64 n))))]) (fun _ => ⟨kr (show 4 ≤ (N - 4) ∧ (N - 4) ≤ (N - 4) ∧ (4 < (N - 4) ∨ 4 = 0) by omega), kr (cu_put (P := Tryz.prog) (w0 := w) 1 (p2 1).g (pz ([0, 0, 0, 0] ++ be32 s) N) (put (pz ([0, 0, 0, 0] ++ be32 s) N) 8 (be64 n)) 103 #[.slice (some ⟨(p2 1).g, 8, none⟩) (N - 8) (N - 8), .int .u64 n] (fun w4 hb => put64_any (p2 1).g 8 (N - 8) (N - 8) _ n w4 hb (by omega) (Nat.le_refl _) (by rw [pz_len _ _ (by simp only [List.length_append, List.length_cons, List.length_nil, be32_len, be64_len, be16_len]; omega)]; omega) hn.1 hn.2)), trivial⟩) fun _ a u hE hS => ?_
  rw [put_pz ([0, 0, 0, 0] ++ be32 s) (be64 n) N (8) (rfl) (by simp only [List.length_append, List.length_cons, List.length_nil, be32_len, be64_len, be16_len]; omega)] at hS
  refine dgp hE hS [pu, sc, pu, ld 101, cl put32c [] [1]] (fun _ => kp []) (fun _ => kP [(1, some (.buf (p2 1).g (put (pz ([0, 0, 0, 0] ++ be32 s ++ be64 n) N) 16 (be32 t))))]) (fun _ => ⟨kr (show 12 ≤ (N - 4) ∧ (N - 4) ≤ (N - 4) ∧ (12 < (N - 4) ∨ 12 = 0) by omega), kr (show 4 ≤ N - 16 ∧ 16 + 4 ≤ (pz ([0, 0, 0, 0] ++ be32 s ++ be64 n) N).length ∧ 0 ≤ t ∧ t < 4294967296 from ⟨by omega, by rw [pz_len _ _ (by simp only [List.length_append, List.length_cons, List.length_nil, be32_len, be64_len, be16_len]; omega)]; omega, ht.1, ht.2⟩), trivial⟩) fun _ a u hE hS => ?_
  rw [put_pz ([0, 0, 0, 0] ++ be32 s ++ be64 n) (be32 t) N (16) (rfl) (by simp only [List.length_append, List.length_cons, List.length_nil, be32_len, be64_len, be16_len]; omega)] at hS
  refine dgp hE hS [pu, sc, pu, ld 101, cl put32c [] [1]] (fun _ => kp []) (fun _ => kP [(1, some (.buf (p2 1).g (put (pz ([0, 0, 0, 0] ++ be32 s ++ be64 n ++ be32 t) N) 20 (be32 pc))))]) (fun _ => ⟨kr (show 16 ≤ (N - 4) ∧ (N - 4) ≤ (N - 4) ∧ (16 < (N - 4) ∨ 16 = 0) by omega), kr (show 4 ≤ N - 20 ∧ 20 + 4 ≤ (pz ([0, 0, 0, 0] ++ be32 s ++ be64 n ++ be32 t) N).length ∧ 0 ≤ pc ∧ pc < 4294967296 from ⟨by omega, by rw [pz_len _ _ (by simp only [List.length_append, List.length_cons, List.length_nil, be32_len, be64_len, be16_len]; omega)]; omega, hpc.1, hpc.2⟩), trivial⟩) fun _ a u hE hS => ?_
  rw [put_pz ([0, 0, 0, 0] ++ be32 s ++ be64 n ++ be32 t) (be32 pc) N (20) (rfl) (by simp only [List.length_append, List.length_cons, List.length_nil, be32_len, be64_len, be16_len]; omega)] at hS
  refine dgp hE hS [pu, sc, pu, ld 101, cl put32c [] [1]] (fun _ => kp []) (fun _ => kP [(1, some (.buf (p2 1).g (put (pz ([0, 0, 0, 0] ++ be32 s ++ be64 n ++ be32 t ++ be32 pc) N) 24 (be32 oc))))]) (fun _ => ⟨kr (show 20 ≤ (N - 4) ∧ (N - 4) ≤ (N - 4) ∧ (20 < (N - 4) ∨ 20 = 0) by omega), kr (show 4 ≤ N - 24 ∧ 24 + 4 ≤ (pz ([0, 0, 0, 0] ++ be32 s ++ be64 n ++ be32 t ++ be32 pc) N).length ∧ 0 ≤ oc ∧ oc < 4294967296 from ⟨by omega, by rw [pz_len _ _ (by simp only [List.length_append, List.length_cons, List.length_nil, be32_len, be64_len, be16_len]; omega)]; omega, hoc.1, hoc.2⟩), trivial⟩) fun _ a u hE hS => ?_
  rw [put_pz ([0, 0, 0, 0] ++ be32 s ++ be64 n ++ be32 t ++ be32 pc) (be32 oc) N (24) (rfl) (by simp only [List.length_append, List.length_cons, List.length_nil, be32_len, be64_len, be16_len]; omega)] at hS
  refine rg hE hS [pu] (fun _ => kp [(6, .int .i64 24)]) (fun _ => kP []) fun _ a u hE hS => ?_
  refine wp_seq ?_
  refine rg hE hS [pu, ld 101, pu, pu] (fun _ => kn [(43, .slice A (l.length : Nat) c), (44, .int .i64 (l.length : Nat)), (45, .int .i64 0)] [1, 2, 3, 4, 5, 6]) (fun _ => kN [] [1, 101]) fun _ a u hE hS => ?_
  refine range_up hE hS 45 l.length (fun k x => kd [45, 46, 64] [(6, .int .i64 (24 + 24 * k : Nat))]) (fun _ x => kP [(1, some (.buf (p2 1).g (pz x.y N)))]) (fun k (x : Lx (List Int)) => x.n = 0 ∧ x.y = [0, 0, 0, 0] ++ be32 s ++ be64 n ++ be32 t ++ be32 pc ++ be32 oc ++ (l.take k).flatMap Rep.bytes) ⟨pay0, 0, [], [0, 0, 0, 0] ++ be32 s ++ be64 n ++ be32 t ++ be32 pc ++ be32 oc⟩ (by omega) (by simp) (fun k x a u hk hI hE hS K hK RK hRK => ?_) fun ⟨_, n1, _, y1⟩ a u hI hE hS => ?_
  · obtain ⟨hk1, hk2⟩ := hI
    obtain ⟨q0, n0, xs0, y⟩ := x
    simp only at hk1 hk2
    have hr1 := hok _ (List.getElem_mem hk)
    have hS := stp_el hS 90 (el_at hr (fun _ _ => rfl) rfl (fun g hg => ⟨hg, id⟩) k hk (by omega))
    generalize hrk : l[k] = r at hS hr1
    have hyl : y.length = 28 + 24 * k := by rw [hk2]; have := fl_len (l.take k) Rep.bytes 24 (fun x => x.bytes_len); simp only [List.length_take] at this; simp only [List.length_append, List.length_cons, List.length_nil, be32_len, be64_len]; omega
    have hov : IntKind.i64.wrap (((24 + 24 * k : Nat) : Int) + 24) = ((24 + 24 * (k + 1) : Nat) : Int) := by rw [IntWalk.i64_in _ (by omega)]; omega
    refine rgp hE hS [ie 90, le 90 0, nw 91, st 91] (fun p11 => kp [(8, pt (p11 2).g 0)]) (fun p11 => kP [(91, some (.blk (p11 2).g 221 (Rep.cells r).toArray))]) (fun _ => ⟨kr (show k < l.length from hk), trivial⟩) fun p11 a u hE hS => ?_
    refine rgp hE hS [ld 91, cu 104 [] [94] (fun y => .tuple #[.slice (some ⟨y.g, 0, none⟩) 24 24, .nilIface]) (fun y => [some (.buf y.g r.bytes)]), pu, pu, pu, pu, pu] (fun p12 => kp [(9, sv (p12 1).g 0 24 24), (10, .nilIface)]) (fun p12 => kP [(94, some (.buf (p12 1).g r.bytes))]) (fun _ => ⟨kr (cu_buf (P := Tryz.prog) (w0 := w) (ps := [none]) 94 104 #[.agg (Rep.cells r).toArray] (fun g => .tuple #[.slice (some ⟨g, 0, none⟩) 24 24, .nilIface]) (r.bytes) (fun w4 hB hz => repMarshal_any r w4 hr1.1 hr1.2)), trivial⟩) fun p12 a u hE hS => ?_
    refine wp_seq ?_
    refine rg hE hS [pu, pu] (fun _ => kn [(55, .bool false)] [1, 2, 3, 4, 5, 6, 43, 44, 45, 9, 10]) (fun _ => kN [] [94, 90, 1, 101]) fun _ a u hE hS => ?_
    refine iff hE ?_
    refine wp_skip ?_
    refine rgp hE hS [pu, pu, sc, pu, cp .buf 1 94] (fun _ => kp []) (fun _ => kP [(1, some (.buf (p2 1).g (put (pz y N) (4 + (24 + 24 * k) * 1) r.bytes)))]) (fun _ => ⟨kr (show 24 + 24 * k ≤ (N - 4) ∧ (N - 4) ≤ (N - 4) ∧ (24 + 24 * k < (N - 4) ∨ 24 + 24 * k = 0) by omega), kr (show r.bytes.length ≤ N - 4 - (24 + 24 * k) ∧ 4 + (24 + 24 * k) * 1 + r.bytes.length ≤ (pz y N).length from by rw [pz_len _ _ (by omega), Rep.bytes_len]; omega), trivial⟩) fun _ a u hE hS => ?_
    rw [put_pz y r.bytes N (4 + (24 + 24 * k) * 1) (by omega) (by rw [Rep.bytes_len]; omega)] at hS
    refine rgE hE hS [pu, pe (.int .i64 (24 + 24 * (k + 1) : Nat)), pu] (fun _ => kn [(6, .int .i64 (24 + 24 * (k + 1) : Nat))] [1, 2, 3, 4, 5, 43, 44, 45]) (fun _ => kN [] [1, 90, 101]) (fun _ => ⟨kr (congrArg (Value.int .i64) hov), trivial⟩) fun _ a u hE hS => ?_
    exact hK ⟨pay0, 0, [], y ++ r.bytes⟩ a u _ _ ⟨rfl, by show y ++ r.bytes = _; rw [hk2, List.take_succ_eq_append_getElem hk, List.flatMap_append, hrk]; simp⟩ hE hS (by kernel_rfl)
  simp only [List.take_length] at hI
  obtain ⟨h1, h2⟩ := hI
  subst h1 h2
  refine wp_seq ?_
  refine rgp hE hS [pu, ld 101, pu, pe (.bool false)] (fun _ => kp [(68, .bool false)]) (fun _ => kP []) (fun _ => ⟨kr (congrArg Value.bool (decide_eq_false (show ¬ ((l.length : Int) > 31) by omega))), trivial⟩) fun _ a u hE hS => ?_
  refine iff hE ?_
  refine wp_skip ?_
  have hS := stp_rd hS 93 hx (fun g hg => ⟨hg, id⟩)
  refine dgp hE hS [pu, pu, sx, pu, ld 101, cp .rd 1 93] (fun _ => kp []) (fun _ => kP [(1, some (.buf (p2 1).g (put (pz ([0, 0, 0, 0] ++ be32 s ++ be64 n ++ be32 t ++ be32 pc ++ be32 oc ++ l.flatMap Rep.bytes) N) (bif Nat.beq (N - 4) (24 + 24 * l.length) then 4 else 4 + (24 + 24 * l.length) * 1) e)))]) (fun _ => ⟨kr (show 24 + 24 * l.length ≤ (N - 4) ∧ (N - 4) ≤ (N - 4) by omega), kr (show e.length ≤ N - 4 - (24 + 24 * l.length) ∧ (bif Nat.beq (N - 4) (24 + 24 * l.length) then 4 else 4 + (24 + 24 * l.length) * 1) + e.length ≤ (pz ([0, 0, 0, 0] ++ be32 s ++ be64 n ++ be32 t ++ be32 pc ++ be32 oc ++ l.flatMap Rep.bytes) N).length from by rw [pz_len _ _ (by simp only [List.length_append, List.length_cons, List.length_nil, be32_len, be64_len, hfl]; omega)]; cases Nat.beq (N - 4) (24 + 24 * l.length) <;> simp only [cond_true, cond_false] <;> omega), trivial⟩) fun _ a u hE hS => ?_
  rw [put_pzE ([0, 0, 0, 0] ++ be32 s ++ be64 n ++ be32 t ++ be32 pc ++ be32 oc ++ l.flatMap Rep.bytes) e N (bif Nat.beq (N - 4) (24 + 24 * l.length) then 4 else 4 + (24 + 24 * l.length) * 1) (by cases hq : Nat.beq (N - 4) (24 + 24 * l.length) with
    | true => exact .inr (by have := Nat.eq_of_beq_eq_true hq; omega)
    | false => exact .inl (by simp only [cond_false, List.length_append, List.length_cons, List.length_nil, be32_len, be64_len, hfl]; omega)) (by simp only [List.length_append, List.length_cons, List.length_nil, be32_len, be64_len, hfl]; omega)] at hS
  refine rgp hE hS [cu 105 [101] [] (fun _ => .agg #[.bool false, .int .u8 (((l.length : Int) % 256)), .int .u8 200, .int .u16 ((((N : Nat) : Int) / 4 - 1) % 65536)]) (fun _ => []), cu 106 [] [95] (fun y => .tuple #[.slice (some ⟨y.g, 0, none⟩) 4 4, .nilIface]) (fun y => [some (.buf y.g (hdrB (((l.length : Int) % 256)) 200 ((((N : Nat) : Int) / 4 - 1) % 65536)))]), pu, pu, pu, pu, pu] (fun p18 => kp [(11, sv (p18 1).g 0 4 4), (12, .nilIface)]) (fun p18 => kP [(95, some (.buf (p18 1).g (hdrB (((l.length : Int) % 256)) 200 ((((N : Nat) : Int) / 4 - 1) % 65536))))]) (fun _ => ⟨kr (cu_val (P := Tryz.prog) (w0 := w) 101 (p1 0).g 155 #[.int .u32 s, .int .u64 n, .int .u32 t, .int .u32 pc, .int .u32 oc, .slice A (l.length : Nat) c, .slice A2 (e.length : Nat) c2] 105 #[.pointer (some ⟨(p1 0).g, 0, none⟩)] (.agg #[.bool false, .int .u8 (((l.length : Int) % 256)), .int .u8 200, .int .u16 ((((N : Nat) : Int) / 4 - 1) % 65536)]) (fun w4 hB hz hb => by rw [hN]; exact srhdr_any (p1 0).g w4 _ A A2 l c e.length c2 _ _ _ _ _ hb ((Reads.below hr hB).more hz) (by omega) (by omega))), kr (cu_buf (P := Tryz.prog) (w0 := w) (ps := [none]) 95 106 #[.agg #[.bool false, .int .u8 (((l.length : Int) % 256)), .int .u8 200, .int .u16 ((((N : Nat) : Int) / 4 - 1) % 65536)]] (fun g => .tuple #[.slice (some ⟨g, 0, none⟩) 4 4, .nilIface]) (hdrB (((l.length : Int) % 256)) 200 ((((N : Nat) : Int) / 4 - 1) % 65536)) (fun w4 hB hz => hdrMar_any _ _ _ w4 (by omega) (by omega) (by omega) (by omega))), trivial⟩) fun p18 a u hE hS => ?_
  refine wp_seq ?_
  refine rg hE hS [pu, pu] (fun _ => kn [(82, .bool false)] [2, 3, 4, 11, 12]) (fun _ => kN [] [95, 1]) fun _ a u hE hS => ?_
  refine iff hE ?_
  refine wp_skip ?_
  refine rgp hE hS [pu, pu, cp .buf 1 95] (fun _ => kp []) (fun _ => kP [(1, some (.buf (p2 1).g (put (pz ([0, 0, 0, 0] ++ be32 s ++ be64 n ++ be32 t ++ be32 pc ++ be32 oc ++ l.flatMap Rep.bytes ++ e) N) 0 (hdrB (((l.length : Int) % 256)) 200 ((((N : Nat) : Int) / 4 - 1) % 65536)))))]) (fun _ => ⟨kr (show (hdrB (((l.length : Int) % 256)) 200 ((((N : Nat) : Int) / 4 - 1) % 65536)).length ≤ N ∧ 0 + (hdrB (((l.length : Int) % 256)) 200 ((((N : Nat) : Int) / 4 - 1) % 65536)).length ≤ (pz ([0, 0, 0, 0] ++ be32 s ++ be64 n ++ be32 t ++ be32 pc ++ be32 oc ++ l.flatMap Rep.bytes ++ e) N).length from by rw [pz_len _ _ (by simp only [List.length_append, List.length_cons, List.length_nil, be32_len, be64_len, be16_len, hfl]; omega), show (hdrB (((l.length : Int) % 256)) 200 ((((N : Nat) : Int) / 4 - 1) % 65536)).length = 4 from rfl]; omega), trivial⟩) fun _ a u hE hS => ?_
  rw [put_head ([0, 0, 0, 0] ++ be32 s ++ be64 n ++ be32 t ++ be32 pc ++ be32 oc ++ l.flatMap Rep.bytes ++ e) (be32 s ++ be64 n ++ be32 t ++ be32 pc ++ be32 oc ++ l.flatMap Rep.bytes ++ e) (hdrB (((l.length : Int) % 256)) 200 ((((N : Nat) : Int) / 4 - 1) % 65536)) N (by simp only [List.append_assoc]) rfl, pz_full _ _ (by simp only [hdrB, List.length_append, List.length_cons, List.length_nil, be32_len, be64_len, be16_len, hfl]; omega)] at hS
  refine rg hE hS [pu, pu, pu] (fun _ => kn [(2, sv (p2 1).g 0 N N)] [3]) (fun _ => kN [] [1]) fun _ a u hE hS => ?_
  refine wp_ret ?_
  exact ret2 hE Tryz.results99 (sv (p2 1).g 0 N N) .nilIface (MarOut.buf (bs := hdrB (((l.length : Int) % 256)) 200 ((((N : Nat) : Int) / 4 - 1) % 65536) ++ (be32 s ++ be64 n ++ be32 t ++ be32 pc ++ be32 oc ++ l.flatMap Rep.bytes ++ e)) (pcF hS 1) (pcG (g := (p2 1).g) (bs := hdrB (((l.length : Int) % 256)) 200 ((((N : Nat) : Int) / 4 - 1) % 65536) ++ (be32 s ++ be64 n ++ be32 t ++ be32 pc ++ be32 oc ++ l.flatMap Rep.bytes ++ e)) hS 1) hS.below (by simp only [hdrB, List.length_append, List.length_cons, List.length_nil, be32_len, be64_len, be16_len, hfl]; omega) (by simp only [hdrB, List.length_append, List.length_cons, List.length_nil, be32_len, be64_len, be16_len, hfl]; omega))
set_option maxHeartbeats 4000000 in
set_option maxRecDepth 100000 in
theorem mar_2 (s : Int) (A A2 : Option Addr) (c c2 : Nat) (l : List Rep) (e : List Int) (w : World) (hr : Reads w w.heap.size 7 A l.length (repsC l)) (hx : Reads w w.heap.size 1 A2 e.length (u8s e)) (hl : l.length ≤ 31) (hok : ∀ x ∈ l, x.Ok ∧ x.lost < 16777216) (he : e.length ≤ 1048576) (h4 : e.length % 4 = 0) (hs : 0 ≤ s ∧ s < 4294967296) :
    Calls Tryz.prog 116 #[.agg #[.int .u32 s, .slice A (l.length : Nat) c, .slice A2 (e.length : Nat) c2]] w (MarOut w (hdrB ((l.length : Int) % 256) 201 ((((4 + (be32 s ++ l.flatMap Rep.bytes ++ e).length : Nat) : Int) / 4 - 1) % 65536) ++ (be32 s ++ l.flatMap Rep.bytes ++ e))) := by
  obtain ⟨N, hN⟩ : ∃ N, N = 8 + 24 * l.length + e.length + pad4 e.length := ⟨_, rfl⟩
  have hp : pad4 e.length = 0 := by unfold pad4; omega
  have hfl := fl_len l Rep.bytes 24 (fun x => x.bytes_len)
  have hBN : 4 + (be32 s ++ l.flatMap Rep.bytes ++ e).length = N := by simp only [List.length_append, be32_len, hfl]; omega
  rw [hBN]
  refine go_in Tryz.func116 rfl Tryz.ntmps116 [.agg #[.int .u32 s, .slice A (l.length : Nat) c, .slice A2 (e.length : Nat) c2]] fun a hE => ?_
  have hS := stp_in w
  refine rg hE hS [nw 101, pu, pu] (fun p1 => kp [(1, pt (p1 0).g 0), (2, .slice none 0 0), (3, .nilIface)]) (fun p1 => kP [(101, some (.blk (p1 0).g 158 #[.int .u32 s, .slice A (l.length : Nat) c, .slice A2 (e.length : Nat) c2]))]) fun p1 a u hE hS => ?_
  refine rgp hE hS [cu 117 [101] [] (fun _ => .int .i64 (N : Nat)) (fun _ => []), mk 1, pu] (fun p2 => kp [(4, sv (p2 1).g 0 N N)]) (fun p2 => kP [(1, some (.buf (p2 1).g (List.replicate N 0)))]) (fun _ => ⟨kr (cu_val (P := Tryz.prog) (w0 := w) 101 (p1 0).g 158 #[.int .u32 s, .slice A (l.length : Nat) c, .slice A2 (e.length : Nat) c2] 117 #[.pointer (some ⟨(p1 0).g, 0, none⟩)] (.int .i64 (N : Nat)) (fun w4 hB hz hb => by rw [hN]; exact rrsize_any (p1 0).g w4 A A2 l c e.length c2 _ _ hb ((Reads.below hr hB).more hz) (by omega) (by omega))), kr (show N ≤ 140737488355328 by omega), trivial⟩) fun p2 a u hE hS => ?_
  rw [pz_start N (by omega)] at hS
  refine rgp hE hS [pu, sc, pu] (fun _ => kp [(5, sv (p2 1).g 4 (N - 4) (N - 4))]) (fun _ => kP []) (fun _ => ⟨kr (show 4 ≤ N ∧ N ≤ N ∧ (4 < N ∨ 4 = 0) by omega), trivial⟩) fun _ a u hE hS => ?_
  refine rgp hE hS [pu, pu, ld 101, cl put32c [] [1]] (fun _ => kp []) (fun _ => kP [(1, some (.buf (p2 1).g (put (pz [0, 0, 0, 0] N) 4 (be32 s))))]) (fun _ => ⟨kr (show 4 ≤ N - 4 ∧ 4 + 4 ≤ (pz [0, 0, 0, 0] N).length ∧ 0 ≤ s ∧ s < 4294967296 from ⟨by omega, by rw [pz_len _ _ (by simp only [List.length_append, List.length_cons, List.length_nil, be32_len, be64_len, be16_len]; omega)]; omega, hs.1, hs.2⟩), trivial⟩) fun _ a u hE hS => ?_
  rw [put_pz ([0, 0, 0, 0]) (be32 s) N (4) (rfl) (by simp only [List.length_append, List.length_cons, List.length_nil, be32_len, be64_len, be16_len]; omega)] at hS
  refine wp_seq ?_
  refine rg hE hS [pu, ld 101, pu, pu] (fun _ => kn [(22, .slice A (l.length : Nat) c), (23, .int .i64 (l.length : Nat)), (24, .int .i64 0)] [1, 2, 3, 4, 5]) (fun _ => kN [] [1, 101]) fun _ a u hE hS => ?_
  refine range_up hE hS 24 l.length (fun _ _ => kd [24, 25, 45] []) (fun _ x => kP [(1, some (.buf (p2 1).g (pz x.y N)))]) (fun k (x : Lx (List Int)) => x.n = 0 ∧ x.y = [0, 0, 0, 0] ++ be32 s ++ (l.take k).flatMap Rep.bytes) ⟨pay0, 0, [], [0, 0, 0, 0] ++ be32 s⟩ (by omega) (by simp) (fun k x a u hk hI hE hS K hK RK hRK => ?_) fun ⟨_, n1, _, y1⟩ a u hI hE hS => ?_
  · obtain ⟨hk1, hk2⟩ := hI
    obtain ⟨q0, n0, xs0, y⟩ := x
    simp only at hk1 hk2
    have hr1 := hok _ (List.getElem_mem hk)
    have hS := stp_el hS 90 (el_at hr (fun _ _ => rfl) rfl (fun g hg => ⟨hg, id⟩) k hk (by omega))
    generalize hrk : l[k] = r at hS hr1
    have hyl : y.length = 8 + 24 * k := by rw [hk2]; have := fl_len (l.take k) (Rep.bytes) 24 (fun x => rfl); simp only [List.length_take] at this; simp only [List.length_append, List.length_cons, List.length_nil, be32_len, be64_len, be16_len]; omega
    refine rgp hE hS [pu, ie 90, le 90 0, nw 91, pu, st 91] (fun p6 => kp [(7, pt (p6 3).g 0), (6, .int .i64 (k : Nat))]) (fun p6 => kP [(91, some (.blk (p6 3).g 221 (Rep.cells r).toArray))]) (fun _ => ⟨kr (show k < l.length from hk), trivial⟩) fun p6 a u hE hS => ?_
    refine rgp hE hS [ld 91, cu 104 [] [94] (fun y => .tuple #[.slice (some ⟨y.g, 0, none⟩) 24 24, .nilIface]) (fun y => [some (.buf y.g r.bytes)]), pu, pu, pu, pu, pu] (fun p7 => kp [(8, sv (p7 1).g 0 24 24), (9, .nilIface)]) (fun p7 => kP [(94, some (.buf (p7 1).g r.bytes))]) (fun _ => ⟨kr (cu_buf (P := Tryz.prog) (w0 := w) (ps := [none]) 94 104 #[.agg (Rep.cells r).toArray] (fun g => .tuple #[.slice (some ⟨g, 0, none⟩) 24 24, .nilIface]) (r.bytes) (fun w4 hB hz => repMarshal_any r w4 hr1.1 hr1.2)), trivial⟩) fun p7 a u hE hS => ?_
    refine wp_seq ?_
    refine rg hE hS [pu, pu] (fun _ => kn [(35, .bool false)] [1, 2, 3, 4, 5, 22, 23, 24, 6, 8, 9]) (fun _ => kN [] [94, 90, 1, 101]) fun _ a u hE hS => ?_
    refine iff hE ?_
    refine wp_skip ?_
    refine rgp hE hS [pu, pe (.int .i64 ((24 * k : Nat) : Int)), pe (.int .i64 ((4 + 24 * k : Nat) : Int)), pu] (fun _ => kp [(10, .int .i64 (4 + 24 * k : Nat))]) (fun _ => kP []) (fun _ => ⟨kr (congrArg (Value.int .i64) (show IntKind.i64.wrap ((24 : Int) * ((k : Nat) : Int)) = ((24 * k : Nat) : Int) from by rw [IntWalk.i64_in _ (by omega)]; omega)), kr (congrArg (Value.int .i64) (show IntKind.i64.wrap ((4 : Int) + ((24 * k : Nat) : Int)) = ((4 + 24 * k : Nat) : Int) from by rw [IntWalk.i64_in _ (by omega)]; omega)), trivial⟩) fun _ a u hE hS => ?_
    refine rgE hE hS [pu, pu, sc, pu, cp .buf 1 94] (fun _ => kp []) (fun _ => kP [(1, some (.buf (p2 1).g (put (pz y N) (4 + (4 + 24 * k) * 1) r.bytes)))]) (fun _ => ⟨kr (show 4 + 24 * k ≤ (N - 4) ∧ (N - 4) ≤ (N - 4) ∧ (4 + 24 * k < (N - 4) ∨ 4 + 24 * k = 0) by omega), kr (show r.bytes.length ≤ N - 4 - (4 + 24 * k) ∧ 4 + (4 + 24 * k) * 1 + r.bytes.length ≤ (pz y N).length from by rw [pz_len _ _ (by omega), Rep.bytes_len]; omega), trivial⟩) fun _ a u hE hS => ?_
    rw [put_pz (y) (r.bytes) N (4 + (4 + 24 * k) * 1) (by omega) (by rw [Rep.bytes_len]; omega)] at hS
    exact hK ⟨pay0, 0, [], y ++ r.bytes⟩ a u _ _ ⟨rfl, by show y ++ r.bytes = _; rw [hk2, List.take_succ_eq_append_getElem hk, List.flatMap_append, hrk]; simp⟩ hE hS (by kernel_rfl)
  simp only [List.take_length] at hI
  obtain ⟨h1, h2⟩ := hI
  subst h1 h2
  refine wp_seq ?_
  refine rgp hE hS [pu, ld 101, pu, pe (.bool false)] (fun _ => kp [(49, .bool false)]) (fun _ => kP []) (fun _ => ⟨kr (congrArg Value.bool (decide_eq_false (show ¬ ((l.length : Int) > 31) by omega))), trivial⟩) fun _ a u hE hS => ?_
  refine iff hE ?_
  refine wp_skip ?_
  have hS := stp_rd hS 93 hx (fun g hg => ⟨hg, id⟩)
  refine dgp hE hS [pu, pu, ld 101, pu, pe (.int .i64 ((24 * l.length : Nat) : Int)), pe (.int .i64 ((4 + 24 * l.length : Nat) : Int)), sx, pu, ld 101, cp .rd 1 93] (fun _ => kp []) (fun _ => kP [(1, some (.buf (p2 1).g (put (pz ([0, 0, 0, 0] ++ be32 s ++ l.flatMap Rep.bytes) N) (bif Nat.beq (N - 4) (4 + 24 * l.length) then 4 else 4 + (4 + 24 * l.length) * 1) e)))]) (fun _ => ⟨kr (congrArg (Value.int .i64) (show IntKind.i64.wrap ((24 : Int) * ((l.length : Nat) : Int)) = ((24 * l.length : Nat) : Int) from by rw [IntWalk.i64_in _ (by omega)]; omega)), kr (congrArg (Value.int .i64) (show IntKind.i64.wrap ((4 : Int) + ((24 * l.length : Nat) : Int)) = ((4 + 24 * l.length : Nat) : Int) from by rw [IntWalk.i64_in _ (by omega)]; omega)), kr (show 4 + 24 * l.length ≤ (N - 4) ∧ (N - 4) ≤ (N - 4) by omega), kr (show e.length ≤ N - 4 - (4 + 24 * l.length) ∧ (bif Nat.beq (N - 4) (4 + 24 * l.length) then 4 else 4 + (4 + 24 * l.length) * 1) + e.length ≤ (pz ([0, 0, 0, 0] ++ be32 s ++ l.flatMap Rep.bytes) N).length from by rw [pz_len _ _ (by simp only [List.length_append, List.length_cons, List.length_nil, be32_len, be64_len, hfl]; omega)]; cases Nat.beq (N - 4) (4 + 24 * l.length) <;> simp only [cond_true, cond_false] <;> omega), trivial⟩) fun _ a u hE hS => ?_
  rw [put_pzE ([0, 0, 0, 0] ++ be32 s ++ l.flatMap Rep.bytes) e N (bif Nat.beq (N - 4) (4 + 24 * l.length) then 4 else 4 + (4 + 24 * l.length) * 1) (by cases hq : Nat.beq (N - 4) (4 + 24 * l.length) with
    | true => exact .inr (by have := Nat.eq_of_beq_eq_true hq; omega)
    | false => exact .inl (by simp only [cond_false, List.length_append, List.length_cons, List.length_nil, be32_len, be64_len, hfl]; omega)) (by simp only [List.length_append, List.length_cons, List.length_nil, be32_len, be64_len, hfl]; omega)] at hS
  refine rgp hE hS [cu 119 [101] [] (fun _ => .agg #[.bool false, .int .u8 (((l.length : Int) % 256)), .int .u8 201, .int .u16 ((((N : Nat) : Int) / 4 - 1) % 65536)]) (fun _ => []), cu 106 [] [95] (fun y => .tuple #[.slice (some ⟨y.g, 0, none⟩) 4 4, .nilIface]) (fun y => [some (.buf y.g (hdrB (((l.length : Int) % 256)) 201 ((((N : Nat) : Int) / 4 - 1) % 65536)))]), pu, pu, pu, pu, pu] (fun p13 => kp [(11, sv (p13 1).g 0 4 4), (12, .nilIface)]) (fun p13 => kP [(95, some (.buf (p13 1).g (hdrB (((l.length : Int) % 256)) 201 ((((N : Nat) : Int) / 4 - 1) % 65536))))]) (fun _ => ⟨kr (cu_val (P := Tryz.prog) (w0 := w) 101 (p1 0).g 158 #[.int .u32 s, .slice A (l.length : Nat) c, .slice A2 (e.length : Nat) c2] 119 #[.pointer (some ⟨(p1 0).g, 0, none⟩)] (.agg #[.bool false, .int .u8 (((l.length : Int) % 256)), .int .u8 201, .int .u16 ((((N : Nat) : Int) / 4 - 1) % 65536)]) (fun w4 hB hz hb => by rw [hN]; exact rrhdr_any (p1 0).g w4 _ A A2 l c e.length c2 _ hb ((Reads.below hr hB).more hz) (by omega) (by omega))), kr (cu_buf (P := Tryz.prog) (w0 := w) (ps := [none]) 95 106 #[.agg #[.bool false, .int .u8 (((l.length : Int) % 256)), .int .u8 201, .int .u16 ((((N : Nat) : Int) / 4 - 1) % 65536)]] (fun g => .tuple #[.slice (some ⟨g, 0, none⟩) 4 4, .nilIface]) (hdrB (((l.length : Int) % 256)) 201 ((((N : Nat) : Int) / 4 - 1) % 65536)) (fun w4 hB hz => hdrMar_any _ _ _ w4 (by omega) (by omega) (by omega) (by omega))), trivial⟩) fun p13 a u hE hS => ?_
  refine wp_seq ?_
  refine rg hE hS [pu, pu] (fun _ => kn [(67, .bool false)] [2, 3, 4, 11, 12]) (fun _ => kN [] [95, 1]) fun _ a u hE hS => ?_
  refine iff hE ?_
  refine wp_skip ?_
  refine rgp hE hS [pu, pu, cp .buf 1 95] (fun _ => kp []) (fun _ => kP [(1, some (.buf (p2 1).g (put (pz ([0, 0, 0, 0] ++ be32 s ++ l.flatMap Rep.bytes ++ e) N) 0 (hdrB (((l.length : Int) % 256)) 201 ((((N : Nat) : Int) / 4 - 1) % 65536)))))]) (fun _ => ⟨kr (show (hdrB (((l.length : Int) % 256)) 201 ((((N : Nat) : Int) / 4 - 1) % 65536)).length ≤ N ∧ 0 + (hdrB (((l.length : Int) % 256)) 201 ((((N : Nat) : Int) / 4 - 1) % 65536)).length ≤ (pz ([0, 0, 0, 0] ++ be32 s ++ l.flatMap Rep.bytes ++ e) N).length from by rw [pz_len _ _ (by simp only [List.length_append, List.length_cons, List.length_nil, be32_len, be64_len, be16_len, hfl]; omega), show (hdrB (((l.length : Int) % 256)) 201 ((((N : Nat) : Int) / 4 - 1) % 65536)).length = 4 from rfl]; omega), trivial⟩) fun _ a u hE hS => ?_
  rw [put_head ([0, 0, 0, 0] ++ be32 s ++ l.flatMap Rep.bytes ++ e) (be32 s ++ l.flatMap Rep.bytes ++ e) (hdrB (((l.length : Int) % 256)) 201 ((((N : Nat) : Int) / 4 - 1) % 65536)) N (by simp only [List.append_assoc]) rfl, pz_full _ _ (by simp only [hdrB, List.length_append, List.length_cons, List.length_nil, be32_len, be64_len, be16_len, hfl]; omega)] at hS
  refine rg hE hS [pu, pu, pu] (fun _ => kn [(2, sv (p2 1).g 0 N N)] [3]) (fun _ => kN [] [1]) fun _ a u hE hS => ?_
  refine wp_ret ?_
  exact ret2 hE Tryz.results116 (sv (p2 1).g 0 N N) .nilIface (MarOut.buf (bs := hdrB (((l.length : Int) % 256)) 201 ((((N : Nat) : Int) / 4 - 1) % 65536) ++ (be32 s ++ l.flatMap Rep.bytes ++ e)) (pcF hS 1) (pcG (g := (p2 1).g) (bs := hdrB (((l.length : Int) % 256)) 201 ((((N : Nat) : Int) / 4 - 1) % 65536) ++ (be32 s ++ l.flatMap Rep.bytes ++ e)) hS 1) hS.below (by simp only [hdrB, List.length_append, List.length_cons, List.length_nil, be32_len, be64_len, be16_len, hfl]; omega) (by simp only [hdrB, List.length_append, List.length_cons, List.length_nil, be32_len, be64_len, be16_len, hfl]; omega))
theorem size_7 (g : Nat) (w : World) : Calls Tryz.prog 147 #[.pointer (some ⟨g, 0, none⟩)] w fun e w' => e = .returned (.int .i64 (12 : Nat)) ∧ Below w.heap.size w w' := by
  refine go_in Tryz.func147 rfl Tryz.ntmps147 [pt g 0] fun a hE => ?_
  have hS := stp_in w
  refine rg hE hS [pu] (fun _ => kp [(2, .int .i64 0)]) (fun _ => kP []) fun _ a u hE hS => ?_
  refine rg hE hS [pu] (fun _ => kp [(2, .int .i64 (12 : Nat))]) (fun _ => kP []) fun _ a u hE hS => ?_
  refine wp_ret ?_
  exact ret1 hE Tryz.results147 (.int .i64 (12 : Nat)) ⟨rfl, hS.below⟩
set_option maxHeartbeats 4000000 in
set_option maxRecDepth 100000 in
theorem mar_7 (s m : Int) (w : World) (hs : 0 ≤ s ∧ s < 4294967296) (hm : 0 ≤ m ∧ m < 4294967296) :
    Calls Tryz.prog 146 #[.agg #[.int .u32 s, .int .u32 m]] w (MarOut w (hdrB 5 205 ((((4 + (be32 s ++ be32 m).length : Nat) : Int) / 4 - 1) % 65536) ++ (be32 s ++ be32 m))) := by
  obtain ⟨N, hN⟩ : ∃ N, N = 12 := ⟨_, rfl⟩
  have hfl : True := trivial
  have hBN : 4 + (be32 s ++ be32 m).length = N := by simp only [List.length_append, be32_len]; omega
  rw [hBN]
  refine go_in Tryz.func146 rfl Tryz.ntmps146 [.agg #[.int .u32 s, .int .u32 m]] fun a hE => ?_
  have hS := stp_in w
  refine rg hE hS [nw 101, pu, pu] (fun p1 => kp [(1, pt (p1 0).g 0), (2, .slice none 0 0), (3, .nilIface)]) (fun p1 => kP [(101, some (.blk (p1 0).g 176 #[.int .u32 s, .int .u32 m]))]) fun p1 a u hE hS => ?_
  refine rgp hE hS [cu 147 [101] [] (fun _ => .int .i64 (N : Nat)) (fun _ => []), mk 1, pu] (fun p2 => kp [(4, sv (p2 1).g 0 N N)]) (fun p2 => kP [(1, some (.buf (p2 1).g (List.replicate N 0)))]) (fun _ => ⟨kr (cu_val (P := Tryz.prog) (w0 := w) 101 (p1 0).g 176 #[.int .u32 s, .int .u32 m] 147 #[.pointer (some ⟨(p1 0).g, 0, none⟩)] (.int .i64 (N : Nat)) (fun w4 hB hz hb => by rw [hN]; exact size_7 (p1 0).g w4)), kr (show N ≤ 140737488355328 by omega), trivial⟩) fun p2 a u hE hS => ?_
  rw [pz_start N (by omega)] at hS
  refine rgp hE hS [pu, sc, pu] (fun _ => kp [(5, sv (p2 1).g 4 (N - 4) (N - 4))]) (fun _ => kP []) (fun _ => ⟨kr (show 4 ≤ N ∧ N ≤ N ∧ (4 < N ∨ 4 = 0) by omega), trivial⟩) fun _ a u hE hS => ?_
  refine rgp hE hS [pu, pu, ld 101, cl put32c [] [1]] (fun _ => kp []) (fun _ => kP [(1, some (.buf (p2 1).g (put (pz [0, 0, 0, 0] N) 4 (be32 s))))]) (fun _ => ⟨kr (show 4 ≤ N - 4 ∧ 4 + 4 ≤ (pz [0, 0, 0, 0] N).length ∧ 0 ≤ s ∧ s < 4294967296 from ⟨by omega, by rw [pz_len _ _ (by simp only [List.length_append, List.length_cons, List.length_nil, be32_len, be64_len, be16_len]; omega)]; omega, hs.1, hs.2⟩), trivial⟩) fun _ a u hE hS => ?_
  rw [put_pz ([0, 0, 0, 0]) (be32 s) N (4) (rfl) (by simp only [List.length_append, List.length_cons, List.length_nil, be32_len, be64_len, be16_len]; omega)] at hS
  refine dgp hE hS [pu, sc, pu, ld 101, cl put32c [] [1]] (fun _ => kp []) (fun _ => kP [(1, some (.buf (p2 1).g (put (pz ([0, 0, 0, 0] ++ be32 s) N) 8 (be32 m))))]) (fun _ => ⟨kr (show 4 ≤ (N - 4) ∧ (N - 4) ≤ (N - 4) ∧ (4 < (N - 4) ∨ 4 = 0) by omega), kr (show 4 ≤ N - 8 ∧ 8 + 4 ≤ (pz ([0, 0, 0, 0] ++ be32 s) N).length ∧ 0 ≤ m ∧ m < 4294967296 from ⟨by omega, by rw [pz_len _ _ (by simp only [List.length_append, List.length_cons, List.length_nil, be32_len, be64_len, be16_len]; omega)]; omega, hm.1, hm.2⟩), trivial⟩) fun _ a u hE hS => ?_
  rw [put_pz ([0, 0, 0, 0] ++ be32 s) (be32 m) N (8) (rfl) (by simp only [List.length_append, List.length_cons, List.length_nil, be32_len, be64_len, be16_len]; omega)] at hS
  refine rgp hE hS [cu 149 [101] [] (fun _ => .agg #[.bool false, .int .u8 5, .int .u8 205, .int .u16 ((((N : Nat) : Int) / 4 - 1) % 65536)]) (fun _ => []), cu 106 [] [95] (fun y => .tuple #[.slice (some ⟨y.g, 0, none⟩) 4 4, .nilIface]) (fun y => [some (.buf y.g (hdrB 5 205 ((((N : Nat) : Int) / 4 - 1) % 65536)))]), pu, pu, pu, pu, pu] (fun p6 => kp [(6, sv (p6 1).g 0 4 4), (7, .nilIface)]) (fun p6 => kP [(95, some (.buf (p6 1).g (hdrB 5 205 ((((N : Nat) : Int) / 4 - 1) % 65536))))]) (fun _ => ⟨kr (cu_val (P := Tryz.prog) (w0 := w) 101 (p1 0).g 176 #[.int .u32 s, .int .u32 m] 149 #[.pointer (some ⟨(p1 0).g, 0, none⟩)] (.agg #[.bool false, .int .u8 5, .int .u8 205, .int .u16 ((((N : Nat) : Int) / 4 - 1) % 65536)]) (fun w4 hB hz hb => by rw [hN]; exact rrrhdr_any (p1 0).g w4 _ _ _ hb)), kr (cu_buf (P := Tryz.prog) (w0 := w) (ps := [none]) 95 106 #[.agg #[.bool false, .int .u8 5, .int .u8 205, .int .u16 ((((N : Nat) : Int) / 4 - 1) % 65536)]] (fun g => .tuple #[.slice (some ⟨g, 0, none⟩) 4 4, .nilIface]) (hdrB 5 205 ((((N : Nat) : Int) / 4 - 1) % 65536)) (fun w4 hB hz => hdrMar_any _ _ _ w4 (by omega) (by omega) (by omega) (by omega))), trivial⟩) fun p6 a u hE hS => ?_
  refine wp_seq ?_
  refine rg hE hS [pu, pu] (fun _ => kn [(27, .bool false)] [2, 3, 4, 6, 7]) (fun _ => kN [] [95, 1]) fun _ a u hE hS => ?_
  refine iff hE ?_
  refine wp_skip ?_
  refine rgp hE hS [pu, pu, cp .buf 1 95] (fun _ => kp []) (fun _ => kP [(1, some (.buf (p2 1).g (put (pz ([0, 0, 0, 0] ++ be32 s ++ be32 m) N) 0 (hdrB 5 205 ((((N : Nat) : Int) / 4 - 1) % 65536)))))]) (fun _ => ⟨kr (show (hdrB 5 205 ((((N : Nat) : Int) / 4 - 1) % 65536)).length ≤ N ∧ 0 + (hdrB 5 205 ((((N : Nat) : Int) / 4 - 1) % 65536)).length ≤ (pz ([0, 0, 0, 0] ++ be32 s ++ be32 m) N).length from by rw [pz_len _ _ (by simp only [List.length_append, List.length_cons, List.length_nil, be32_len, be64_len, be16_len]; omega), show (hdrB 5 205 ((((N : Nat) : Int) / 4 - 1) % 65536)).length = 4 from rfl]; omega), trivial⟩) fun _ a u hE hS => ?_
  rw [put_head ([0, 0, 0, 0] ++ be32 s ++ be32 m) (be32 s ++ be32 m) (hdrB 5 205 ((((N : Nat) : Int) / 4 - 1) % 65536)) N (by simp only [List.append_assoc]) rfl, pz_full _ _ (by simp only [hdrB, List.length_append, List.length_cons, List.length_nil, be32_len, be64_len, be16_len]; omega)] at hS
  refine rg hE hS [pu, pu, pu] (fun _ => kn [(2, sv (p2 1).g 0 N N)] [3]) (fun _ => kN [] [1]) fun _ a u hE hS => ?_
  refine wp_ret ?_
  exact ret2 hE Tryz.results146 (sv (p2 1).g 0 N N) .nilIface (MarOut.buf (bs := hdrB 5 205 ((((N : Nat) : Int) / 4 - 1) % 65536) ++ (be32 s ++ be32 m)) (pcF hS 1) (pcG (g := (p2 1).g) (bs := hdrB 5 205 ((((N : Nat) : Int) / 4 - 1) % 65536) ++ (be32 s ++ be32 m)) hS 1) hS.below (by simp only [hdrB, List.length_append, List.length_cons, List.length_nil, be32_len, be64_len, be16_len]; omega) (by simp only [hdrB, List.length_append, List.length_cons, List.length_nil, be32_len, be64_len, be16_len]; omega))
theorem size_9 (g : Nat) (w : World) : Calls Tryz.prog 164 #[.pointer (some ⟨g, 0, none⟩)] w fun e w' => e = .returned (.int .i64 (12 : Nat)) ∧ Below w.heap.size w w' := by
  refine go_in Tryz.func164 rfl Tryz.ntmps164 [pt g 0] fun a hE => ?_
  have hS := stp_in w
  refine rg hE hS [pu] (fun _ => kp [(2, .int .i64 0)]) (fun _ => kP []) fun _ a u hE hS => ?_
  refine rg hE hS [pu] (fun _ => kp [(2, .int .i64 (12 : Nat))]) (fun _ => kP []) fun _ a u hE hS => ?_
  refine wp_ret ?_
  exact ret1 hE Tryz.results164 (.int .i64 (12 : Nat)) ⟨rfl, hS.below⟩
set_option maxHeartbeats 4000000 in
set_option maxRecDepth 100000 in
theorem mar_9 (s m : Int) (w : World) (hs : 0 ≤ s ∧ s < 4294967296) (hm : 0 ≤ m ∧ m < 4294967296) :
    Calls Tryz.prog 163 #[.agg #[.int .u32 s, .int .u32 m]] w (MarOut w (hdrB 1 206 ((((4 + (be32 s ++ be32 m).length : Nat) : Int) / 4 - 1) % 65536) ++ (be32 s ++ be32 m))) := by
  obtain ⟨N, hN⟩ : ∃ N, N = 12 := ⟨_, rfl⟩
  have hfl : True := trivial
  have hBN : 4 + (be32 s ++ be32 m).length = N := by simp only [List.length_append, be32_len]; omega
  rw [hBN]
  refine go_in Tryz.func163 rfl Tryz.ntmps163 [.agg #[.int .u32 s, .int .u32 m]] fun a hE => ?_
  have hS := stp_in w
  refine rg hE hS [nw 101, pu, pu] (fun p1 => kp [(1, pt (p1 0).g 0), (2, .slice none 0 0), (3, .nilIface)]) (fun p1 => kP [(101, some (.blk (p1 0).g 183 #[.int .u32 s, .int .u32 m]))]) fun p1 a u hE hS => ?_
  refine rgp hE hS [cu 164 [101] [] (fun _ => .int .i64 (N : Nat)) (fun _ => []), mk 1, pu] (fun p2 => kp [(4, sv (p2 1).g 0 N N)]) (fun p2 => kP [(1, some (.buf (p2 1).g (List.replicate N 0)))]) (fun _ => ⟨kr (cu_val (P := Tryz.prog) (w0 := w) 101 (p1 0).g 183 #[.int .u32 s, .int .u32 m] 164 #[.pointer (some ⟨(p1 0).g, 0, none⟩)] (.int .i64 (N : Nat)) (fun w4 hB hz hb => by rw [hN]; exact size_9 (p1 0).g w4)), kr (show N ≤ 140737488355328 by omega), trivial⟩) fun p2 a u hE hS => ?_
  rw [pz_start N (by omega)] at hS
  refine rgp hE hS [pu, sc, pu] (fun _ => kp [(5, sv (p2 1).g 4 (N - 4) (N - 4))]) (fun _ => kP []) (fun _ => ⟨kr (show 4 ≤ N ∧ N ≤ N ∧ (4 < N ∨ 4 = 0) by omega), trivial⟩) fun _ a u hE hS => ?_
  refine rgp hE hS [pu, pu, ld 101, cl put32c [] [1]] (fun _ => kp []) (fun _ => kP [(1, some (.buf (p2 1).g (put (pz [0, 0, 0, 0] N) 4 (be32 s))))]) (fun _ => ⟨kr (show 4 ≤ N - 4 ∧ 4 + 4 ≤ (pz [0, 0, 0, 0] N).length ∧ 0 ≤ s ∧ s < 4294967296 from ⟨by omega, by rw [pz_len _ _ (by simp only [List.length_append, List.length_cons, List.length_nil, be32_len, be64_len, be16_len]; omega)]; omega, hs.1, hs.2⟩), trivial⟩) fun _ a u hE hS => ?_
  rw [put_pz ([0, 0, 0, 0]) (be32 s) N (4) (rfl) (by simp only [List.length_append, List.length_cons, List.length_nil, be32_len, be64_len, be16_len]; omega)] at hS
  refine dgp hE hS [pu, sc, pu, ld 101, cl put32c [] [1]] (fun _ => kp []) (fun _ => kP [(1, some (.buf (p2 1).g (put (pz ([0, 0, 0, 0] ++ be32 s) N) 8 (be32 m))))]) (fun _ => ⟨kr (show 4 ≤ (N - 4) ∧ (N - 4) ≤ (N - 4) ∧ (4 < (N - 4) ∨ 4 = 0) by omega), kr (show 4 ≤ N - 8 ∧ 8 + 4 ≤ (pz ([0, 0, 0, 0] ++ be32 s) N).length ∧ 0 ≤ m ∧ m < 4294967296 from ⟨by omega, by rw [pz_len _ _ (by simp only [List.length_append, List.length_cons, List.length_nil, be32_len, be64_len, be16_len]; omega)]; omega, hm.1, hm.2⟩), trivial⟩) fun _ a u hE hS => ?_
  rw [put_pz ([0, 0, 0, 0] ++ be32 s) (be32 m) N (8) (rfl) (by simp only [List.length_append, List.length_cons, List.length_nil, be32_len, be64_len, be16_len]; omega)] at hS
  refine rg hE hS [pu, nw 96, st 96] (fun p6 => kn [(6, pt (p6 1).g 0)] [2, 3, 4]) (fun p6 => kN [(96, some (.blk (p6 1).g 239 #[.bool false, .int .u8 1, .int .u8 206, .int .u16 2]))] [1]) fun p6 a u hE hS => ?_
  refine rgp hE hS [ld 96, cu 106 [] [95] (fun y => .tuple #[.slice (some ⟨y.g, 0, none⟩) 4 4, .nilIface]) (fun y => [some (.buf y.g (hdrB 1 206 ((((N : Nat) : Int) / 4 - 1) % 65536)))]), pu, pu, pu, pu, pu] (fun p7 => kp [(7, sv (p7 1).g 0 4 4), (8, .nilIface)]) (fun p7 => kP [(95, some (.buf (p7 1).g (hdrB 1 206 ((((N : Nat) : Int) / 4 - 1) % 65536))))]) (fun _ => ⟨kr (cu_buf (P := Tryz.prog) (w0 := w) (ps := [none]) 95 106 #[.agg #[.bool false, .int .u8 1, .int .u8 206, .int .u16 2]] (fun g => .tuple #[.slice (some ⟨g, 0, none⟩) 4 4, .nilIface]) (hdrB 1 206 ((((N : Nat) : Int) / 4 - 1) % 65536)) (fun w4 hB hz => by rw [hN]; exact hdrMar_any 1 206 2 w4 (by omega) (by omega) (by omega) (by omega))), trivial⟩) fun p7 a u hE hS => ?_
  refine wp_seq ?_
  refine rg hE hS [pu, pu] (fun _ => kn [(29, .bool false)] [2, 3, 4, 7, 8]) (fun _ => kN [] [95, 1]) fun _ a u hE hS => ?_
  refine iff hE ?_
  refine wp_skip ?_
  refine rgp hE hS [pu, pu, cp .buf 1 95] (fun _ => kp []) (fun _ => kP [(1, some (.buf (p2 1).g (put (pz ([0, 0, 0, 0] ++ be32 s ++ be32 m) N) 0 (hdrB 1 206 ((((N : Nat) : Int) / 4 - 1) % 65536)))))]) (fun _ => ⟨kr (show (hdrB 1 206 ((((N : Nat) : Int) / 4 - 1) % 65536)).length ≤ N ∧ 0 + (hdrB 1 206 ((((N : Nat) : Int) / 4 - 1) % 65536)).length ≤ (pz ([0, 0, 0, 0] ++ be32 s ++ be32 m) N).length from by rw [pz_len _ _ (by simp only [List.length_append, List.length_cons, List.length_nil, be32_len, be64_len, be16_len]; omega), show (hdrB 1 206 ((((N : Nat) : Int) / 4 - 1) % 65536)).length = 4 from rfl]; omega), trivial⟩) fun _ a u hE hS => ?_
  rw [put_head ([0, 0, 0, 0] ++ be32 s ++ be32 m) (be32 s ++ be32 m) (hdrB 1 206 ((((N : Nat) : Int) / 4 - 1) % 65536)) N (by simp only [List.append_assoc]) rfl, pz_full _ _ (by simp only [hdrB, List.length_append, List.length_cons, List.length_nil, be32_len, be64_len, be16_len]; omega)] at hS
  refine rg hE hS [pu, pu, pu] (fun _ => kn [(2, sv (p2 1).g 0 N N)] [3]) (fun _ => kN [] [1]) fun _ a u hE hS => ?_
  refine wp_ret ?_
  exact ret2 hE Tryz.results163 (sv (p2 1).g 0 N N) .nilIface (MarOut.buf (bs := hdrB 1 206 ((((N : Nat) : Int) / 4 - 1) % 65536) ++ (be32 s ++ be32 m)) (pcF hS 1) (pcG (g := (p2 1).g) (bs := hdrB 1 206 ((((N : Nat) : Int) / 4 - 1) % 65536) ++ (be32 s ++ be32 m)) hS 1) hS.below (by simp only [hdrB, List.length_append, List.length_cons, List.length_nil, be32_len, be64_len, be16_len]; omega) (by simp only [hdrB, List.length_append, List.length_cons, List.length_nil, be32_len, be64_len, be16_len]; omega))
theorem u32_and13 (x : Int) (h0 : 0 ≤ x) (h1 : x < 8192) : bits .and .u32 x 8191 = x := by
  have h31 : (BitVec.ofInt 32 8191).toNat = 2 ^ 13 - 1 := by decide
  have key : (BitVec.ofInt 32 x &&& BitVec.ofInt 32 8191).toNat = (x % ((2 ^ 32 : Nat) : Int)).toNat % 2 ^ 13 := by
    rw [BitVec.toNat_and, BitVec.toNat_ofInt, h31, Nat.and_two_pow_sub_one_eq_mod]
  show IntKind.u32.wrap ((BitVec.ofInt 32 x &&& BitVec.ofInt 32 8191).toNat : Nat) = x
  rw [key, IntKind.wrap_u32]
  omega
theorem u32_and6 (x : Int) (h0 : 0 ≤ x) (h1 : x < 64) : bits .and .u32 x 63 = x := by
  have h31 : (BitVec.ofInt 32 63).toNat = 2 ^ 6 - 1 := by decide
  have key : (BitVec.ofInt 32 x &&& BitVec.ofInt 32 63).toNat = (x % ((2 ^ 32 : Nat) : Int)).toNat % 2 ^ 6 := by
    rw [BitVec.toNat_and, BitVec.toNat_ofInt, h31, Nat.and_two_pow_sub_one_eq_mod]
  show IntKind.u32.wrap ((BitVec.ofInt 32 x &&& BitVec.ofInt 32 63).toNat : Nat) = x
  rw [key, IntKind.wrap_u32]
  omega
set_option maxHeartbeats 4000000 in
set_option maxRecDepth 100000 in
theorem mar_10 (s m : Int) (A : Option Addr) (c : Nat) (l : List Slc) (w : World) (hr : Reads w w.heap.size 3 A l.length (l.flatMap Slc.cells)) (hl : l.length ≤ 253) (hok : ∀ x ∈ l, (0 ≤ x.first ∧ x.first < 8192) ∧ (0 ≤ x.number ∧ x.number < 8192) ∧ 0 ≤ x.pic ∧ x.pic < 64) (hs : 0 ≤ s ∧ s < 4294967296) (hm : 0 ≤ m ∧ m < 4294967296) :
    Calls Tryz.prog 167 #[.agg #[.int .u32 s, .int .u32 m, .slice A (l.length : Nat) c]] w (MarOut w (hdrB 2 206 ((((4 + (be32 s ++ be32 m ++ l.flatMap (fun x => be32 (slcW x))).length : Nat) : Int) / 4 - 1) % 65536) ++ (be32 s ++ be32 m ++ l.flatMap (fun x => be32 (slcW x))))) := by
  obtain ⟨N, hN⟩ : ∃ N, N = 8 + l.length * 4 := ⟨_, rfl⟩
  have hfl := fl_len l ((fun x => be32 (slcW x))) 4 (fun x => rfl)
  have hBN : 4 + (be32 s ++ be32 m ++ l.flatMap (fun x => be32 (slcW x))).length = 12 + 4 * l.length := by simp only [List.length_append, be32_len, hfl]; omega
  rw [hBN]
  refine go_in Tryz.func167 rfl Tryz.ntmps167 [.agg #[.int .u32 s, .int .u32 m, .slice A (l.length : Nat) c]] fun a hE => ?_
  have hS := stp_in w
  refine rg hE hS [nw 101, pu, pu] (fun p1 => kp [(1, pt (p1 0).g 0), (2, .slice none 0 0), (3, .nilIface)]) (fun p1 => kP [(101, some (.blk (p1 0).g 187 #[.int .u32 s, .int .u32 m, .slice A (l.length : Nat) c]))]) fun p1 a u hE hS => ?_
  refine wp_seq ?_
  refine rgp hE hS [pu, ld 101, pu, pe (.int .i64 ((l.length + 2 : Nat) : Int)), pe (.bool false)] (fun _ => kp [(14, .bool false)]) (fun _ => kP []) (fun _ => ⟨kr (congrArg (Value.int .i64) (show IntKind.i64.wrap (((l.length : Nat) : Int) + (2 : Int)) = ((l.length + 2 : Nat) : Int) from by rw [IntWalk.i64_in _ (by omega)]; omega)), kr (congrArg Value.bool (decide_eq_false (show ¬ (((l.length + 2 : Nat) : Int) > 255) by omega))), trivial⟩) fun _ a u hE hS => ?_
  refine iff hE ?_
  refine wp_skip ?_
  refine rgp hE hS [pu, ld 101, pu, pe (.int .i64 ((l.length * 4 : Nat) : Int)), pe (.int .i64 ((N : Nat) : Int)), mk 1, pu] (fun p3 => kp [(4, sv (p3 5).g 0 N N)]) (fun p3 => kP [(1, some (.buf (p3 5).g (List.replicate N 0)))]) (fun _ => ⟨kr (congrArg (Value.int .i64) (show IntKind.i64.wrap (((l.length : Nat) : Int) * (4 : Int)) = ((l.length * 4 : Nat) : Int) from by rw [IntWalk.i64_in _ (by omega)]; omega)), kr (congrArg (Value.int .i64) (show IntKind.i64.wrap ((8 : Int) + ((l.length * 4 : Nat) : Int)) = ((N : Nat) : Int) from by rw [IntWalk.i64_in _ (by omega)]; omega)), kr (show N ≤ 140737488355328 by omega), trivial⟩) fun p3 a u hE hS => ?_
  rw [pz_start0 N] at hS
  refine rgp hE hS [pu, pu, ld 101, cl put32c [] [1]] (fun _ => kp []) (fun _ => kP [(1, some (.buf (p3 5).g (put (pz [] N) (0) (be32 s))))]) (fun _ => ⟨kr (show 4 ≤ N ∧ 0 + 4 ≤ (pz [] N).length ∧ 0 ≤ s ∧ s < 4294967296 from ⟨by omega, by rw [pz_len _ _ (by simp only [List.length_append, List.length_cons, List.length_nil, be32_len, be64_len, be16_len]; omega)]; omega, hs.1, hs.2⟩), trivial⟩) fun _ a u hE hS => ?_
  rw [put_pz ([]) (be32 s) N (0) (rfl) (by simp only [List.length_append, List.length_cons, List.length_nil, be32_len, be64_len, be16_len]; omega)] at hS
  refine dgp hE hS [pu, sc, pu, ld 101, cl put32c [] [1]] (fun _ => kp []) (fun _ => kP [(1, some (.buf (p3 5).g (put (pz (be32 s) N) 4 (be32 m))))]) (fun _ => ⟨kr (show 4 ≤ N ∧ N ≤ N ∧ (4 < N ∨ 4 = 0) by omega), kr (show 4 ≤ N - 4 ∧ 4 + 4 ≤ (pz (be32 s) N).length ∧ 0 ≤ m ∧ m < 4294967296 from ⟨by omega, by rw [pz_len _ _ (by simp only [List.length_append, List.length_cons, List.length_nil, be32_len, be64_len, be16_len]; omega)]; omega, hm.1, hm.2⟩), trivial⟩) fun _ a u hE hS => ?_
  rw [put_pz (be32 s) (be32 m) N (4) (rfl) (by simp only [List.length_append, List.length_cons, List.length_nil, be32_len, be64_len, be16_len]; omega)] at hS
  refine wp_seq ?_
  refine rg hE hS [pu, ld 101, pu, pu] (fun _ => kn [(32, .slice A (l.length : Nat) c), (33, .int .i64 (l.length : Nat)), (34, .int .i64 0)] [1, 2, 3, 4]) (fun _ => kN [] [1, 101]) fun _ a u hE hS => ?_
  refine range_up hE hS 34 l.length (fun _ _ => kd [34, 35, 62] []) (fun _ x => kP [(1, some (.buf (p3 5).g (pz x.y N)))]) (fun k (x : Lx (List Int)) => x.n = 0 ∧ x.y = be32 s ++ be32 m ++ (l.take k).flatMap (fun x => be32 (slcW x))) ⟨pay0, 0, [], be32 s ++ be32 m⟩ (by omega) (by simp) (fun k x a u hk hI hE hS K hK RK hRK => ?_) fun ⟨_, n1, _, y1⟩ a u hI hE hS => ?_
  · obtain ⟨hk1, hk2⟩ := hI
    obtain ⟨q0, n0, xs0, y⟩ := x
    simp only at hk1 hk2
    have hr1 := hok _ (List.getElem_mem hk)
    have hS := stp_el hS 90 (el_at hr (fun _ _ => rfl) rfl (fun g hg => ⟨hg, id⟩) k hk (by omega))
    generalize hrk : l[k] = r at hS hr1
    have hyl : y.length = 8 + 4 * k := by rw [hk2]; have := fl_len (l.take k) ((fun x => be32 (slcW x))) 4 (fun x => rfl); simp only [List.length_take] at this; simp only [List.length_append, List.length_cons, List.length_nil, be32_len, be64_len, be16_len]; omega
    have hv1 := u32_and13 (IntKind.u32.wrap r.first) (by rw [IntKind.wrap_u32]; omega) (by rw [IntKind.wrap_u32]; omega)
    have hv2 := u32_and13 (IntKind.u32.wrap r.number) (by rw [IntKind.wrap_u32]; omega) (by rw [IntKind.wrap_u32]; omega)
    have hv3 := u32_and6 (IntKind.u32.wrap r.pic) (by rw [IntKind.wrap_u32]; omega) (by rw [IntKind.wrap_u32]; omega)
    refine rgp hE hS [pu, ie 90, le 90 0, nw 91, pu, st 91] (fun p7 => kp [(6, pt (p7 3).g 0), (5, .int .i64 (k : Nat))]) (fun p7 => kP [(91, some (.blk (p7 3).g 188 (Slc.cells r).toArray))]) (fun _ => ⟨kr (show k < l.length from hk), trivial⟩) fun p7 a u hE hS => ?_
    refine rgp hE hS [pu, ld 91, pu, pe (.int .u32 (IntKind.u32.wrap r.first)), pu, pu, ld 91, pu, pe (.int .u32 (IntKind.u32.wrap r.number)), pu, pu, pu, ld 91, pu, pe (.int .u32 (IntKind.u32.wrap r.pic)), pu, pu] (fun _ => kp [(7, .int .u32 (slcW r))]) (fun _ => kP []) (fun _ => ⟨kr (congrArg (Value.int .u32) hv1), kr (congrArg (Value.int .u32) hv2), kr (congrArg (Value.int .u32) hv3), trivial⟩) fun _ a u hE hS => ?_
    refine rgE hE hS [pu, pu, pe (.int .i64 ((4 * k : Nat) : Int)), pe (.int .i64 ((8 + 4 * k : Nat) : Int)), sc, pu, cl put32c [] [1]] (fun _ => kn [] [1, 2, 3, 4, 32, 33, 34]) (fun _ => kN [(1, some (.buf (p3 5).g (put (pz y N) (0 + (8 + 4 * k) * 1) (be32 (slcW r)))))] [90, 101]) (fun _ => ⟨kr (congrArg (Value.int .i64) (show IntKind.i64.wrap ((4 : Int) * ((k : Nat) : Int)) = ((4 * k : Nat) : Int) from by rw [IntWalk.i64_in _ (by omega)]; omega)), kr (congrArg (Value.int .i64) (show IntKind.i64.wrap ((8 : Int) + ((4 * k : Nat) : Int)) = ((8 + 4 * k : Nat) : Int) from by rw [IntWalk.i64_in _ (by omega)]; omega)), kr (show 8 + 4 * k ≤ N ∧ N ≤ N ∧ (8 + 4 * k < N ∨ 8 + 4 * k = 0) by omega), kr (show 4 ≤ N - (8 + 4 * k) ∧ 0 + (8 + 4 * k) * 1 + 4 ≤ (pz y N).length ∧ 0 ≤ (slcW r) ∧ (slcW r) < 4294967296 from ⟨by omega, by rw [pz_len _ _ (by omega)]; omega, (slcW_bd r).1, (slcW_bd r).2⟩), trivial⟩) fun _ a u hE hS => ?_
    rw [put_pz (y) (be32 (slcW r)) N (0 + (8 + 4 * k) * 1) (by omega) (by rw [be32_len]; omega)] at hS
    exact hK ⟨pay0, 0, [], y ++ be32 (slcW r)⟩ a u _ _ ⟨rfl, by show y ++ be32 (slcW r) = _; rw [hk2, List.take_succ_eq_append_getElem hk, List.flatMap_append, hrk]; simp⟩ hE hS (by kernel_rfl)
  simp only [List.take_length] at hI
  obtain ⟨h1, h2⟩ := hI
  subst h1 h2
  refine rgp hE hS [cu 170 [101] [] (fun _ => .agg #[.bool false, .int .u8 2, .int .u8 206, .int .u16 ((((12 + 4 * l.length : Nat) : Int) / 4 - 1) % 65536)]) (fun _ => []), cu 106 [] [95] (fun y => .tuple #[.slice (some ⟨y.g, 0, none⟩) 4 4, .nilIface]) (fun y => [some (.bytes w.heap.size (.slice (some ⟨y.g, 0, none⟩) 4 4) (hdrB 2 206 (((((12 + 4 * l.length : Nat) : Int) / 4 - 1) % 65536))))]), pu, pu, pu, pu, pu] (fun p10 => kp [(8, sv (p10 1).g 0 4 4), (9, .nilIface)]) (fun p10 => kP [(95, some (.bytes w.heap.size (sv (p10 1).g 0 4 4) (hdrB 2 206 (((((12 + 4 * l.length : Nat) : Int) / 4 - 1) % 65536)))))]) (fun _ => ⟨kr (cu_val (P := Tryz.prog) (w0 := w) 101 (p1 0).g 187 #[.int .u32 s, .int .u32 m, .slice A (l.length : Nat) c] 170 #[.pointer (some ⟨(p1 0).g, 0, none⟩)] (.agg #[.bool false, .int .u8 2, .int .u8 206, .int .u16 ((((12 + 4 * l.length : Nat) : Int) / 4 - 1) % 65536)]) (fun w4 hB hz hb => slihdr_any (p1 0).g w4 _ A l.length c _ _ hb (by omega))), kr (cu_bufB (P := Tryz.prog) (w0 := w) (ps := [none]) 95 106 #[.agg #[.bool false, .int .u8 2, .int .u8 206, .int .u16 (((((12 + 4 * l.length : Nat) : Int) / 4 - 1) % 65536))]] (fun g => .tuple #[.slice (some ⟨g, 0, none⟩) 4 4, .nilIface]) (hdrB 2 206 (((((12 + 4 * l.length : Nat) : Int) / 4 - 1) % 65536))) 4 rfl (by simp [hdrB, be16_len]) (fun w4 hB hz => hdrMar_any _ _ _ w4 (by omega) (by omega) (by omega) (by omega))), trivial⟩) fun p10 a u hE hS => ?_
  rw [pz_full (be32 s ++ be32 m ++ l.flatMap (fun x => be32 (slcW x))) N (by simp only [List.length_append, List.length_nil, be32_len, hfl]; omega)] at hS
  obtain rfl : N = (be32 s ++ be32 m ++ l.flatMap (fun x => be32 (slcW x))).length := by simp only [List.length_append, be32_len, hfl]; omega
  refine wp_seq ?_
  refine rg hE hS [pu, pu] (fun _ => kn [(69, .bool false)] [2, 3, 4, 8, 9]) (fun _ => kN [] [95, 1]) fun _ a u hE hS => ?_
  refine iff hE ?_
  refine wp_skip ?_
  refine rgp hE hS [pu, pu, ab .buf 95 1, pu, pu] (fun p12 => kp [(2, .slice (p12 2).a (hdrB 2 206 (((((12 + 4 * l.length : Nat) : Int) / 4 - 1) % 65536)) ++ (be32 s ++ be32 m ++ l.flatMap (fun x => be32 (slcW x)))).length (p12 2).c)]) (fun p12 => kP [(95, some (.bytes w.heap.size (.slice (p12 2).a (hdrB 2 206 (((((12 + 4 * l.length : Nat) : Int) / 4 - 1) % 65536)) ++ (be32 s ++ be32 m ++ l.flatMap (fun x => be32 (slcW x)))).length (p12 2).c) (hdrB 2 206 (((((12 + 4 * l.length : Nat) : Int) / 4 - 1) % 65536)) ++ (be32 s ++ be32 m ++ l.flatMap (fun x => be32 (slcW x))))))]) (fun _ => ⟨kr (show w.heap.size ≤ w.heap.size ∧ (hdrB 2 206 (((((12 + 4 * l.length : Nat) : Int) / 4 - 1) % 65536)) ++ (be32 s ++ be32 m ++ l.flatMap (fun x => be32 (slcW x)))).length ≤ 140737488355328 from ⟨Nat.le_refl _, by simp only [hdrB, List.length_append, List.length_cons, List.length_nil, be32_len, be64_len, be16_len, hfl]; omega⟩), trivial⟩) fun p12 a u hE hS => ?_
  refine wp_ret ?_
  exact ret2 hE Tryz.results167 (.slice (p12 2).a (hdrB 2 206 (((((12 + 4 * l.length : Nat) : Int) / 4 - 1) % 65536)) ++ (be32 s ++ be32 m ++ l.flatMap (fun x => be32 (slcW x)))).length (p12 2).c) .nilIface ⟨(p12 2).a, (p12 2).c, rfl, pcO (base := w.heap.size) hS 95, hS.below⟩
set_option maxHeartbeats 4000000 in
set_option maxRecDepth 100000 in
theorem mar_11 (s m : Int) (A : Option Addr) (c : Nat) (l : List Ent) (w : World) (hr : Reads w w.heap.size 2 A l.length (l.flatMap Ent.cells)) (hl : l.length ≤ 131072) (hok : ∀ x ∈ l, 0 ≤ x.ssrc ∧ x.ssrc < 4294967296) (hs : 0 ≤ s ∧ s < 4294967296) (hm : 0 ≤ m ∧ m < 4294967296) :
    Calls Tryz.prog 172 #[.agg #[.int .u32 s, .int .u32 m, .slice A (l.length : Nat) c]] w (MarOut w (hdrB 4 206 ((((4 + (be32 s ++ be32 m ++ l.flatMap (fun x => be32 x.ssrc ++ [x.n, 0, 0, 0])).length : Nat) : Int) / 4 - 1) % 65536) ++ (be32 s ++ be32 m ++ l.flatMap (fun x => be32 x.ssrc ++ [x.n, 0, 0, 0])))) := by
  obtain ⟨N, hN⟩ : ∃ N, N = 8 + l.length * 8 := ⟨_, rfl⟩
  have hfl := fl_len l ((fun x => be32 x.ssrc ++ [x.n, 0, 0, 0])) 8 (fun x => rfl)
  have hBN : 4 + (be32 s ++ be32 m ++ l.flatMap (fun x => be32 x.ssrc ++ [x.n, 0, 0, 0])).length = 12 + 8 * l.length := by simp only [List.length_append, be32_len, hfl]; omega
  rw [hBN]
  refine go_in Tryz.func172 rfl Tryz.ntmps172 [.agg #[.int .u32 s, .int .u32 m, .slice A (l.length : Nat) c]] fun a hE => ?_
  have hS := stp_in w
  refine rg hE hS [nw 101, pu, pu] (fun p1 => kp [(1, pt (p1 0).g 0), (2, .slice none 0 0), (3, .nilIface)]) (fun p1 => kP [(101, some (.blk (p1 0).g 192 #[.int .u32 s, .int .u32 m, .slice A (l.length : Nat) c]))]) fun p1 a u hE hS => ?_
  refine rgp hE hS [pu, ld 101, pu, pe (.int .i64 ((l.length * 8 : Nat) : Int)), pe (.int .i64 ((N : Nat) : Int)), mk 1, pu] (fun p2 => kp [(4, sv (p2 5).g 0 N N)]) (fun p2 => kP [(1, some (.buf (p2 5).g (List.replicate N 0)))]) (fun _ => ⟨kr (congrArg (Value.int .i64) (show IntKind.i64.wrap (((l.length : Nat) : Int) * (8 : Int)) = ((l.length * 8 : Nat) : Int) from by rw [IntWalk.i64_in _ (by omega)]; omega)), kr (congrArg (Value.int .i64) (show IntKind.i64.wrap ((8 : Int) + ((l.length * 8 : Nat) : Int)) = ((N : Nat) : Int) from by rw [IntWalk.i64_in _ (by omega)]; omega)), kr (show N ≤ 140737488355328 by omega), trivial⟩) fun p2 a u hE hS => ?_
  rw [pz_start0 N] at hS
  refine rgp hE hS [pu, pu, ld 101, cl put32c [] [1]] (fun _ => kp []) (fun _ => kP [(1, some (.buf (p2 5).g (put (pz [] N) (0) (be32 s))))]) (fun _ => ⟨kr (show 4 ≤ N ∧ 0 + 4 ≤ (pz [] N).length ∧ 0 ≤ s ∧ s < 4294967296 from ⟨by omega, by rw [pz_len _ _ (by simp only [List.length_append, List.length_cons, List.length_nil, be32_len, be64_len, be16_len]; omega)]; omega, hs.1, hs.2⟩), trivial⟩) fun _ a u hE hS => ?_
  rw [put_pz ([]) (be32 s) N (0) (rfl) (by simp only [List.length_append, List.length_cons, List.length_nil, be32_len, be64_len, be16_len]; omega)] at hS
  refine dgp hE hS [pu, sc, pu, ld 101, cl put32c [] [1]] (fun _ => kp []) (fun _ => kP [(1, some (.buf (p2 5).g (put (pz (be32 s) N) 4 (be32 m))))]) (fun _ => ⟨kr (show 4 ≤ N ∧ N ≤ N ∧ (4 < N ∨ 4 = 0) by omega), kr (show 4 ≤ N - 4 ∧ 4 + 4 ≤ (pz (be32 s) N).length ∧ 0 ≤ m ∧ m < 4294967296 from ⟨by omega, by rw [pz_len _ _ (by simp only [List.length_append, List.length_cons, List.length_nil, be32_len, be64_len, be16_len]; omega)]; omega, hm.1, hm.2⟩), trivial⟩) fun _ a u hE hS => ?_
  rw [put_pz (be32 s) (be32 m) N (4) (rfl) (by simp only [List.length_append, List.length_cons, List.length_nil, be32_len, be64_len, be16_len]; omega)] at hS
  refine wp_seq ?_
  refine rg hE hS [pu, ld 101, pu, pu] (fun _ => kn [(26, .slice A (l.length : Nat) c), (27, .int .i64 (l.length : Nat)), (28, .int .i64 0)] [1, 2, 3, 4]) (fun _ => kN [] [1, 101]) fun _ a u hE hS => ?_
  refine range_up hE hS 28 l.length (fun _ _ => kd [28, 29, 49] []) (fun _ x => kP [(1, some (.buf (p2 5).g (pz x.y N)))]) (fun k (x : Lx (List Int)) => x.n = 0 ∧ x.y = be32 s ++ be32 m ++ (l.take k).flatMap (fun x => be32 x.ssrc ++ [x.n, 0, 0, 0])) ⟨pay0, 0, [], be32 s ++ be32 m⟩ (by omega) (by simp) (fun k x a u hk hI hE hS K hK RK hRK => ?_) fun ⟨_, n1, _, y1⟩ a u hI hE hS => ?_
  · obtain ⟨hk1, hk2⟩ := hI
    obtain ⟨q0, n0, xs0, y⟩ := x
    simp only at hk1 hk2
    have hr1 := hok _ (List.getElem_mem hk)
    have hS := stp_el hS 90 (el_at hr (fun _ _ => rfl) rfl (fun g hg => ⟨hg, id⟩) k hk (by omega))
    generalize hrk : l[k] = r at hS hr1
    have hyl : y.length = 8 + 8 * k := by rw [hk2]; have := fl_len (l.take k) ((fun x => be32 x.ssrc ++ [x.n, 0, 0, 0])) 8 (fun x => rfl); simp only [List.length_take] at this; simp only [List.length_append, List.length_cons, List.length_nil, be32_len, be64_len, be16_len]; omega
    refine rgp hE hS [pu, ie 90, le 90 0, nw 91, pu, st 91] (fun p6 => kp [(6, pt (p6 3).g 0), (5, .int .i64 (k : Nat))]) (fun p6 => kP [(91, some (.blk (p6 3).g 194 (Ent.cells r).toArray))]) (fun _ => ⟨kr (show k < l.length from hk), trivial⟩) fun p6 a u hE hS => ?_
    refine dgp hE hS [pu, pu, pe (.int .i64 ((8 * k : Nat) : Int)), pe (.int .i64 ((8 + 8 * k : Nat) : Int)), sc, pu, ld 91, cl put32c [] [1]] (fun _ => kp []) (fun _ => kP [(1, some (.buf (p2 5).g (put (pz y N) (0 + (8 + 8 * k) * 1) (be32 r.ssrc))))]) (fun _ => ⟨kr (congrArg (Value.int .i64) (show IntKind.i64.wrap ((8 : Int) * ((k : Nat) : Int)) = ((8 * k : Nat) : Int) from by rw [IntWalk.i64_in _ (by omega)]; omega)), kr (congrArg (Value.int .i64) (show IntKind.i64.wrap ((8 : Int) + ((8 * k : Nat) : Int)) = ((8 + 8 * k : Nat) : Int) from by rw [IntWalk.i64_in _ (by omega)]; omega)), kr (show 8 + 8 * k ≤ N ∧ N ≤ N ∧ (8 + 8 * k < N ∨ 8 + 8 * k = 0) by omega), kr (show 4 ≤ N - (8 + 8 * k) ∧ 0 + (8 + 8 * k) * 1 + 4 ≤ (pz y N).length ∧ 0 ≤ r.ssrc ∧ r.ssrc < 4294967296 from ⟨by omega, by rw [pz_len _ _ (by omega)]; omega, hr1.1, hr1.2⟩), trivial⟩) fun _ a u hE hS => ?_
    rw [put_pz (y) (be32 r.ssrc) N (0 + (8 + 8 * k) * 1) (by omega) (by rw [be32_len]; omega)] at hS
    refine rgE hE hS [pu, pu, pe (.int .i64 ((8 * k : Nat) : Int)), pe (.int .i64 ((8 + 8 * k : Nat) : Int)), pe (.int .i64 ((8 + 8 * k + 4 : Nat) : Int)), pu, ld 91, ix, sbt 1] (fun _ => kp []) (fun _ => kP [(1, some (.buf (p2 5).g ((pz (y ++ be32 r.ssrc) N).set (0 + (8 + 8 * k + 4) * 1) r.n)))]) (fun _ => ⟨kr (congrArg (Value.int .i64) (show IntKind.i64.wrap ((8 : Int) * ((k : Nat) : Int)) = ((8 * k : Nat) : Int) from by rw [IntWalk.i64_in _ (by omega)]; omega)), kr (congrArg (Value.int .i64) (show IntKind.i64.wrap ((8 : Int) + ((8 * k : Nat) : Int)) = ((8 + 8 * k : Nat) : Int) from by rw [IntWalk.i64_in _ (by omega)]; omega)), kr (congrArg (Value.int .i64) (show IntKind.i64.wrap (((8 + 8 * k : Nat) : Int) + (4 : Int)) = ((8 + 8 * k + 4 : Nat) : Int) from by rw [IntWalk.i64_in _ (by omega)]; omega)), kr (show 8 + 8 * k + 4 < N by omega), kr (show 0 + (8 + 8 * k + 4) * 1 < (pz (y ++ be32 r.ssrc) N).length by rw [pz_len _ _ (by rw [List.length_append, be32_len]; omega)]; omega), trivial⟩) fun _ a u hE hS => ?_
    rw [put_one _ _ _ (by rw [pz_len _ _ (by rw [List.length_append, be32_len]; omega)]; omega), put_pz (y ++ be32 r.ssrc) [r.n] N (0 + (8 + 8 * k + 4) * 1) (by rw [List.length_append, be32_len]; omega) (by simp only [List.length_cons, List.length_nil]; omega), pz_more (y ++ be32 r.ssrc ++ [r.n]) N 3 (by simp only [List.length_append, be32_len, List.length_cons, List.length_nil]; omega), show y ++ be32 r.ssrc ++ [r.n] ++ List.replicate 3 0 = y ++ (be32 r.ssrc ++ [r.n, 0, 0, 0]) by simp [List.replicate]] at hS
    exact hK ⟨pay0, 0, [], y ++ (be32 r.ssrc ++ [r.n, 0, 0, 0])⟩ a u _ _ ⟨rfl, by show y ++ (be32 r.ssrc ++ [r.n, 0, 0, 0]) = _; rw [hk2, List.take_succ_eq_append_getElem hk, List.flatMap_append, hrk]; simp⟩ hE hS (by kernel_rfl)
  simp only [List.take_length] at hI
  obtain ⟨h1, h2⟩ := hI
  subst h1 h2
  refine rgp hE hS [cu 175 [101] [] (fun _ => .agg #[.bool false, .int .u8 4, .int .u8 206, .int .u16 ((((12 + 8 * l.length : Nat) : Int) / 4 - 1) % 65536)]) (fun _ => []), nw 96, st 96] (fun p9 => kp [(7, pt (p9 1).g 0)]) (fun p9 => kP [(96, some (.blk (p9 1).g 239 #[.bool false, .int .u8 4, .int .u8 206, .int .u16 ((((12 + 8 * l.length : Nat) : Int) / 4 - 1) % 65536)]))]) (fun _ => ⟨kr (cu_val (P := Tryz.prog) (w0 := w) 101 (p1 0).g 192 #[.int .u32 s, .int .u32 m, .slice A (l.length : Nat) c] 175 #[.pointer (some ⟨(p1 0).g, 0, none⟩)] (.agg #[.bool false, .int .u8 4, .int .u8 206, .int .u16 ((((12 + 8 * l.length : Nat) : Int) / 4 - 1) % 65536)]) (fun w4 hB hz hb => firhdr_any (p1 0).g w4 _ A l.length c _ _ hb (by omega))), trivial⟩) fun p9 a u hE hS => ?_
  refine rgp hE hS [ld 96, cu 106 [] [95] (fun y => .tuple #[.slice (some ⟨y.g, 0, none⟩) 4 4, .nilIface]) (fun y => [some (.bytes w.heap.size (.slice (some ⟨y.g, 0, none⟩) 4 4) (hdrB 4 206 (((((12 + 8 * l.length : Nat) : Int) / 4 - 1) % 65536))))]), pu, pu, pu, pu, pu] (fun p10 => kn [(8, sv (p10 1).g 0 4 4), (9, .nilIface)] [2, 3, 4]) (fun p10 => kN [(95, some (.bytes w.heap.size (sv (p10 1).g 0 4 4) (hdrB 4 206 (((((12 + 8 * l.length : Nat) : Int) / 4 - 1) % 65536)))))] [1]) (fun _ => ⟨kr (cu_bufB (P := Tryz.prog) (w0 := w) (ps := [none]) 95 106 #[.agg #[.bool false, .int .u8 4, .int .u8 206, .int .u16 (((((12 + 8 * l.length : Nat) : Int) / 4 - 1) % 65536))]] (fun g => .tuple #[.slice (some ⟨g, 0, none⟩) 4 4, .nilIface]) (hdrB 4 206 (((((12 + 8 * l.length : Nat) : Int) / 4 - 1) % 65536))) 4 rfl (by simp [hdrB, be16_len]) (fun w4 hB hz => hdrMar_any _ _ _ w4 (by omega) (by omega) (by omega) (by omega))), trivial⟩) fun p10 a u hE hS => ?_
  rw [pz_full (be32 s ++ be32 m ++ l.flatMap (fun x => be32 x.ssrc ++ [x.n, 0, 0, 0])) N (by simp only [List.length_append, List.length_nil, be32_len, hfl]; omega)] at hS
  obtain rfl : N = (be32 s ++ be32 m ++ l.flatMap (fun x => be32 x.ssrc ++ [x.n, 0, 0, 0])).length := by simp only [List.length_append, be32_len, hfl]; omega
  refine wp_seq ?_
  refine rg hE hS [pu, pu] (fun _ => kp [(57, .bool false)]) (fun _ => kP []) fun _ a u hE hS => ?_
  refine iff hE ?_
  refine wp_skip ?_
  refine rgp hE hS [pu, pu, ab .buf 95 1, pu, pu] (fun p12 => kp [(2, .slice (p12 2).a (hdrB 4 206 (((((12 + 8 * l.length : Nat) : Int) / 4 - 1) % 65536)) ++ (be32 s ++ be32 m ++ l.flatMap (fun x => be32 x.ssrc ++ [x.n, 0, 0, 0]))).length (p12 2).c)]) (fun p12 => kP [(95, some (.bytes w.heap.size (.slice (p12 2).a (hdrB 4 206 (((((12 + 8 * l.length : Nat) : Int) / 4 - 1) % 65536)) ++ (be32 s ++ be32 m ++ l.flatMap (fun x => be32 x.ssrc ++ [x.n, 0, 0, 0]))).length (p12 2).c) (hdrB 4 206 (((((12 + 8 * l.length : Nat) : Int) / 4 - 1) % 65536)) ++ (be32 s ++ be32 m ++ l.flatMap (fun x => be32 x.ssrc ++ [x.n, 0, 0, 0])))))]) (fun _ => ⟨kr (show w.heap.size ≤ w.heap.size ∧ (hdrB 4 206 (((((12 + 8 * l.length : Nat) : Int) / 4 - 1) % 65536)) ++ (be32 s ++ be32 m ++ l.flatMap (fun x => be32 x.ssrc ++ [x.n, 0, 0, 0]))).length ≤ 140737488355328 from ⟨Nat.le_refl _, by simp only [hdrB, List.length_append, List.length_cons, List.length_nil, be32_len, be64_len, be16_len, hfl]; omega⟩), trivial⟩) fun p12 a u hE hS => ?_
  refine wp_ret ?_
  exact ret2 hE Tryz.results172 (.slice (p12 2).a (hdrB 4 206 (((((12 + 8 * l.length : Nat) : Int) / 4 - 1) % 65536)) ++ (be32 s ++ be32 m ++ l.flatMap (fun x => be32 x.ssrc ++ [x.n, 0, 0, 0]))).length (p12 2).c) .nilIface ⟨(p12 2).a, (p12 2).c, rfl, pcO (base := w.heap.size) hS 95, hS.below⟩
set_option maxHeartbeats 4000000 in
set_option maxRecDepth 100000 in
theorem mar_6 (s m : Int) (A : Option Addr) (c : Nat) (l : List Pair) (w : World) (hr : Reads w w.heap.size 2 A l.length (l.flatMap Pair.cells)) (hl : l.length ≤ 253) (hok : ∀ x ∈ l, 0 ≤ x.id ∧ x.id < 65536 ∧ 0 ≤ x.mask ∧ x.mask < 65536) (hs : 0 ≤ s ∧ s < 4294967296) (hm : 0 ≤ m ∧ m < 4294967296) :
    Calls Tryz.prog 141 #[.agg #[.int .u32 s, .int .u32 m, .slice A (l.length : Nat) c]] w (MarOut w (hdrB 1 205 ((((4 + (be32 s ++ be32 m ++ l.flatMap (fun x => be16 x.id ++ be16 x.mask)).length : Nat) : Int) / 4 - 1) % 65536) ++ (be32 s ++ be32 m ++ l.flatMap (fun x => be16 x.id ++ be16 x.mask)))) := by
  obtain ⟨N, hN⟩ : ∃ N, N = 8 + l.length * 4 := ⟨_, rfl⟩
  have hfl := fl_len l (fun x => be16 x.id ++ be16 x.mask) 4 (fun x => rfl)
  have hBN : 4 + (be32 s ++ be32 m ++ l.flatMap (fun x => be16 x.id ++ be16 x.mask)).length = 12 + 4 * l.length := by simp only [List.length_append, be32_len, hfl]; omega
  rw [hBN]
  refine go_in Tryz.func141 rfl Tryz.ntmps141 [.agg #[.int .u32 s, .int .u32 m, .slice A (l.length : Nat) c]] fun a hE => ?_
  have hS := stp_in w
  refine rg hE hS [nw 101, pu, pu] (fun p1 => kp [(1, pt (p1 0).g 0), (2, .slice none 0 0), (3, .nilIface)]) (fun p1 => kP [(101, some (.blk (p1 0).g 170 #[.int .u32 s, .int .u32 m, .slice A (l.length : Nat) c]))]) fun p1 a u hE hS => ?_
  refine wp_seq ?_
  refine rgp hE hS [pu, ld 101, pu, pe (.int .i64 ((l.length + 2 : Nat) : Int)), pe (.bool false)] (fun _ => kp [(13, .bool false)]) (fun _ => kP []) (fun _ => ⟨kr (congrArg (Value.int .i64) (show IntKind.i64.wrap (((l.length : Nat) : Int) + (2 : Int)) = ((l.length + 2 : Nat) : Int) from by rw [IntWalk.i64_in _ (by omega)]; omega)), kr (congrArg Value.bool (decide_eq_false (show ¬ (((l.length + 2 : Nat) : Int) > 255) by omega))), trivial⟩) fun _ a u hE hS => ?_
  refine iff hE ?_
  refine wp_skip ?_
  refine rgp hE hS [pu, ld 101, pu, pe (.int .i64 ((l.length * 4 : Nat) : Int)), pe (.int .i64 ((N : Nat) : Int)), mk 1, pu] (fun p3 => kp [(4, sv (p3 5).g 0 N N)]) (fun p3 => kP [(1, some (.buf (p3 5).g (List.replicate N 0)))]) (fun _ => ⟨kr (congrArg (Value.int .i64) (show IntKind.i64.wrap (((l.length : Nat) : Int) * (4 : Int)) = ((l.length * 4 : Nat) : Int) from by rw [IntWalk.i64_in _ (by omega)]; omega)), kr (congrArg (Value.int .i64) (show IntKind.i64.wrap ((8 : Int) + ((l.length * 4 : Nat) : Int)) = ((N : Nat) : Int) from by rw [IntWalk.i64_in _ (by omega)]; omega)), kr (show N ≤ 140737488355328 by omega), trivial⟩) fun p3 a u hE hS => ?_
  rw [pz_start0 N] at hS
  refine rgp hE hS [pu, pu, ld 101, cl put32c [] [1]] (fun _ => kp []) (fun _ => kP [(1, some (.buf (p3 5).g (put (pz [] N) (0) (be32 s))))]) (fun _ => ⟨kr (show 4 ≤ N ∧ 0 + 4 ≤ (pz [] N).length ∧ 0 ≤ s ∧ s < 4294967296 from ⟨by omega, by rw [pz_len _ _ (by simp only [List.length_append, List.length_cons, List.length_nil, be32_len, be64_len, be16_len]; omega)]; omega, hs.1, hs.2⟩), trivial⟩) fun _ a u hE hS => ?_
  rw [put_pz ([]) (be32 s) N (0) (rfl) (by simp only [List.length_append, List.length_cons, List.length_nil, be32_len, be64_len, be16_len]; omega)] at hS
  refine dgp hE hS [pu, sc, pu, ld 101, cl put32c [] [1]] (fun _ => kp []) (fun _ => kP [(1, some (.buf (p3 5).g (put (pz (be32 s) N) 4 (be32 m))))]) (fun _ => ⟨kr (show 4 ≤ N ∧ N ≤ N ∧ (4 < N ∨ 4 = 0) by omega), kr (show 4 ≤ N - 4 ∧ 4 + 4 ≤ (pz (be32 s) N).length ∧ 0 ≤ m ∧ m < 4294967296 from ⟨by omega, by rw [pz_len _ _ (by simp only [List.length_append, List.length_cons, List.length_nil, be32_len, be64_len, be16_len]; omega)]; omega, hm.1, hm.2⟩), trivial⟩) fun _ a u hE hS => ?_
  rw [put_pz (be32 s) (be32 m) N (4) (rfl) (by simp only [List.length_append, List.length_cons, List.length_nil, be32_len, be64_len, be16_len]; omega)] at hS
  refine wp_seq ?_
  refine rg hE hS [pu] (fun _ => kn [(5, .int .i64 0)] [1, 2, 3, 4]) (fun _ => kN [] [1, 101]) fun _ a u hE hS => ?_
  refine wp_block ?_
  refine loop_k hE hS l.length (fun k _ => kd [5] [(5, .int .i64 (k : Nat))]) (fun _ x => kP [(1, some (.buf (p3 5).g (pz x.y N)))]) (fun k (x : Lx (List Int)) => x.n = 0 ∧ x.y = be32 s ++ be32 m ++ (l.take k).flatMap (fun x => be16 x.id ++ be16 x.mask)) ⟨pay0, 0, [], be32 s ++ be32 m⟩ (by simp) ?_
  intro k x a u hk hI hE hS K hK
  obtain ⟨hk1, hk2⟩ := hI
  obtain ⟨q0, n0, xs0, y⟩ := x
  simp only at hk1 hk2
  by_cases hlt : k < l.length
  · have hr1 := hok _ (List.getElem_mem hlt)
    have hS := stp_el hS 90 (el_at hr (fun _ _ => rfl) rfl (fun g hg => ⟨hg, id⟩) k hlt (by omega))
    generalize hrk : l[k] = r at hS hr1
    obtain ⟨b0, o0, rfl, _⟩ : ElAt (fun _ => False) w A (k * 2) (Pair.cells r) := hS.pure_ 90 (by kernel_rfl)
    have hyl : y.length = 8 + 4 * k := by rw [hk2]; have := fl_len (l.take k) (fun x => be16 x.id ++ be16 x.mask) 4 (fun x => rfl); simp only [List.length_take] at this; simp only [List.length_append, List.length_cons, List.length_nil, be32_len]; omega
    refine wp_seq ?_
    refine rgp hE hS [pu, pu, ld 101, pu, pe (.bool true)] (fun _ => kp [(34, .bool true)]) (fun _ => kP []) (fun _ => ⟨kr (congrArg Value.bool (decide_eq_true (show ((k : Nat) : Int) < ((l.length : Nat) : Int) by omega))), trivial⟩) fun _ a u hE hS => ?_
    refine ift hE ?_
    refine wp_skip ?_
    refine wp_seq ?_
    refine wp_block ?_
    refine dgp hE hS [pu, pu, pe (.int .i64 ((4 * k : Nat) : Int)), pe (.int .i64 ((8 + 4 * k : Nat) : Int)), sc, pu, ld 101, pu, ie 90, pu, le 90 0, cl put16c [] [1]] (fun _ => kp []) (fun _ => kP [(1, some (.buf (p3 5).g (put (pz y N) (0 + (8 + 4 * k) * 1) (be16 r.id))))]) (fun _ => ⟨kr (congrArg (Value.int .i64) (show IntKind.i64.wrap ((4 : Int) * ((k : Nat) : Int)) = ((4 * k : Nat) : Int) from by rw [IntWalk.i64_in _ (by omega)]; omega)), kr (congrArg (Value.int .i64) (show IntKind.i64.wrap ((8 : Int) + ((4 * k : Nat) : Int)) = ((8 + 4 * k : Nat) : Int) from by rw [IntWalk.i64_in _ (by omega)]; omega)), kr (show 8 + 4 * k ≤ N ∧ N ≤ N ∧ (8 + 4 * k < N ∨ 8 + 4 * k = 0) by omega), kr (show k < l.length from hlt), kr (show 2 ≤ N - (8 + 4 * k) ∧ 0 + (8 + 4 * k) * 1 + 2 ≤ (pz y N).length ∧ 0 ≤ r.id ∧ r.id < 65536 from ⟨by omega, by rw [pz_len _ _ (by omega)]; omega, hr1.1, hr1.2.1⟩), trivial⟩) fun _ a u hE hS => ?_
    rw [put_pz (y) (be16 r.id) N (0 + (8 + 4 * k) * 1) (by omega) (by rw [be16_len]; omega)] at hS
    refine dgE hE hS [pu, pu, pe (.int .i64 ((4 * k : Nat) : Int)), pe (.int .i64 ((8 + 4 * k : Nat) : Int)), pe (.int .i64 ((8 + 4 * k + 2 : Nat) : Int)), sc, pu, ld 101, pu, ie 90, pu, le 90 1, cl put16c [] [1]] (fun _ => kp []) (fun _ => kP [(1, some (.buf (p3 5).g (put (pz (y ++ be16 r.id) N) (0 + (8 + 4 * k + 2) * 1) (be16 r.mask))))]) (fun _ => ⟨kr (congrArg (Value.int .i64) (show IntKind.i64.wrap ((4 : Int) * ((k : Nat) : Int)) = ((4 * k : Nat) : Int) from by rw [IntWalk.i64_in _ (by omega)]; omega)), kr (congrArg (Value.int .i64) (show IntKind.i64.wrap ((8 : Int) + ((4 * k : Nat) : Int)) = ((8 + 4 * k : Nat) : Int) from by rw [IntWalk.i64_in _ (by omega)]; omega)), kr (congrArg (Value.int .i64) (show IntKind.i64.wrap (((8 + 4 * k : Nat) : Int) + (2 : Int)) = ((8 + 4 * k + 2 : Nat) : Int) from by rw [IntWalk.i64_in _ (by omega)]; omega)), kr (show 8 + 4 * k + 2 ≤ N ∧ N ≤ N ∧ (8 + 4 * k + 2 < N ∨ 8 + 4 * k + 2 = 0) by omega), kr (show k < l.length from hlt), kr (show 2 ≤ N - (8 + 4 * k + 2) ∧ 0 + (8 + 4 * k + 2) * 1 + 2 ≤ (pz (y ++ be16 r.id) N).length ∧ 0 ≤ r.mask ∧ r.mask < 65536 from ⟨by omega, by rw [pz_len _ _ (by rw [List.length_append, be16_len]; omega)]; omega, hr1.2.2.1, hr1.2.2.2⟩), trivial⟩) fun _ a u hE hS => ?_
    rw [put_pz (y ++ be16 r.id) (be16 r.mask) N (0 + (8 + 4 * k + 2) * 1) (by rw [List.length_append, be16_len]; omega) (by rw [be16_len]; omega)] at hS
    refine rgE hE hS [pu, pe (.int .i64 ((k + 1 : Nat) : Int)), pu] (fun _ => kp [(5, .int .i64 (k + 1 : Nat))]) (fun _ => kP []) (fun _ => ⟨kr (congrArg (Value.int .i64) (show IntKind.i64.wrap (((k : Nat) : Int) + (1 : Int)) = ((k + 1 : Nat) : Int) from by rw [IntWalk.i64_in _ (by omega)]; omega)), trivial⟩) fun _ a u hE hS => ?_
    exact hK ⟨pay0, 0, [], y ++ be16 r.id ++ be16 r.mask⟩ a u _ _ hlt ⟨rfl, by show y ++ be16 r.id ++ be16 r.mask = _; rw [hk2, List.take_succ_eq_append_getElem hlt, List.flatMap_append, hrk]; simp⟩ hE hS (by kernel_rfl)
  · obtain rfl : k = l.length := by omega
    rw [List.take_length] at hk2
    subst hk2
    refine wp_seq ?_
    refine rgp hE hS [pu, pu, ld 101, pu, pe (.bool false)] (fun _ => kp [(34, .bool false)]) (fun _ => kP []) (fun _ => ⟨kr (congrArg Value.bool (decide_eq_false (show ¬ (((l.length : Nat) : Int) < ((l.length : Nat) : Int)) by omega))), trivial⟩) fun _ a u hE hS => ?_
    refine iff hE ?_
    refine wp_exit ?_
    refine rgp hE hS [cu 144 [101] [] (fun _ => .agg #[.bool false, .int .u8 1, .int .u8 205, .int .u16 ((((12 + 4 * l.length : Nat) : Int) / 4 - 1) % 65536)]) (fun _ => []), nw 96, st 96] (fun p12 => kp [(6, pt (p12 1).g 0)]) (fun p12 => kP [(96, some (.blk (p12 1).g 239 #[.bool false, .int .u8 1, .int .u8 205, .int .u16 ((((12 + 4 * l.length : Nat) : Int) / 4 - 1) % 65536)]))]) (fun _ => ⟨kr (cu_val (P := Tryz.prog) (w0 := w) 101 (p1 0).g 170 #[.int .u32 s, .int .u32 m, .slice A (l.length : Nat) c] 144 #[.pointer (some ⟨(p1 0).g, 0, none⟩)] (.agg #[.bool false, .int .u8 1, .int .u8 205, .int .u16 ((((12 + 4 * l.length : Nat) : Int) / 4 - 1) % 65536)]) (fun w4 hB hz hb => nackhdr_any (p1 0).g w4 _ A l.length c _ _ hb (by omega))), trivial⟩) fun p12 a u hE hS => ?_
    refine rgp hE hS [ld 96, cu 106 [] [95] (fun y => .tuple #[.slice (some ⟨y.g, 0, none⟩) 4 4, .nilIface]) (fun y => [some (.bytes w.heap.size (.slice (some ⟨y.g, 0, none⟩) 4 4) (hdrB 1 205 (((((12 + 4 * l.length : Nat) : Int) / 4 - 1) % 65536))))]), pu, pu, pu, pu, pu] (fun p13 => kn [(7, sv (p13 1).g 0 4 4), (8, .nilIface)] [2, 3, 4]) (fun p13 => kN [(95, some (.bytes w.heap.size (sv (p13 1).g 0 4 4) (hdrB 1 205 (((((12 + 4 * l.length : Nat) : Int) / 4 - 1) % 65536)))))] [1]) (fun _ => ⟨kr (cu_bufB (P := Tryz.prog) (w0 := w) (ps := [none]) 95 106 #[.agg #[.bool false, .int .u8 1, .int .u8 205, .int .u16 (((((12 + 4 * l.length : Nat) : Int) / 4 - 1) % 65536))]] (fun g => .tuple #[.slice (some ⟨g, 0, none⟩) 4 4, .nilIface]) (hdrB 1 205 (((((12 + 4 * l.length : Nat) : Int) / 4 - 1) % 65536))) 4 rfl (by simp [hdrB, be16_len]) (fun w4 hB hz => hdrMar_any _ _ _ w4 (by omega) (by omega) (by omega) (by omega))), trivial⟩) fun p13 a u hE hS => ?_
    rw [pz_full (be32 s ++ be32 m ++ l.flatMap (fun x => be16 x.id ++ be16 x.mask)) N (by simp only [List.length_append, List.length_nil, be32_len, hfl]; omega)] at hS
    obtain rfl : N = (be32 s ++ be32 m ++ l.flatMap (fun x => be16 x.id ++ be16 x.mask)).length := by simp only [List.length_append, be32_len, hfl]; omega
    refine wp_seq ?_
    refine rg hE hS [pu, pu] (fun _ => kp [(69, .bool false)]) (fun _ => kP []) fun _ a u hE hS => ?_
    refine iff hE ?_
    refine wp_skip ?_
    refine rgp hE hS [pu, pu, ab .buf 95 1, pu, pu] (fun p15 => kp [(2, .slice (p15 2).a (hdrB 1 205 (((((12 + 4 * l.length : Nat) : Int) / 4 - 1) % 65536)) ++ (be32 s ++ be32 m ++ l.flatMap (fun x => be16 x.id ++ be16 x.mask))).length (p15 2).c)]) (fun p15 => kP [(95, some (.bytes w.heap.size (.slice (p15 2).a (hdrB 1 205 (((((12 + 4 * l.length : Nat) : Int) / 4 - 1) % 65536)) ++ (be32 s ++ be32 m ++ l.flatMap (fun x => be16 x.id ++ be16 x.mask))).length (p15 2).c) (hdrB 1 205 (((((12 + 4 * l.length : Nat) : Int) / 4 - 1) % 65536)) ++ (be32 s ++ be32 m ++ l.flatMap (fun x => be16 x.id ++ be16 x.mask)))))]) (fun _ => ⟨kr (show w.heap.size ≤ w.heap.size ∧ (hdrB 1 205 (((((12 + 4 * l.length : Nat) : Int) / 4 - 1) % 65536)) ++ (be32 s ++ be32 m ++ l.flatMap (fun x => be16 x.id ++ be16 x.mask))).length ≤ 140737488355328 from ⟨Nat.le_refl _, by simp only [hdrB, List.length_append, List.length_cons, List.length_nil, be32_len, be64_len, be16_len, hfl]; omega⟩), trivial⟩) fun p15 a u hE hS => ?_
    refine wp_ret ?_
    exact ret2 hE Tryz.results141 (.slice (p15 2).a (hdrB 1 205 (((((12 + 4 * l.length : Nat) : Int) / 4 - 1) % 65536)) ++ (be32 s ++ be32 m ++ l.flatMap (fun x => be16 x.id ++ be16 x.mask))).length (p15 2).c) .nilIface ⟨(p15 2).a, (p15 2).c, rfl, pcO (base := w.heap.size) hS 95, hS.below⟩
theorem size_5 (g : Nat) (w : World) (T : TypeId) (x y z : Value) (A : Option Addr) (n c : Nat) (hb : Blk w g T #[x, y, z, .slice A (n : Nat) c]) (hn : n ≤ 1048576) (h4 : n % 4 = 0) : Calls Tryz.prog 138 #[.pointer (some ⟨g, 0, none⟩)] w fun e w' => e = .returned (.int .i64 (12 + n : Nat)) ∧ Below w.heap.size w w' := by
  have hrem : Int.tmod ((n : Nat) : Int) 4 = 0 := by rw [Int.tmod_eq_emod_of_nonneg (by omega)]; omega
  refine go_in Tryz.func138 rfl Tryz.ntmps138 [pt g 0] fun a hE => ?_
  have hS := stp_in w
  have hS := stp_oldB hS 101 hb
  refine rg hE hS [pu] (fun _ => kp [(2, .int .i64 0)]) (fun _ => kP []) fun _ a u hE hS => ?_
  refine rg hE hS [pu, pu, pu, lo 101 3, pu, pu] (fun _ => kp [(3, .int .i64 (n : Nat))]) (fun _ => kP []) fun _ a u hE hS => ?_
  refine rgp hE hS [pu, pe (.int .i64 0), pu, pu] (fun _ => kp [(4, .int .i64 4)]) (fun _ => kP []) (fun _ => ⟨kr (congrArg (Value.int .i64) hrem), trivial⟩) fun _ a u hE hS => ?_
  refine wp_seq ?_
  refine rg hE hS [pu, pu] (fun _ => kp [(14, .bool true)]) (fun _ => kP []) fun _ a u hE hS => ?_
  refine ift hE ?_
  refine rgE hE hS [pu] (fun _ => kp [(4, .int .i64 0)]) (fun _ => kP []) (fun _ => trivial) fun _ a u hE hS => ?_
  refine rgp hE hS [pu, pe (.int .i64 ((12 + n : Nat) : Int)), pu, pe (.int .i64 ((12 + n : Nat) : Int)), pu] (fun _ => kp [(2, .int .i64 (12 + n : Nat))]) (fun _ => kP []) (fun _ => ⟨kr (congrArg (Value.int .i64) (show IntKind.i64.wrap ((12 : Int) + ((n : Nat) : Int)) = ((12 + n : Nat) : Int) from by rw [IntWalk.i64_in _ (by omega)]; omega)), kr (congrArg (Value.int .i64) (show IntKind.i64.wrap (((12 + n : Nat) : Int) + 0) = ((12 + n : Nat) : Int) from by rw [IntWalk.i64_in _ (by omega)]; omega)), trivial⟩) fun _ a u hE hS => ?_
  refine wp_ret ?_
  exact ret1 hE Tryz.results138 (.int .i64 (12 + n : Nat)) ⟨rfl, hS.below⟩
set_option maxHeartbeats 4000000 in
set_option maxRecDepth 100000 in
theorem mar_5 (sub s : Int) (t : ByteArray) (A : Option Addr) (c : Nat) (d : List Int) (w : World) (hx : Reads w w.heap.size 1 A d.length (u8s d)) (hd : d.length ≤ 65520) (h4 : d.length % 4 = 0) (ht : t.size = 4) (hsub : 0 ≤ sub ∧ sub ≤ 31) (hs : 0 ≤ s ∧ s < 4294967296) :
    Calls Tryz.prog 137 #[.agg #[.int .u8 sub, .int .u32 s, .string t, .slice A (d.length : Nat) c]] w (MarOut w (hdrB sub 204 ((((4 + (be32 s ++ sb t ++ d).length : Nat) : Int) / 4 - 1) % 65536) ++ (be32 s ++ sb t ++ d))) := by
  obtain ⟨N, hN⟩ : ∃ N, N = 12 + d.length := ⟨_, rfl⟩
  have hfl : (sb t).length = 4 := by rw [sb_len, ht]
  have hBN : 4 + (be32 s ++ sb t ++ d).length = N := by simp only [List.length_append, be32_len, hfl]; omega
  rw [hBN]
  have hrem : Int.tmod ((d.length : Nat) : Int) 4 = 0 := by rw [Int.tmod_eq_emod_of_nonneg (by omega)]; omega
  have hq : IntKind.i64.wrap (Int.tdiv ((N : Nat) : Int) 4) = (N : Int) / 4 := by rw [Int.tdiv_eq_ediv_of_nonneg (by omega), IntWalk.i64_in _ (by omega)]
  have hn4 : (!(((t.size : Nat) : Int) == 4)) = false := by rw [ht]; rfl
  refine go_in Tryz.func137 rfl Tryz.ntmps137 [.agg #[.int .u8 sub, .int .u32 s, .string t, .slice A (d.length : Nat) c]] fun a hE => ?_
  have hS := stp_in w
  have hl16 : IntKind.u16.wrap (IntKind.i64.wrap (((N : Nat) : Int) / 4 - 1)) = ((((N : Nat) : Int) / 4 - 1) % 65536) := by rw [IntWalk.i64_in _ (by omega), IntKind.wrap_u16]
  refine rg hE hS [nw 101, pu, pu] (fun p1 => kp [(1, pt (p1 0).g 0), (2, .slice none 0 0), (3, .nilIface)]) (fun p1 => kP [(101, some (.blk (p1 0).g 166 #[.int .u8 sub, .int .u32 s, .string t, .slice A (d.length : Nat) c]))]) fun p1 a u hE hS => ?_
  refine rg hE hS [pu, ld 101, pu, pu] (fun _ => kp [(4, .int .i64 (d.length : Nat))]) (fun _ => kP []) fun _ a u hE hS => ?_
  refine wp_seq ?_
  refine rgp hE hS [pu, pe (.bool false)] (fun _ => kp [(16, .bool false)]) (fun _ => kP []) (fun _ => ⟨kr (congrArg Value.bool (decide_eq_false (show ¬ (((d.length : Nat) : Int) > 65523) by omega))), trivial⟩) fun _ a u hE hS => ?_
  refine iff hE ?_
  refine wp_skip ?_
  refine wp_seq ?_
  refine rgp hE hS [pu, ld 101, pu, pe (.bool false)] (fun _ => kp [(21, .bool false)]) (fun _ => kP []) (fun _ => ⟨kr (congrArg Value.bool hn4), trivial⟩) fun _ a u hE hS => ?_
  refine iff hE ?_
  refine wp_skip ?_
  refine rgp hE hS [pu, pe (.int .i64 0), pu, pu] (fun _ => kp [(5, .int .i64 4)]) (fun _ => kP []) (fun _ => ⟨kr (congrArg (Value.int .i64) hrem), trivial⟩) fun _ a u hE hS => ?_
  refine wp_seq ?_
  refine rg hE hS [pu, pu] (fun _ => kp [(27, .bool true)]) (fun _ => kP []) fun _ a u hE hS => ?_
  refine ift hE ?_
  refine rgE hE hS [pu] (fun _ => kp [(5, .int .i64 0)]) (fun _ => kP []) (fun _ => trivial) fun _ a u hE hS => ?_
  refine rgp hE hS [cu 138 [101] [] (fun _ => .int .i64 (N : Nat)) (fun _ => []), pu] (fun _ => kp [(6, .int .i64 (N : Nat))]) (fun _ => kP []) (fun _ => ⟨kr (cu_val (P := Tryz.prog) (w0 := w) 101 (p1 0).g 166 #[.int .u8 sub, .int .u32 s, .string t, .slice A (d.length : Nat) c] 138 #[.pointer (some ⟨(p1 0).g, 0, none⟩)] (.int .i64 (N : Nat)) (fun w4 hB hz hb => by rw [hN]; exact size_5 (p1 0).g w4 _ _ _ _ A d.length c hb (by omega) h4)), trivial⟩) fun _ a u hE hS => ?_
  refine rgp hE hS [pu, pe (.int .i64 (((N : Nat) : Int) / 4)), pu, pe (.int .u16 ((((N : Nat) : Int) / 4 - 1) % 65536)), pu, pu, pu, ld 101, pu, nw 96, st 96] (fun p9 => kp [(7, pt (p9 9).g 0)]) (fun p9 => kP [(96, some (.blk (p9 9).g 239 #[.bool false, .int .u8 sub, .int .u8 204, .int .u16 ((((N : Nat) : Int) / 4 - 1) % 65536)]))]) (fun _ => ⟨kr (congrArg (Value.int .i64) hq), kr (congrArg (Value.int .u16) hl16), trivial⟩) fun p9 a u hE hS => ?_
  refine rgp hE hS [ld 96, cu 106 [] [95] (fun y => .tuple #[.slice (some ⟨y.g, 0, none⟩) 4 4, .nilIface]) (fun y => [some (.buf y.g (hdrB sub 204 ((((N : Nat) : Int) / 4 - 1) % 65536)))]), pu, pu, pu, pu, pu] (fun p10 => kp [(8, sv (p10 1).g 0 4 4), (9, .nilIface)]) (fun p10 => kP [(95, some (.buf (p10 1).g (hdrB sub 204 ((((N : Nat) : Int) / 4 - 1) % 65536))))]) (fun _ => ⟨kr (cu_buf (P := Tryz.prog) (w0 := w) (ps := [none]) 95 106 #[.agg #[.bool false, .int .u8 sub, .int .u8 204, .int .u16 ((((N : Nat) : Int) / 4 - 1) % 65536)]] (fun g => .tuple #[.slice (some ⟨g, 0, none⟩) 4 4, .nilIface]) (hdrB sub 204 ((((N : Nat) : Int) / 4 - 1) % 65536)) (fun w4 hB hz => hdrMar_any _ _ _ w4 (by omega) (by omega) (by omega) (by omega))), trivial⟩) fun p10 a u hE hS => ?_
  refine wp_seq ?_
  refine rg hE hS [pu, pu] (fun _ => kn [(44, .bool false)] [1, 2, 3, 4, 5, 6, 8, 9]) (fun _ => kN [] [95, 101]) fun _ a u hE hS => ?_
  refine iff hE ?_
  refine wp_skip ?_
  refine rgp hE hS [pu, mk 1, pu] (fun p12 => kp [(10, sv (p12 1).g 0 N N)]) (fun p12 => kP [(1, some (.buf (p12 1).g (List.replicate N 0)))]) (fun _ => ⟨kr (show N ≤ 140737488355328 by omega), trivial⟩) fun p12 a u hE hS => ?_
  rw [pz_start0 N] at hS
  refine rgp hE hS [pu, pu, cp .buf 1 95] (fun _ => kp []) (fun _ => kP [(1, some (.buf (p12 1).g (put (pz [] N) 0 (hdrB sub 204 ((((N : Nat) : Int) / 4 - 1) % 65536)))))]) (fun _ => ⟨kr (show (hdrB sub 204 ((((N : Nat) : Int) / 4 - 1) % 65536)).length ≤ N ∧ 0 + (hdrB sub 204 ((((N : Nat) : Int) / 4 - 1) % 65536)).length ≤ (pz [] N).length from by rw [pz_len _ _ (by simp), show (hdrB sub 204 ((((N : Nat) : Int) / 4 - 1) % 65536)).length = 4 from rfl]; omega), trivial⟩) fun _ a u hE hS => ?_
  rw [put_pz ([]) (hdrB sub 204 ((((N : Nat) : Int) / 4 - 1) % 65536)) N (0) (rfl) (by rw [show (hdrB sub 204 ((((N : Nat) : Int) / 4 - 1) % 65536)).length = 4 from rfl]; omega)] at hS
  refine dgp hE hS [pu, sc, pu, ld 101, cl put32c [] [1]] (fun _ => kp []) (fun _ => kP [(1, some (.buf (p12 1).g (put (pz (hdrB sub 204 ((((N : Nat) : Int) / 4 - 1) % 65536)) N) 4 (be32 s))))]) (fun _ => ⟨kr (show 4 ≤ 8 ∧ 8 ≤ N ∧ (4 < N ∨ 4 = 0) by omega), kr (show 4 ≤ 4 ∧ 4 + 4 ≤ (pz (hdrB sub 204 ((((N : Nat) : Int) / 4 - 1) % 65536)) N).length ∧ 0 ≤ s ∧ s < 4294967296 from ⟨by omega, by rw [pz_len _ _ (by simp only [hdrB, List.length_append, List.length_cons, List.length_nil, be32_len, be16_len, hfl]; omega)]; omega, hs.1, hs.2⟩), trivial⟩) fun _ a u hE hS => ?_
  rw [put_pz (hdrB sub 204 ((((N : Nat) : Int) / 4 - 1) % 65536)) (be32 s) N (4) (rfl) (by rw [be32_len]; omega)] at hS
  refine dgp hE hS [pu, sc, pu, ld 101, cp .str 1 1] (fun _ => kp []) (fun _ => kP [(1, some (.buf (p12 1).g (put (pz (hdrB sub 204 ((((N : Nat) : Int) / 4 - 1) % 65536) ++ be32 s) N) 8 (sb t))))]) (fun _ => ⟨kr (show 8 ≤ 12 ∧ 12 ≤ N ∧ (8 < N ∨ 8 = 0) by omega), kr (show (sb t).length ≤ 4 ∧ 8 + (sb t).length ≤ (pz (hdrB sub 204 ((((N : Nat) : Int) / 4 - 1) % 65536) ++ be32 s) N).length from by rw [pz_len _ _ (by simp only [hdrB, List.length_append, List.length_cons, List.length_nil, be32_len, be16_len, hfl]; omega), hfl]; omega), trivial⟩) fun _ a u hE hS => ?_
  rw [put_pz (hdrB sub 204 ((((N : Nat) : Int) / 4 - 1) % 65536) ++ be32 s) (sb t) N (8) (rfl) (by rw [hfl]; omega)] at hS
  have hS := stp_rd hS 93 hx (fun g hg => ⟨hg, id⟩)
  refine dgp hE hS [pu, sx, pu, ld 101, cp .rd 1 93] (fun _ => kp []) (fun _ => kP [(1, some (.buf (p12 1).g (put (pz (hdrB sub 204 ((((N : Nat) : Int) / 4 - 1) % 65536) ++ be32 s ++ sb t) N) (bif Nat.beq N 12 then 0 else 0 + 12 * 1) d)))]) (fun _ => ⟨kr (show 12 ≤ N ∧ N ≤ N by omega), kr (show d.length ≤ N - 12 ∧ (bif Nat.beq N 12 then 0 else 0 + 12 * 1) + d.length ≤ (pz (hdrB sub 204 ((((N : Nat) : Int) / 4 - 1) % 65536) ++ be32 s ++ sb t) N).length from by rw [pz_len _ _ (by simp only [hdrB, List.length_append, List.length_cons, List.length_nil, be32_len, be16_len, hfl]; omega)]; cases Nat.beq N 12 <;> simp only [cond_true, cond_false] <;> omega), trivial⟩) fun _ a u hE hS => ?_
  rw [put_pzE (hdrB sub 204 ((((N : Nat) : Int) / 4 - 1) % 65536) ++ be32 s ++ sb t) d N (bif Nat.beq N 12 then 0 else 0 + 12 * 1) (by cases hq : Nat.beq N 12 with
    | true => exact .inr (by have := Nat.eq_of_beq_eq_true hq; omega)
    | false => exact .inl (by simp only [cond_false, hdrB, List.length_append, List.length_cons, List.length_nil, be32_len, be16_len, hfl] <;> omega)) (by simp only [hdrB, List.length_append, List.length_cons, List.length_nil, be32_len, be16_len, hfl]; omega)] at hS
  rw [pz_full _ _ (by simp only [hdrB, List.length_append, List.length_cons, List.length_nil, be32_len, be16_len, hfl]; omega)] at hS
  refine wp_seq ?_
  refine rg hE hS [pu, pu] (fun _ => kn [(67, .bool false)] [2, 3, 4, 5, 10]) (fun _ => kN [] [1, 95]) fun _ a u hE hS => ?_
  refine iff hE ?_
  refine wp_skip ?_
  refine rg hE hS [pu, pu, pu] (fun _ => kp [(2, sv (p12 1).g 0 N N)]) (fun _ => kP []) fun _ a u hE hS => ?_
  refine wp_ret ?_
  have hbuf : Buf u (p12 1).g (hdrB sub 204 ((((N : Nat) : Int) / 4 - 1) % 65536) ++ (be32 s ++ sb t ++ d)) := by have : Buf u (p12 1).g (hdrB sub 204 ((((N : Nat) : Int) / 4 - 1) % 65536) ++ be32 s ++ sb t ++ d) := pcF hS 1; simpa only [List.append_assoc] using this
  exact ret2 hE Tryz.results137 (sv (p12 1).g 0 N N) .nilIface (MarOut.buf hbuf (pcG (g := (p12 1).g) (bs := hdrB sub 204 ((((N : Nat) : Int) / 4 - 1) % 65536) ++ be32 s ++ sb t ++ d) hS 1) hS.below (by simp only [hdrB, List.length_append, List.length_cons, List.length_nil, be32_len, be16_len, hfl]; omega) (by simp only [hdrB, List.length_append, List.length_cons, List.length_nil, be32_len, be16_len, hfl]; omega))
/-- A call that hands back a value. -/
theorem cu_pure {P : Program} {w0 : World} {ps : List (Option Pc)} (f : FuncId) (args : Array Value) (v : Value)
    (h : ∀ w, Calls P f args w fun e w' => e = .returned v ∧ Below w.heap.size w w')
    (L : PL) (w : World) (_ : ps = ([] ++ []).map (lookP L)) (_ : Stp (fun _ => False) w0 w (restr ([] ++ []) (lookM (den (fun _ => False) w0 L)))) :
    Calls P f args w fun e w' => ∃ x : Pay, e = .returned v ∧ Stp (blksOf (lookM (den (fun _ => False) w0 L)) []) w w' (lookM (den (fun _ => False) w0 (zipW [] []))) :=
  (h w).mono fun e w' ⟨he, hB⟩ => ⟨pay0, he, stp_of_below hB⟩
theorem or16k {x y : Int} (i : Nat) (hx0 : 0 ≤ x) (hx : x % 2 ^ i = 0) (hx1 : x < 65536) (hy0 : 0 ≤ y) (hy : y < 2 ^ i) (hy1 : y < 65536) : bits .or .u16 x y = x + y :=
  bits_join .u16 16 (by decide) (fun n h0 h1 => by rw [IntKind.wrap_u16]; omega) i x y hx0 hx (by omega) hy0 hy (by omega)
theorem metV_sum (x : Met) (h0 : 0 ≤ x.ecn) (h1 : x.ecn < 4) (h2 : 0 ≤ x.off) (h3 : x.off < 8192) : metV x = (if x.rcv then 32768 else 0) + x.ecn * 8192 + x.off := by
  have e1 : IntKind.u16.wrap (IntKind.u16.wrap x.ecn * 8192) = x.ecn * 8192 := by rw [IntKind.wrap_u16, IntKind.wrap_u16]; omega
  have e2 : metW x = x.ecn * 8192 + x.off := by rw [metW, e1, or16k 13 (by omega) (by omega) (by omega) h2 (by omega) (by omega)]
  unfold metV
  rw [e2]
  split
  · rw [show bits .or .u16 (x.ecn * 8192 + x.off) 32768 = bits .or .u16 32768 (x.ecn * 8192 + x.off) by simp [bits, BitVec.or_comm], or16k 15 (by omega) (by omega) (by omega) (by omega) (by omega) (by omega)]; omega
  · omega
theorem u16_and1 (x : Int) (h0 : 0 ≤ x) (h1 : x < 2) : bits .and .u16 x 1 = x := by
  have h31 : (BitVec.ofInt 16 1).toNat = 2 ^ 1 - 1 := by decide
  have key : (BitVec.ofInt 16 x &&& BitVec.ofInt 16 1).toNat = (x % ((2 ^ 16 : Nat) : Int)).toNat % 2 ^ 1 := by
    rw [BitVec.toNat_and, BitVec.toNat_ofInt, h31, Nat.and_two_pow_sub_one_eq_mod]
  show IntKind.u16.wrap ((BitVec.ofInt 16 x &&& BitVec.ofInt 16 1).toNat : Nat) = x
  rw [key, IntKind.wrap_u16]
  omega
theorem u16_and2 (x : Int) (h0 : 0 ≤ x) (h1 : x < 4) : bits .and .u16 x 3 = x := by
  have h31 : (BitVec.ofInt 16 3).toNat = 2 ^ 2 - 1 := by decide
  have key : (BitVec.ofInt 16 x &&& BitVec.ofInt 16 3).toNat = (x % ((2 ^ 16 : Nat) : Int)).toNat % 2 ^ 2 := by
    rw [BitVec.toNat_and, BitVec.toNat_ofInt, h31, Nat.and_two_pow_sub_one_eq_mod]
  show IntKind.u16.wrap ((BitVec.ofInt 16 x &&& BitVec.ofInt 16 3).toNat : Nat) = x
  rw [key, IntKind.wrap_u16]
  omega
theorem u16_and13 (x : Int) (h0 : 0 ≤ x) (h1 : x < 8192) : bits .and .u16 x 8191 = x := by
  have h31 : (BitVec.ofInt 16 8191).toNat = 2 ^ 13 - 1 := by decide
  have key : (BitVec.ofInt 16 x &&& BitVec.ofInt 16 8191).toNat = (x % ((2 ^ 16 : Nat) : Int)).toNat % 2 ^ 13 := by
    rw [BitVec.toNat_and, BitVec.toNat_ofInt, h31, Nat.and_two_pow_sub_one_eq_mod]
  show IntKind.u16.wrap ((BitVec.ofInt 16 x &&& BitVec.ofInt 16 8191).toNat : Nat) = x
  rw [key, IntKind.wrap_u16]
  omega
set_option maxRecDepth 100000 in
theorem setn_1 (v : Int) (w : World) (hv0 : 0 ≤ v) (hv1 : v < 2) : Calls Tryz.prog 161 #[.int .u16 0, .int .u16 1, .int .u16 0, .int .u16 v] w fun e w' => e = .returned (.tuple #[.int .u16 (0 + v * 32768), .nilIface]) ∧ Below w.heap.size w w' := by
  have h1 := u16_and1 v hv0 hv1
  have h2 : IntKind.u16.wrap (v * 32768) = v * 32768 := by rw [IntKind.wrap_u16]; omega
  have h3 : bits .or .u16 0 (v * 32768) = 0 + v * 32768 := or16k 16 (by omega) (by omega) (by omega) (by omega) (by omega) (by omega)
  refine go_in Tryz.func161 rfl Tryz.ntmps161 [.int .u16 0, .int .u16 1, .int .u16 0, .int .u16 v] fun a hE => ?_
  have hS := stp_in w
  refine rg hE hS [pu, pu] (fun _ => kp [(8, .int .u16 0), (9, .nilIface)]) (fun _ => kP []) fun _ a u hE hS => ?_
  refine wp_seq ?_
  refine rg hE hS [pu, pu, pu, pu] (fun _ => kp [(13, .bool false)]) (fun _ => kP []) fun _ a u hE hS => ?_
  refine iff hE ?_
  refine wp_skip ?_
  refine rgp hE hS [pu, pu, pu, pu, pe (.int .u16 v), pu] (fun _ => kp []) (fun _ => kP []) (fun _ => ⟨kr (congrArg (Value.int .u16) h1), trivial⟩) fun _ a u hE hS => ?_
  refine rgp hE hS [pu, pu, pu, pu, pu, pu, pe (.int .u16 (v * 32768)), pe (.int .u16 (0 + v * 32768)), pu, pu] (fun _ => kp [(8, .int .u16 (0 + v * 32768))]) (fun _ => kP []) (fun _ => ⟨kr (congrArg (Value.int .u16) h2), kr (congrArg (Value.int .u16) h3), trivial⟩) fun _ a u hE hS => ?_
  refine wp_ret ?_
  exact ret2 hE Tryz.results161 (.int .u16 (0 + v * 32768)) .nilIface ⟨rfl, hS.below⟩
set_option maxRecDepth 100000 in
theorem setn_2 (x v : Int) (w : World) (hx0 : 0 ≤ x) (hx1 : x < 65536) (hx2 : x % 32768 = 0) (hv0 : 0 ≤ v) (hv1 : v < 4) : Calls Tryz.prog 161 #[.int .u16 x, .int .u16 2, .int .u16 1, .int .u16 v] w fun e w' => e = .returned (.tuple #[.int .u16 (x + v * 8192), .nilIface]) ∧ Below w.heap.size w w' := by
  have h1 := u16_and2 v hv0 hv1
  have h2 : IntKind.u16.wrap (v * 8192) = v * 8192 := by rw [IntKind.wrap_u16]; omega
  have h3 : bits .or .u16 x (v * 8192) = x + v * 8192 := or16k 15 (by omega) (by omega) (by omega) (by omega) (by omega) (by omega)
  refine go_in Tryz.func161 rfl Tryz.ntmps161 [.int .u16 x, .int .u16 2, .int .u16 1, .int .u16 v] fun a hE => ?_
  have hS := stp_in w
  refine rg hE hS [pu, pu] (fun _ => kp [(8, .int .u16 0), (9, .nilIface)]) (fun _ => kP []) fun _ a u hE hS => ?_
  refine wp_seq ?_
  refine rg hE hS [pu, pu, pu, pu] (fun _ => kp [(13, .bool false)]) (fun _ => kP []) fun _ a u hE hS => ?_
  refine iff hE ?_
  refine wp_skip ?_
  refine rgp hE hS [pu, pu, pu, pu, pe (.int .u16 v), pu] (fun _ => kp []) (fun _ => kP []) (fun _ => ⟨kr (congrArg (Value.int .u16) h1), trivial⟩) fun _ a u hE hS => ?_
  refine rgp hE hS [pu, pu, pu, pu, pu, pu, pe (.int .u16 (v * 8192)), pe (.int .u16 (x + v * 8192)), pu, pu] (fun _ => kp [(8, .int .u16 (x + v * 8192))]) (fun _ => kP []) (fun _ => ⟨kr (congrArg (Value.int .u16) h2), kr (congrArg (Value.int .u16) h3), trivial⟩) fun _ a u hE hS => ?_
  refine wp_ret ?_
  exact ret2 hE Tryz.results161 (.int .u16 (x + v * 8192)) .nilIface ⟨rfl, hS.below⟩
set_option maxRecDepth 100000 in
theorem setn_13 (x v : Int) (w : World) (hx0 : 0 ≤ x) (hx1 : x < 65536) (hx2 : x % 8192 = 0) (hv0 : 0 ≤ v) (hv1 : v < 8192) : Calls Tryz.prog 161 #[.int .u16 x, .int .u16 13, .int .u16 3, .int .u16 v] w fun e w' => e = .returned (.tuple #[.int .u16 (x + v * 1), .nilIface]) ∧ Below w.heap.size w w' := by
  have h1 := u16_and13 v hv0 hv1
  have h2 : IntKind.u16.wrap (v * 1) = v * 1 := by rw [IntKind.wrap_u16]; omega
  have h3 : bits .or .u16 x (v * 1) = x + v * 1 := or16k 13 (by omega) (by omega) (by omega) (by omega) (by omega) (by omega)
  refine go_in Tryz.func161 rfl Tryz.ntmps161 [.int .u16 x, .int .u16 13, .int .u16 3, .int .u16 v] fun a hE => ?_
  have hS := stp_in w
  refine rg hE hS [pu, pu] (fun _ => kp [(8, .int .u16 0), (9, .nilIface)]) (fun _ => kP []) fun _ a u hE hS => ?_
  refine wp_seq ?_
  refine rg hE hS [pu, pu, pu, pu] (fun _ => kp [(13, .bool false)]) (fun _ => kP []) fun _ a u hE hS => ?_
  refine iff hE ?_
  refine wp_skip ?_
  refine rgp hE hS [pu, pu, pu, pu, pe (.int .u16 v), pu] (fun _ => kp []) (fun _ => kP []) (fun _ => ⟨kr (congrArg (Value.int .u16) h1), trivial⟩) fun _ a u hE hS => ?_
  refine rgp hE hS [pu, pu, pu, pu, pu, pu, pe (.int .u16 (v * 1)), pe (.int .u16 (x + v * 1)), pu, pu] (fun _ => kp [(8, .int .u16 (x + v * 1))]) (fun _ => kP []) (fun _ => ⟨kr (congrArg (Value.int .u16) h2), kr (congrArg (Value.int .u16) h3), trivial⟩) fun _ a u hE hS => ?_
  refine wp_ret ?_
  exact ret2 hE Tryz.results161 (.int .u16 (x + v * 1)) .nilIface ⟨rfl, hS.below⟩
set_option maxRecDepth 100000 in
theorem metMar_true (ecn off : Int) (w : World) (he0 : 0 ≤ ecn) (he1 : ecn < 4) (ho0 : 0 ≤ off) (ho1 : off < 8192) : Calls Tryz.prog 159 #[.agg #[.bool true, .int .u8 ecn, .int .u16 off]] w fun e w' => ∃ g, e = .returned (.tuple #[.slice (some ⟨g, 0, none⟩) 2 2, .nilIface]) ∧ Buf w' g (be16 (metV ⟨true, ecn, off⟩)) ∧ w.heap.size ≤ g ∧ Below w.heap.size w w' := by
  have hw : IntKind.u16.wrap ecn = ecn := by rw [IntKind.wrap_u16]; omega
  refine go_in Tryz.func159 rfl Tryz.ntmps159 [.agg #[.bool true, .int .u8 ecn, .int .u16 off]] fun a hE => ?_
  have hS := stp_in w
  refine rg hE hS [nw 101, pu, pu] (fun p1 => kp [(1, pt (p1 0).g 0), (2, .slice none 0 0), (3, .nilIface)]) (fun p1 => kP [(101, some (.blk (p1 0).g 236 #[.bool true, .int .u8 ecn, .int .u16 off]))]) fun p1 a u hE hS => ?_
  refine rgp hE hS [mk 1, pu] (fun p2 => kp [(4, sv (p2 0).g 0 2 2)]) (fun p2 => kP [(1, some (.buf (p2 0).g (List.replicate 2 0)))]) (fun _ => ⟨kr (show 2 ≤ 140737488355328 by omega), trivial⟩) fun p2 a u hE hS => ?_
  refine rg hE hS [pu] (fun _ => kp [(5, .int .u16 0)]) (fun _ => kP []) fun _ a u hE hS => ?_
  refine wp_seq ?_
  refine rg hE hS [pu, ld 101] (fun _ => kp [(10, .bool true)]) (fun _ => kP []) fun _ a u hE hS => ?_
  refine ift hE ?_
  refine rgE hE hS [pu] (fun _ => kp [(5, .int .u16 1)]) (fun _ => kP []) (fun _ => trivial) fun _ a u hE hS => ?_
  refine rgp hE hS [pu, cu 161 [] [] (fun _ => .tuple #[.int .u16 (0 + 1 * 32768), .nilIface]) (fun _ => []), pu, pu, pu, pu, pu] (fun _ => kp [(6, .int .u16 (0 + 1 * 32768)), (7, .nilIface)]) (fun _ => kP []) (fun _ => ⟨kr (cu_pure (P := Tryz.prog) (w0 := w) (ps := []) 161 #[.int .u16 0, .int .u16 1, .int .u16 0, .int .u16 1] (.tuple #[.int .u16 (0 + 1 * 32768), .nilIface]) (fun w4 => setn_1 1 w4 (by omega) (by omega))), trivial⟩) fun _ a u hE hS => ?_
  refine wp_seq ?_
  refine rg hE hS [pu, pu] (fun _ => kp [(17, .bool false)]) (fun _ => kP []) fun _ a u hE hS => ?_
  refine iff hE ?_
  refine wp_skip ?_
  refine rgp hE hS [pu, pu, ld 101, pe (.int .u16 ecn), cu 161 [] [] (fun _ => .tuple #[.int .u16 (0 + 1 * 32768 + ecn * 8192), .nilIface]) (fun _ => []), pu, pu, pu, pu, pu] (fun _ => kp [(6, .int .u16 (0 + 1 * 32768 + ecn * 8192))]) (fun _ => kP []) (fun _ => ⟨kr (congrArg (Value.int .u16) hw), kr (cu_pure (P := Tryz.prog) (w0 := w) (ps := []) 161 #[.int .u16 (0 + 1 * 32768), .int .u16 2, .int .u16 1, .int .u16 ecn] (.tuple #[.int .u16 (0 + 1 * 32768 + ecn * 8192), .nilIface]) (fun w4 => setn_2 _ _ w4 (by omega) (by omega) (by omega) he0 he1)), trivial⟩) fun _ a u hE hS => ?_
  refine wp_seq ?_
  refine rg hE hS [pu, pu] (fun _ => kp [(28, .bool false)]) (fun _ => kP []) fun _ a u hE hS => ?_
  refine iff hE ?_
  refine wp_skip ?_
  refine rgp hE hS [pu, pu, ld 101, cu 161 [] [] (fun _ => .tuple #[.int .u16 (0 + 1 * 32768 + ecn * 8192 + off * 1), .nilIface]) (fun _ => []), pu, pu, pu, pu, pu] (fun _ => kp [(6, .int .u16 (0 + 1 * 32768 + ecn * 8192 + off * 1))]) (fun _ => kP []) (fun _ => ⟨kr (cu_pure (P := Tryz.prog) (w0 := w) (ps := []) 161 #[.int .u16 (0 + 1 * 32768 + ecn * 8192), .int .u16 13, .int .u16 3, .int .u16 off] (.tuple #[.int .u16 (0 + 1 * 32768 + ecn * 8192 + off * 1), .nilIface]) (fun w4 => setn_13 _ _ w4 (by omega) (by omega) (by omega) ho0 ho1)), trivial⟩) fun _ a u hE hS => ?_
  refine wp_seq ?_
  refine rg hE hS [pu, pu] (fun _ => kn [(38, .bool false)] [2, 3, 4, 6, 7]) (fun _ => kN [] [1]) fun _ a u hE hS => ?_
  refine iff hE ?_
  refine wp_skip ?_
  refine rgp hE hS [pu, pu, cl put16c [] [1]] (fun _ => kp []) (fun _ => kP [(1, some (.buf (p2 0).g (put (List.replicate 2 0) 0 (be16 (0 + 1 * 32768 + ecn * 8192 + off * 1)))))]) (fun _ => ⟨kr (show 2 ≤ 2 ∧ 0 + 2 ≤ 2 ∧ 0 ≤ 0 + 1 * 32768 + ecn * 8192 + off * 1 ∧ 0 + 1 * 32768 + ecn * 8192 + off * 1 < 65536 by omega), trivial⟩) fun _ a u hE hS => ?_
  refine rg hE hS [pu, pu, pu] (fun _ => kp [(2, sv (p2 0).g 0 2 2)]) (fun _ => kP []) fun _ a u hE hS => ?_
  refine wp_ret ?_
  have hm : metV ⟨true, ecn, off⟩ = 0 + 1 * 32768 + ecn * 8192 + off * 1 := by rw [metV_sum _ he0 he1 ho0 ho1]; simp
  rw [hm]
  exact ret2 hE Tryz.results159 (sv (p2 0).g 0 2 2) .nilIface ⟨_, rfl, pcF (bs := be16 (0 + 1 * 32768 + ecn * 8192 + off * 1)) hS 1, pcG (g := (p2 0).g) (bs := be16 (0 + 1 * 32768 + ecn * 8192 + off * 1)) hS 1, hS.below⟩
set_option maxRecDepth 100000 in
theorem metMar_false (ecn off : Int) (w : World) (he0 : 0 ≤ ecn) (he1 : ecn < 4) (ho0 : 0 ≤ off) (ho1 : off < 8192) : Calls Tryz.prog 159 #[.agg #[.bool false, .int .u8 ecn, .int .u16 off]] w fun e w' => ∃ g, e = .returned (.tuple #[.slice (some ⟨g, 0, none⟩) 2 2, .nilIface]) ∧ Buf w' g (be16 (metV ⟨false, ecn, off⟩)) ∧ w.heap.size ≤ g ∧ Below w.heap.size w w' := by
  have hw : IntKind.u16.wrap ecn = ecn := by rw [IntKind.wrap_u16]; omega
  refine go_in Tryz.func159 rfl Tryz.ntmps159 [.agg #[.bool false, .int .u8 ecn, .int .u16 off]] fun a hE => ?_
  have hS := stp_in w
  refine rg hE hS [nw 101, pu, pu] (fun p1 => kp [(1, pt (p1 0).g 0), (2, .slice none 0 0), (3, .nilIface)]) (fun p1 => kP [(101, some (.blk (p1 0).g 236 #[.bool false, .int .u8 ecn, .int .u16 off]))]) fun p1 a u hE hS => ?_
  refine rgp hE hS [mk 1, pu] (fun p2 => kp [(4, sv (p2 0).g 0 2 2)]) (fun p2 => kP [(1, some (.buf (p2 0).g (List.replicate 2 0)))]) (fun _ => ⟨kr (show 2 ≤ 140737488355328 by omega), trivial⟩) fun p2 a u hE hS => ?_
  refine rg hE hS [pu] (fun _ => kp [(5, .int .u16 0)]) (fun _ => kP []) fun _ a u hE hS => ?_
  refine wp_seq ?_
  refine rg hE hS [pu, ld 101] (fun _ => kp [(10, .bool false)]) (fun _ => kP []) fun _ a u hE hS => ?_
  refine iff hE ?_
  refine wp_skip ?_
  refine rgp hE hS [pu, cu 161 [] [] (fun _ => .tuple #[.int .u16 (0 + 0 * 32768), .nilIface]) (fun _ => []), pu, pu, pu, pu, pu] (fun _ => kp [(6, .int .u16 (0 + 0 * 32768)), (7, .nilIface)]) (fun _ => kP []) (fun _ => ⟨kr (cu_pure (P := Tryz.prog) (w0 := w) (ps := []) 161 #[.int .u16 0, .int .u16 1, .int .u16 0, .int .u16 0] (.tuple #[.int .u16 (0 + 0 * 32768), .nilIface]) (fun w4 => setn_1 0 w4 (by omega) (by omega))), trivial⟩) fun _ a u hE hS => ?_
  refine wp_seq ?_
  refine rg hE hS [pu, pu] (fun _ => kp [(17, .bool false)]) (fun _ => kP []) fun _ a u hE hS => ?_
  refine iff hE ?_
  refine wp_skip ?_
  refine rgp hE hS [pu, pu, ld 101, pe (.int .u16 ecn), cu 161 [] [] (fun _ => .tuple #[.int .u16 (0 + 0 * 32768 + ecn * 8192), .nilIface]) (fun _ => []), pu, pu, pu, pu, pu] (fun _ => kp [(6, .int .u16 (0 + 0 * 32768 + ecn * 8192))]) (fun _ => kP []) (fun _ => ⟨kr (congrArg (Value.int .u16) hw), kr (cu_pure (P := Tryz.prog) (w0 := w) (ps := []) 161 #[.int .u16 (0 + 0 * 32768), .int .u16 2, .int .u16 1, .int .u16 ecn] (.tuple #[.int .u16 (0 + 0 * 32768 + ecn * 8192), .nilIface]) (fun w4 => setn_2 _ _ w4 (by omega) (by omega) (by omega) he0 he1)), trivial⟩) fun _ a u hE hS => ?_
  refine wp_seq ?_
  refine rg hE hS [pu, pu] (fun _ => kp [(28, .bool false)]) (fun _ => kP []) fun _ a u hE hS => ?_
  refine iff hE ?_
  refine wp_skip ?_
  refine rgp hE hS [pu, pu, ld 101, cu 161 [] [] (fun _ => .tuple #[.int .u16 (0 + 0 * 32768 + ecn * 8192 + off * 1), .nilIface]) (fun _ => []), pu, pu, pu, pu, pu] (fun _ => kp [(6, .int .u16 (0 + 0 * 32768 + ecn * 8192 + off * 1))]) (fun _ => kP []) (fun _ => ⟨kr (cu_pure (P := Tryz.prog) (w0 := w) (ps := []) 161 #[.int .u16 (0 + 0 * 32768 + ecn * 8192), .int .u16 13, .int .u16 3, .int .u16 off] (.tuple #[.int .u16 (0 + 0 * 32768 + ecn * 8192 + off * 1), .nilIface]) (fun w4 => setn_13 _ _ w4 (by omega) (by omega) (by omega) ho0 ho1)), trivial⟩) fun _ a u hE hS => ?_
  refine wp_seq ?_
  refine rg hE hS [pu, pu] (fun _ => kn [(38, .bool false)] [2, 3, 4, 6, 7]) (fun _ => kN [] [1]) fun _ a u hE hS => ?_
  refine iff hE ?_
  refine wp_skip ?_
  refine rgp hE hS [pu, pu, cl put16c [] [1]] (fun _ => kp []) (fun _ => kP [(1, some (.buf (p2 0).g (put (List.replicate 2 0) 0 (be16 (0 + 0 * 32768 + ecn * 8192 + off * 1)))))]) (fun _ => ⟨kr (show 2 ≤ 2 ∧ 0 + 2 ≤ 2 ∧ 0 ≤ 0 + 0 * 32768 + ecn * 8192 + off * 1 ∧ 0 + 0 * 32768 + ecn * 8192 + off * 1 < 65536 by omega), trivial⟩) fun _ a u hE hS => ?_
  refine rg hE hS [pu, pu, pu] (fun _ => kp [(2, sv (p2 0).g 0 2 2)]) (fun _ => kP []) fun _ a u hE hS => ?_
  refine wp_ret ?_
  have hm : metV ⟨false, ecn, off⟩ = 0 + 0 * 32768 + ecn * 8192 + off * 1 := by rw [metV_sum _ he0 he1 ho0 ho1]; simp
  rw [hm]
  exact ret2 hE Tryz.results159 (sv (p2 0).g 0 2 2) .nilIface ⟨_, rfl, pcF (bs := be16 (0 + 0 * 32768 + ecn * 8192 + off * 1)) hS 1, pcG (g := (p2 0).g) (bs := be16 (0 + 0 * 32768 + ecn * 8192 + off * 1)) hS 1, hS.below⟩
theorem metMar_any (x : Met) (w : World) (he0 : 0 ≤ x.ecn) (he1 : x.ecn < 4) (ho0 : 0 ≤ x.off) (ho1 : x.off < 8192) : Calls Tryz.prog 159 #[.agg (Met.cells x).toArray] w fun e w' => ∃ g, e = .returned (.tuple #[.slice (some ⟨g, 0, none⟩) 2 2, .nilIface]) ∧ Buf w' g (be16 (metV x)) ∧ w.heap.size ≤ g ∧ Below w.heap.size w w' := by
  obtain ⟨b, e, o⟩ := x
  cases b with
  | true => exact metMar_true e o w he0 he1 ho0 ho1
  | false => exact metMar_false e o w he0 he1 ho0 ho1
set_option maxHeartbeats 4000000 in
set_option maxRecDepth 100000 in
theorem bloMar_any (z : Blo) (w : World) (hr : Reads w w.heap.size 3 z.mets.A z.mets.l.length (z.mets.l.flatMap Met.cells)) (hl : z.mets.l.length ≤ 16384) (hok : ∀ y ∈ z.mets.l, 0 ≤ y.ecn ∧ y.ecn < 4 ∧ 0 ≤ y.off ∧ y.off < 8192) (hm0 : 0 ≤ z.media) (hm1 : z.media < 4294967296) (hf0 : 0 ≤ z.first) (hf1 : z.first < 65536) :
    Calls Tryz.prog 156 #[.agg #[.int .u32 z.media, .int .u16 z.first, .slice z.mets.A (z.mets.l.length : Nat) z.mets.c]] w fun e w' => ∃ g, e = .returned (.tuple #[.slice (some ⟨g, 0, none⟩) (bloLen z.mets.l.length) (bloLen z.mets.l.length), .nilIface]) ∧ Buf w' g (pz (be32 z.media ++ be16 z.first ++ be16 ((z.mets.l.length : Int) % 65536) ++ z.mets.l.flatMap (fun x => be16 (metV x))) (bloLen z.mets.l.length)) ∧ w.heap.size ≤ g ∧ Below w.heap.size w w' := by
  obtain ⟨N, hN⟩ : ∃ N, N = bloLen z.mets.l.length := ⟨_, rfl⟩
  have hfl := fl_len z.mets.l (fun x => be16 (metV x)) 2 (fun _ => rfl)
  rw [← hN]
  have hN2 : N = 8 + 2 * (z.mets.l.length + z.mets.l.length % 2) := hN
  refine go_in Tryz.func156 rfl Tryz.ntmps156 [.agg #[.int .u32 z.media, .int .u16 z.first, .slice z.mets.A (z.mets.l.length : Nat) z.mets.c]] fun a hE => ?_
  have hS := stp_in w
  refine rg hE hS [nw 101, pu, pu] (fun p1 => kp [(1, pt (p1 0).g 0), (2, .slice none 0 0), (3, .nilIface)]) (fun p1 => kP [(101, some (.blk (p1 0).g 233 #[.int .u32 z.media, .int .u16 z.first, .slice z.mets.A (z.mets.l.length : Nat) z.mets.c]))]) fun p1 a u hE hS => ?_
  refine wp_seq ?_
  refine rgp hE hS [pu, ld 101, pu, pe (.bool false)] (fun _ => kp [(13, .bool false)]) (fun _ => kP []) (fun _ => ⟨kr (congrArg Value.bool (decide_eq_false (show ¬ (((z.mets.l.length : Nat) : Int) > 16384) by omega))), trivial⟩) fun _ a u hE hS => ?_
  refine iff hE ?_
  refine wp_skip ?_
  refine rgp hE hS [cu 157 [101] [] (fun _ => .int .i64 (N : Nat)) (fun _ => []), mk 1, pu] (fun p3 => kp [(4, sv (p3 1).g 0 N N)]) (fun p3 => kP [(1, some (.buf (p3 1).g (List.replicate N 0)))]) (fun _ => ⟨kr (cu_val (P := Tryz.prog) (w0 := w) 101 (p1 0).g 233 #[.int .u32 z.media, .int .u16 z.first, .slice z.mets.A (z.mets.l.length : Nat) z.mets.c] 157 #[.pointer (some ⟨(p1 0).g, 0, none⟩)] (.int .i64 (N : Nat)) (fun w4 hB hz hb => by rw [hN]; exact same_below (blolen_any (p1 0).g w4 _ _ _ _ _ _ hb (by omega)))), kr (show N ≤ 140737488355328 by omega), trivial⟩) fun p3 a u hE hS => ?_
  rw [pz_start0 N] at hS
  refine dgp hE hS [pu, sc, pu, ld 101, cl put32c [] [1]] (fun _ => kp []) (fun _ => kP [(1, some (.buf (p3 1).g (put (pz [] N) (0) (be32 z.media))))]) (fun _ => ⟨kr (show 0 ≤ N ∧ N ≤ N ∧ (0 < N ∨ 0 = 0) by omega), kr (show 4 ≤ N - 0 ∧ 0 + 4 ≤ (pz [] N).length ∧ 0 ≤ z.media ∧ z.media < 4294967296 from ⟨by omega, by rw [pz_len _ _ (by simp only [List.length_append, List.length_cons, List.length_nil, be32_len, be64_len, be16_len]; omega)]; omega, hm0, hm1⟩), trivial⟩) fun _ a u hE hS => ?_
  rw [put_pz ([]) (be32 z.media) N (0) (rfl) (by simp only [List.length_append, List.length_cons, List.length_nil, be32_len, be64_len, be16_len]; omega)] at hS
  refine dgp hE hS [pu, sc, pu, ld 101, cl put16c [] [1]] (fun _ => kp []) (fun _ => kP [(1, some (.buf (p3 1).g (put (pz (be32 z.media) N) (4) (be16 z.first))))]) (fun _ => ⟨kr (show 4 ≤ N ∧ N ≤ N ∧ (4 < N ∨ 4 = 0) by omega), kr (show 2 ≤ N - 4 ∧ 4 + 2 ≤ (pz (be32 z.media) N).length ∧ 0 ≤ z.first ∧ z.first < 65536 from ⟨by omega, by rw [pz_len _ _ (by simp only [List.length_append, List.length_cons, List.length_nil, be32_len, be64_len, be16_len]; omega)]; omega, hf0, hf1⟩), trivial⟩) fun _ a u hE hS => ?_
  rw [put_pz (be32 z.media) (be16 z.first) N (4) (rfl) (by simp only [be32_len, be16_len]; omega)] at hS
  refine rg hE hS [pu, ld 101, pu, pu, pu] (fun _ => kp [(5, .int .u16 ((z.mets.l.length : Int) % 65536))]) (fun _ => kP []) fun _ a u hE hS => ?_
  refine rgp hE hS [pu, sc, pu, cl put16c [] [1]] (fun _ => kp []) (fun _ => kP [(1, some (.buf (p3 1).g (put (pz (be32 z.media ++ be16 z.first) N) (6) (be16 (((z.mets.l.length : Int) % 65536))))))]) (fun _ => ⟨kr (show 6 ≤ N ∧ N ≤ N ∧ (6 < N ∨ 6 = 0) by omega), kr (show 2 ≤ N - 6 ∧ 6 + 2 ≤ (pz (be32 z.media ++ be16 z.first) N).length ∧ 0 ≤ ((z.mets.l.length : Int) % 65536) ∧ ((z.mets.l.length : Int) % 65536) < 65536 from ⟨by omega, by rw [pz_len _ _ (by simp only [List.length_append, List.length_cons, List.length_nil, be32_len, be64_len, be16_len]; omega)]; omega, by omega, by omega⟩), trivial⟩) fun _ a u hE hS => ?_
  rw [put_pz (be32 z.media ++ be16 z.first) (be16 ((z.mets.l.length : Int) % 65536)) N (6) (rfl) (by simp only [be32_len, be16_len]; omega)] at hS
  refine wp_seq ?_
  refine rg hE hS [pu, ld 101, pu, pu] (fun _ => kn [(36, .slice z.mets.A (z.mets.l.length : Nat) z.mets.c), (37, .int .i64 (z.mets.l.length : Nat)), (38, .int .i64 0)] [2, 3, 4]) (fun _ => kN [] [1]) fun _ a u hE hS => ?_
  refine range_up hE hS 38 z.mets.l.length (fun _ _ => kd [38, 39, 58] []) (fun _ x => kP [(1, some (.buf (p3 1).g (pz x.y N)))]) (fun k (x : Lx (List Int)) => x.n = 0 ∧ x.y = be32 z.media ++ be16 z.first ++ be16 ((z.mets.l.length : Int) % 65536) ++ (z.mets.l.take k).flatMap (fun x => be16 (metV x))) ⟨pay0, 0, [], be32 z.media ++ be16 z.first ++ be16 ((z.mets.l.length : Int) % 65536)⟩ (by omega) (by simp) (fun k x a u hk hI hE hS K hK RK hRK => ?_) fun ⟨_, n1, _, y1⟩ a u hI hE hS => ?_
  · obtain ⟨hk1, hk2⟩ := hI
    obtain ⟨q0, n0, xs0, y⟩ := x
    simp only at hk1 hk2
    have hr1 := hok _ (List.getElem_mem hk)
    have hS := stp_el hS 90 (el_at hr (fun _ _ => rfl) rfl (fun g hg => ⟨hg, id⟩) k hk (by omega))
    generalize hrk : z.mets.l[k] = r at hS hr1
    have hyl : y.length = 8 + 2 * k := by rw [hk2]; have := fl_len (z.mets.l.take k) ((fun x => be16 (metV x))) 2 (fun x => rfl); simp only [List.length_take] at this; simp only [List.length_append, List.length_cons, List.length_nil, be32_len, be64_len, be16_len]; omega
    refine rgp hE hS [pu, ie 90, le 90 0, nw 91, pu, st 91] (fun p9 => kp [(7, pt (p9 3).g 0), (6, .int .i64 (k : Nat))]) (fun p9 => kP [(91, some (.blk (p9 3).g 236 (Met.cells r).toArray))]) (fun _ => ⟨kr (show k < z.mets.l.length from hk), trivial⟩) fun p9 a u hE hS => ?_
    refine rgp hE hS [ld 91, cu 159 [] [94] (fun y => .tuple #[.slice (some ⟨y.g, 0, none⟩) 2 2, .nilIface]) (fun y => [some (.buf y.g (be16 (metV r)))]), pu, pu, pu, pu, pu] (fun p10 => kp [(8, sv (p10 1).g 0 2 2), (9, .nilIface)]) (fun p10 => kP [(94, some (.buf (p10 1).g (be16 (metV r))))]) (fun _ => ⟨kr (cu_buf (P := Tryz.prog) (w0 := w) (ps := [none]) 94 159 #[.agg (Met.cells r).toArray] (fun g => .tuple #[.slice (some ⟨g, 0, none⟩) 2 2, .nilIface]) (be16 (metV r)) (fun w4 hB hz => metMar_any r w4 hr1.1 hr1.2.1 hr1.2.2.1 hr1.2.2.2)), trivial⟩) fun p10 a u hE hS => ?_
    refine wp_seq ?_
    refine rg hE hS [pu, pu] (fun _ => kn [(49, .bool false)] [2, 3, 4, 36, 37, 38, 6, 8, 9]) (fun _ => kN [] [94, 90, 1]) fun _ a u hE hS => ?_
    refine iff hE ?_
    refine wp_skip ?_
    refine rgE hE hS [pu, pu, pe (.int .i64 ((k * 2 : Nat) : Int)), pe (.int .i64 ((8 + k * 2 : Nat) : Int)), sc, pu, cp .buf 1 94] (fun _ => kp []) (fun _ => kP [(1, some (.buf (p3 1).g (put (pz y N) (0 + (8 + k * 2) * 1) (be16 (metV r)))))]) (fun _ => ⟨kr (congrArg (Value.int .i64) (show IntKind.i64.wrap (((k : Nat) : Int) * (2 : Int)) = ((k * 2 : Nat) : Int) from by rw [IntWalk.i64_in _ (by omega)]; omega)), kr (congrArg (Value.int .i64) (show IntKind.i64.wrap ((8 : Int) + ((k * 2 : Nat) : Int)) = ((8 + k * 2 : Nat) : Int) from by rw [IntWalk.i64_in _ (by omega)]; omega)), kr (show 8 + k * 2 ≤ N ∧ N ≤ N ∧ (8 + k * 2 < N ∨ 8 + k * 2 = 0) by omega), kr (show (be16 (metV r)).length ≤ N - (8 + k * 2) ∧ 0 + (8 + k * 2) * 1 + (be16 (metV r)).length ≤ (pz y N).length from by rw [pz_len _ _ (by omega), be16_len]; omega), trivial⟩) fun _ a u hE hS => ?_
    rw [put_pz (y) (be16 (metV r)) N (0 + (8 + k * 2) * 1) (by omega) (by rw [be16_len]; omega)] at hS
    exact hK ⟨pay0, 0, [], y ++ be16 (metV r)⟩ a u _ _ ⟨rfl, by show y ++ be16 (metV r) = _; rw [hk2, List.take_succ_eq_append_getElem hk, List.flatMap_append, hrk]; simp⟩ hE hS (by kernel_rfl)
  simp only [List.take_length] at hI
  obtain ⟨h1, h2⟩ := hI
  subst h1 h2
  refine rg hE hS [pu, pu, pu] (fun _ => kp [(2, sv (p3 1).g 0 N N)]) (fun _ => kP []) fun _ a u hE hS => ?_
  refine wp_ret ?_
  exact ret2 hE Tryz.results156 (sv (p3 1).g 0 N N) .nilIface ⟨_, rfl, pcF (bs := pz (be32 z.media ++ be16 z.first ++ be16 ((z.mets.l.length : Int) % 65536) ++ z.mets.l.flatMap (fun x => be16 (metV x))) N) hS 1, pcG (g := (p3 1).g) (bs := pz (be32 z.media ++ be16 z.first ++ be16 ((z.mets.l.length : Int) % 65536) ++ z.mets.l.flatMap (fun x => be16 (metV x))) N) hS 1, hS.below⟩
theorem bloX_len (r : Blo) : (be32 r.media ++ be16 r.first ++ be16 ((r.mets.l.length : Int) % 65536) ++ r.mets.l.flatMap (fun x => be16 (metV x))).length ≤ bloLen r.mets.l.length := by
  have := fl_len r.mets.l (fun x => be16 (metV x)) 2 (fun _ => rfl)
  simp only [List.length_append, be32_len, be16_len, bloLen]; omega
theorem bloB_pz (b : List Int) (r : Blo) (h : b.length % 4 = 0) : bloB b r = b ++ pz (be32 r.media ++ be16 r.first ++ be16 ((r.mets.l.length : Int) % 65536) ++ r.mets.l.flatMap (fun x => be16 (metV x))) (bloLen r.mets.l.length) := by
  have := fl_len r.mets.l (fun x => be16 (metV x)) 2 (fun _ => rfl)
  unfold bloB padB pz metsB
  simp only [List.append_assoc, List.length_append, be32_len, be16_len, padN, bloLen]
  congr 6; omega
theorem blosB_mod (l : List Blo) : ∀ b : List Int, b.length % 4 = 0 → (blosB b l).length % 4 = 0 := by
  induction l with
  | nil => exact fun b h => h
  | cons x l ih => exact fun b h => ih _ (bloB_len b x h).2
theorem blosB_succ (b : List Int) (l : List Blo) (k : Nat) (r : Blo) (hk : k < l.length) (hr : l[k] = r) (h : b.length % 4 = 0) : blosB b (l.take (k + 1)) = blosB b (l.take k) ++ pz (be32 r.media ++ be16 r.first ++ be16 ((r.mets.l.length : Int) % 65536) ++ r.mets.l.flatMap (fun x => be16 (metV x))) (bloLen r.mets.l.length) := by
  rw [List.take_succ_eq_append_getElem hk, hr, ← bloB_pz _ r (blosB_mod _ b h)]
  unfold blosB; rw [List.foldl_append]; rfl
theorem bloMar2 (z : Blo) (w : World) (hr : Reads w w.heap.size 3 z.mets.A z.mets.l.length (z.mets.l.flatMap Met.cells)) (hl : z.mets.l.length ≤ 16384) (hok : ∀ y ∈ z.mets.l, 0 ≤ y.ecn ∧ y.ecn < 4 ∧ 0 ≤ y.off ∧ y.off < 8192) (hm0 : 0 ≤ z.media) (hm1 : z.media < 4294967296) (hf0 : 0 ≤ z.first) (hf1 : z.first < 65536) :
    Calls Tryz.prog 156 #[.agg (Blo.cells z).toArray] w fun e w' => ∃ g, e = .returned (.tuple #[.slice (some ⟨g, 0, none⟩) (pz (be32 z.media ++ be16 z.first ++ be16 ((z.mets.l.length : Int) % 65536) ++ z.mets.l.flatMap (fun x => be16 (metV x))) (bloLen z.mets.l.length)).length (pz (be32 z.media ++ be16 z.first ++ be16 ((z.mets.l.length : Int) % 65536) ++ z.mets.l.flatMap (fun x => be16 (metV x))) (bloLen z.mets.l.length)).length, .nilIface]) ∧ Buf w' g (pz (be32 z.media ++ be16 z.first ++ be16 ((z.mets.l.length : Int) % 65536) ++ z.mets.l.flatMap (fun x => be16 (metV x))) (bloLen z.mets.l.length)) ∧ w.heap.size ≤ g ∧ Below w.heap.size w w' := by
  rw [pz_len _ _ (bloX_len z)]
  exact bloMar_any z w hr hl hok hm0 hm1 hf0 hf1
set_option maxHeartbeats 4000000 in
set_option maxRecDepth 100000 in
theorem mar_8 (s t : Int) (A : Option Addr) (c : Nat) (l : List Blo) (w : World) (hr : Reads w w.heap.size 3 A l.length (l.flatMap Blo.cells)) (hri : ∀ x ∈ l, x.mets.Lies w w.heap.size 3 Met.cells) (hsz : blosLen l ≤ 131072) (hl : l.length ≤ 131072) (hok : ∀ x ∈ l, 0 ≤ x.media ∧ x.media < 4294967296 ∧ 0 ≤ x.first ∧ x.first < 65536 ∧ x.mets.l.length ≤ 16384 ∧ ∀ y ∈ x.mets.l, 0 ≤ y.ecn ∧ y.ecn < 4 ∧ 0 ≤ y.off ∧ y.off < 8192) (hs : 0 ≤ s ∧ s < 4294967296) (ht : 0 ≤ t ∧ t < 4294967296) :
    Calls Tryz.prog 152 #[.agg #[.int .u32 s, .slice A (l.length : Nat) c, .int .u32 t]] w (MarOut w (hdrB 11 205 ((((4 + (blosB (be32 s) l ++ be32 t).length : Nat) : Int) / 4 - 1) % 65536) ++ (blosB (be32 s) l ++ be32 t))) := by
  obtain ⟨N, hN⟩ : ∃ N, N = 12 + blosLen l := ⟨_, rfl⟩
  have hfl := blosB_len l (be32 s) (by rw [be32_len])
  have hBN : 4 + (blosB (be32 s) l ++ be32 t).length = N := by simp only [List.length_append, be32_len, hfl]; omega
  rw [hBN]
  have hq : IntKind.i64.wrap (Int.tdiv ((N : Nat) : Int) 4) = (N : Int) / 4 := by rw [Int.tdiv_eq_ediv_of_nonneg (by omega), IntWalk.i64_in _ (by omega)]
  have hq2 : IntKind.i64.wrap ((N : Int) / 4 - 1) = (N : Int) / 4 - 1 := IntWalk.i64_in _ (by omega)
  refine go_in Tryz.func152 rfl Tryz.ntmps152 [.agg #[.int .u32 s, .slice A (l.length : Nat) c, .int .u32 t]] fun a hE => ?_
  have hS := stp_in w
  refine rg hE hS [nw 101, pu, pu] (fun p1 => kp [(1, pt (p1 0).g 0), (2, .slice none 0 0), (3, .nilIface)]) (fun p1 => kP [(101, some (.blk (p1 0).g 181 #[.int .u32 s, .slice A (l.length : Nat) c, .int .u32 t]))]) fun p1 a u hE hS => ?_
  refine rgp hE hS [cu 153 [101] [] (fun _ => .int .i64 (N : Nat)) (fun _ => []), pu] (fun _ => kp [(4, .int .i64 (N : Nat))]) (fun _ => kP []) (fun _ => ⟨kr (cu_val (P := Tryz.prog) (w0 := w) 101 (p1 0).g 181 #[.int .u32 s, .slice A (l.length : Nat) c, .int .u32 t] 153 #[.pointer (some ⟨(p1 0).g, 0, none⟩)] (.int .i64 (N : Nat)) (fun w4 hB hz hb => by rw [hN]; exact ccsize_any (p1 0).g w4 A l c _ _ _ hb ((Reads.below hr hB).more hz) (by omega) (fun x hx => by have := (hok x hx).2.2.2.2.1; omega) (by omega))), trivial⟩) fun _ a u hE hS => ?_
  refine wp_seq ?_
  refine rgp hE hS [pu, pe (.int .i64 (((N : Nat) : Int) / 4)), pe (.int .i64 (((N : Nat) : Int) / 4 - 1)), pe (.bool false), pu, pu, pe (.bool false), pu] (fun _ => kp [(23, .bool false)]) (fun _ => kP []) (fun _ => ⟨kr (congrArg (Value.int .i64) hq), kr (congrArg (Value.int .i64) hq2), kr (congrArg Value.bool (decide_eq_false (show ¬ (((N : Nat) : Int) / 4 - 1 > 65535) by omega))), kr (congrArg Value.bool (decide_eq_false (show ¬ (((N : Nat) : Int) < 4) by omega))), trivial⟩) fun _ a u hE hS => ?_
  refine iff hE ?_
  refine wp_skip ?_
  refine rgp hE hS [cu 155 [101] [] (fun _ => .agg #[.bool false, .int .u8 11, .int .u8 205, .int .u16 ((((N : Nat) : Int) / 4 - 1) % 65536)]) (fun _ => []), nw 96, st 96] (fun p4 => kp [(5, pt (p4 1).g 0)]) (fun p4 => kP [(96, some (.blk (p4 1).g 239 #[.bool false, .int .u8 11, .int .u8 205, .int .u16 ((((N : Nat) : Int) / 4 - 1) % 65536)]))]) (fun _ => ⟨kr (cu_val (P := Tryz.prog) (w0 := w) 101 (p1 0).g 181 #[.int .u32 s, .slice A (l.length : Nat) c, .int .u32 t] 155 #[.pointer (some ⟨(p1 0).g, 0, none⟩)] (.agg #[.bool false, .int .u8 11, .int .u8 205, .int .u16 ((((N : Nat) : Int) / 4 - 1) % 65536)]) (fun w4 hB hz hb => by rw [hN]; exact cchdr_any (p1 0).g w4 _ A l c _ _ hb ((Reads.below hr hB).more hz) (by omega) (fun x hx => by have := (hok x hx).2.2.2.2.1; omega) (by omega))), trivial⟩) fun p4 a u hE hS => ?_
  refine rgp hE hS [ld 96, cu 106 [] [95] (fun y => .tuple #[.slice (some ⟨y.g, 0, none⟩) 4 4, .nilIface]) (fun y => [some (.buf y.g (hdrB 11 205 ((((N : Nat) : Int) / 4 - 1) % 65536)))]), pu, pu, pu, pu, pu] (fun p5 => kp [(6, sv (p5 1).g 0 4 4), (7, .nilIface)]) (fun p5 => kP [(95, some (.buf (p5 1).g (hdrB 11 205 ((((N : Nat) : Int) / 4 - 1) % 65536))))]) (fun _ => ⟨kr (cu_buf (P := Tryz.prog) (w0 := w) (ps := [none]) 95 106 #[.agg #[.bool false, .int .u8 11, .int .u8 205, .int .u16 ((((N : Nat) : Int) / 4 - 1) % 65536)]] (fun g => .tuple #[.slice (some ⟨g, 0, none⟩) 4 4, .nilIface]) (hdrB 11 205 ((((N : Nat) : Int) / 4 - 1) % 65536)) (fun w4 hB hz => hdrMar_any _ _ _ w4 (by omega) (by omega) (by omega) (by omega))), trivial⟩) fun p5 a u hE hS => ?_
  refine wp_seq ?_
  refine rg hE hS [pu, pu] (fun _ => kn [(32, .bool false)] [1, 2, 3, 4, 6, 7]) (fun _ => kN [] [95, 101]) fun _ a u hE hS => ?_
  refine iff hE ?_
  refine wp_skip ?_
  refine rg hE hS [pu, pu] (fun _ => kp [(8, .int .i64 (N : Nat))]) (fun _ => kP []) fun _ a u hE hS => ?_
  refine rgp hE hS [pu, mk 1, pu] (fun p8 => kp [(9, sv (p8 1).g 0 N N)]) (fun p8 => kP [(1, some (.buf (p8 1).g (List.replicate N 0)))]) (fun _ => ⟨kr (show N ≤ 140737488355328 by omega), trivial⟩) fun p8 a u hE hS => ?_
  rw [pz_start0 N] at hS
  refine rgp hE hS [pu, sc, pu, cp .buf 1 95] (fun _ => kp []) (fun _ => kP [(1, some (.buf (p8 1).g (put (pz [] N) 0 (hdrB 11 205 ((((N : Nat) : Int) / 4 - 1) % 65536)))))]) (fun _ => ⟨kr (show 0 ≤ 4 ∧ 4 ≤ N ∧ (0 < N ∨ 0 = 0) by omega), kr (show (hdrB 11 205 ((((N : Nat) : Int) / 4 - 1) % 65536)).length ≤ 4 ∧ 0 + (hdrB 11 205 ((((N : Nat) : Int) / 4 - 1) % 65536)).length ≤ (pz [] N).length from by rw [pz_len _ _ (by simp), show (hdrB 11 205 ((((N : Nat) : Int) / 4 - 1) % 65536)).length = 4 from rfl]; omega), trivial⟩) fun _ a u hE hS => ?_
  rw [put_pz ([]) (hdrB 11 205 ((((N : Nat) : Int) / 4 - 1) % 65536)) N (0) (rfl) (by rw [show (hdrB 11 205 ((((N : Nat) : Int) / 4 - 1) % 65536)).length = 4 from rfl]; omega)] at hS
  refine dgp hE hS [pu, sc, pu, ld 101, cl put32c [] [1]] (fun _ => kp []) (fun _ => kP [(1, some (.buf (p8 1).g (put (pz (hdrB 11 205 ((((N : Nat) : Int) / 4 - 1) % 65536)) N) (4) (be32 s))))]) (fun _ => ⟨kr (show 4 ≤ N ∧ N ≤ N ∧ (4 < N ∨ 4 = 0) by omega), kr (show 4 ≤ N - 4 ∧ 4 + 4 ≤ (pz (hdrB 11 205 ((((N : Nat) : Int) / 4 - 1) % 65536)) N).length ∧ 0 ≤ s ∧ s < 4294967296 from ⟨by omega, by rw [pz_len _ _ (by simp only [hdrB, List.length_append, List.length_cons, List.length_nil, be32_len, be16_len, hfl]; omega)]; omega, hs.1, hs.2⟩), trivial⟩) fun _ a u hE hS => ?_
  rw [put_pz (hdrB 11 205 ((((N : Nat) : Int) / 4 - 1) % 65536)) (be32 s) N (4) (rfl) (by rw [be32_len]; omega)] at hS
  refine rg hE hS [pu] (fun _ => kp [(10, .int .i64 (8 : Nat))]) (fun _ => kP []) fun _ a u hE hS => ?_
  refine wp_seq ?_
  refine rg hE hS [pu, ld 101, pu, pu] (fun _ => kn [(47, .slice A (l.length : Nat) c), (48, .int .i64 (l.length : Nat)), (49, .int .i64 0)] [1, 2, 3, 9, 10]) (fun _ => kN [] [1, 95, 101]) fun _ a u hE hS => ?_
  refine range_up hE hS 49 l.length (fun _ x => kd [49, 50, 69] [(10, .int .i64 (x.y.length : Nat))]) (fun _ x => kP [(1, some (.buf (p8 1).g (pz x.y N)))]) (fun k (x : Lx (List Int)) => x.n = 0 ∧ x.y = hdrB 11 205 ((((N : Nat) : Int) / 4 - 1) % 65536) ++ blosB (be32 s) (l.take k)) ⟨pay0, 0, [], hdrB 11 205 ((((N : Nat) : Int) / 4 - 1) % 65536) ++ be32 s⟩ (by omega) (by simp [blosB]) (fun k x a u hk hI hE hS K hK RK hRK => ?_) fun ⟨_, n1, _, y1⟩ a u hI hE hS => ?_
  · obtain ⟨hk1, hk2⟩ := hI
    obtain ⟨q0, n0, xs0, y⟩ := x
    simp only at hk1 hk2
    have hr1 := hok _ (List.getElem_mem hk)
    have hri1 := hri _ (List.getElem_mem hk)
    have hsu := blosLen_succ l k hk
    have hle := blosLen_le l (k + 1)
    have hS := stp_el hS 90 (el_at hr (fun _ _ => rfl) rfl (fun g hg => ⟨hg, id⟩) k hk (by omega))
    generalize hrk : l[k] = r at hS hr1 hri1 hsu
    have hyl : y.length = 8 + blosLen (l.take k) := by rw [hk2, List.length_append, blosB_len _ _ (by rw [be32_len]), be32_len, show (hdrB 11 205 ((((N : Nat) : Int) / 4 - 1) % 65536)).length = 4 from rfl]; omega
    have hzl : (pz (be32 r.media ++ be16 r.first ++ be16 ((r.mets.l.length : Int) % 65536) ++ r.mets.l.flatMap (fun x => be16 (metV x))) (bloLen r.mets.l.length)).length = bloLen r.mets.l.length := pz_len _ _ (bloX_len r)
    have hov : IntKind.i64.wrap (((y.length : Nat) : Int) + ((bloLen r.mets.l.length : Nat) : Int)) = (((y ++ pz (be32 r.media ++ be16 r.first ++ be16 ((r.mets.l.length : Int) % 65536) ++ r.mets.l.flatMap (fun x => be16 (metV x))) (bloLen r.mets.l.length)).length : Nat) : Int) := by rw [IntWalk.i64_in _ (by omega), List.length_append, hzl]; omega
    refine rgp hE hS [ie 90, le 90 0, nw 91, st 91] (fun p13 => kp [(12, pt (p13 2).g 0)]) (fun p13 => kP [(91, some (.blk (p13 2).g 233 (Blo.cells r).toArray))]) (fun _ => ⟨kr (show k < l.length from hk), trivial⟩) fun p13 a u hE hS => ?_
    refine rgp hE hS [ld 91, cu 156 [] [94] (fun y => .tuple #[.slice (some ⟨y.g, 0, none⟩) (pz (be32 r.media ++ be16 r.first ++ be16 ((r.mets.l.length : Int) % 65536) ++ r.mets.l.flatMap (fun x => be16 (metV x))) (bloLen r.mets.l.length)).length (pz (be32 r.media ++ be16 r.first ++ be16 ((r.mets.l.length : Int) % 65536) ++ r.mets.l.flatMap (fun x => be16 (metV x))) (bloLen r.mets.l.length)).length, .nilIface]) (fun y => [some (.buf y.g (pz (be32 r.media ++ be16 r.first ++ be16 ((r.mets.l.length : Int) % 65536) ++ r.mets.l.flatMap (fun x => be16 (metV x))) (bloLen r.mets.l.length)))]), pu, pu, pu, pu, pu] (fun p14 => kp [(13, sv (p14 1).g 0 (pz (be32 r.media ++ be16 r.first ++ be16 ((r.mets.l.length : Int) % 65536) ++ r.mets.l.flatMap (fun x => be16 (metV x))) (bloLen r.mets.l.length)).length (pz (be32 r.media ++ be16 r.first ++ be16 ((r.mets.l.length : Int) % 65536) ++ r.mets.l.flatMap (fun x => be16 (metV x))) (bloLen r.mets.l.length)).length), (14, .nilIface)]) (fun p14 => kP [(94, some (.buf (p14 1).g (pz (be32 r.media ++ be16 r.first ++ be16 ((r.mets.l.length : Int) % 65536) ++ r.mets.l.flatMap (fun x => be16 (metV x))) (bloLen r.mets.l.length))))]) (fun _ => ⟨kr (cu_buf (P := Tryz.prog) (w0 := w) (ps := [none]) 94 156 #[.agg (Blo.cells r).toArray] (fun g => .tuple #[.slice (some ⟨g, 0, none⟩) (pz (be32 r.media ++ be16 r.first ++ be16 ((r.mets.l.length : Int) % 65536) ++ r.mets.l.flatMap (fun x => be16 (metV x))) (bloLen r.mets.l.length)).length (pz (be32 r.media ++ be16 r.first ++ be16 ((r.mets.l.length : Int) % 65536) ++ r.mets.l.flatMap (fun x => be16 (metV x))) (bloLen r.mets.l.length)).length, .nilIface]) (pz (be32 r.media ++ be16 r.first ++ be16 ((r.mets.l.length : Int) % 65536) ++ r.mets.l.flatMap (fun x => be16 (metV x))) (bloLen r.mets.l.length)) (fun w4 hB hz => bloMar2 r w4 ((Reads.below hri1 hB).more hz) hr1.2.2.2.2.1 hr1.2.2.2.2.2 hr1.1 hr1.2.1 hr1.2.2.1 hr1.2.2.2.1)), trivial⟩) fun p14 a u hE hS => ?_
    refine wp_seq ?_
    refine rg hE hS [pu, pu] (fun _ => kp [(59, .bool false)]) (fun _ => kP []) fun _ a u hE hS => ?_
    refine iff hE ?_
    refine wp_skip ?_
    refine rgp hE hS [pu, pu, sc, pu, cp .buf 1 94] (fun _ => kp []) (fun _ => kP [(1, some (.buf (p8 1).g (put (pz y N) (0 + (y.length) * 1) (pz (be32 r.media ++ be16 r.first ++ be16 ((r.mets.l.length : Int) % 65536) ++ r.mets.l.flatMap (fun x => be16 (metV x))) (bloLen r.mets.l.length)))))]) (fun _ => ⟨kr (show y.length ≤ N ∧ N ≤ N ∧ (y.length < N ∨ y.length = 0) by omega), kr (show (pz (be32 r.media ++ be16 r.first ++ be16 ((r.mets.l.length : Int) % 65536) ++ r.mets.l.flatMap (fun x => be16 (metV x))) (bloLen r.mets.l.length)).length ≤ N - (y.length) ∧ 0 + (y.length) * 1 + (pz (be32 r.media ++ be16 r.first ++ be16 ((r.mets.l.length : Int) % 65536) ++ r.mets.l.flatMap (fun x => be16 (metV x))) (bloLen r.mets.l.length)).length ≤ (pz y N).length from by rw [pz_len y N (by omega), hzl]; omega), trivial⟩) fun _ a u hE hS => ?_
    rw [put_pz (y) (pz (be32 r.media ++ be16 r.first ++ be16 ((r.mets.l.length : Int) % 65536) ++ r.mets.l.flatMap (fun x => be16 (metV x))) (bloLen r.mets.l.length)) N (0 + (y.length) * 1) (by omega) (by rw [hzl]; omega)] at hS
    refine rgE hE hS [pu, cu 157 [91] [] (fun _ => .int .i64 (bloLen r.mets.l.length : Nat)) (fun _ => []), pe (.int .i64 ((y ++ pz (be32 r.media ++ be16 r.first ++ be16 ((r.mets.l.length : Int) % 65536) ++ r.mets.l.flatMap (fun x => be16 (metV x))) (bloLen r.mets.l.length)).length : Nat)), pu] (fun _ => kn [(10, .int .i64 ((y ++ pz (be32 r.media ++ be16 r.first ++ be16 ((r.mets.l.length : Int) % 65536) ++ r.mets.l.flatMap (fun x => be16 (metV x))) (bloLen r.mets.l.length)).length : Nat))] [1, 2, 3, 9, 47, 48, 49]) (fun _ => kN [] [1, 91, 90, 95, 101]) (fun _ => ⟨kr (cu_val (P := Tryz.prog) (w0 := w) 91 (p13 2).g 233 (Blo.cells r).toArray 157 #[.pointer (some ⟨(p13 2).g, 0, none⟩)] (.int .i64 (bloLen r.mets.l.length : Nat)) (fun w4 hB hz hb => same_below (blolen_any (p13 2).g w4 r.mets.A r.mets.l.length r.mets.c _ _ _ hb (by omega)))), kr (congrArg (Value.int .i64) hov), trivial⟩) fun _ a u hE hS => ?_
    exact hK ⟨pay0, 0, [], y ++ pz (be32 r.media ++ be16 r.first ++ be16 ((r.mets.l.length : Int) % 65536) ++ r.mets.l.flatMap (fun x => be16 (metV x))) (bloLen r.mets.l.length)⟩ a u _ _ ⟨rfl, by show y ++ pz (be32 r.media ++ be16 r.first ++ be16 ((r.mets.l.length : Int) % 65536) ++ r.mets.l.flatMap (fun x => be16 (metV x))) (bloLen r.mets.l.length) = _; rw [hk2, blosB_succ (be32 s) l k r hk hrk (by rw [be32_len]), List.append_assoc]⟩ hE hS (by kernel_rfl)
  simp only [List.take_length] at hI
  obtain ⟨h1, h2⟩ := hI
  subst h1 h2
  have hal : (hdrB 11 205 ((((N : Nat) : Int) / 4 - 1) % 65536) ++ blosB (be32 s) l).length = 8 + blosLen l := by rw [List.length_append, hfl, be32_len, show (hdrB 11 205 ((((N : Nat) : Int) / 4 - 1) % 65536)).length = 4 from rfl]; omega
  refine dgp hE hS [pu, pu, sc, pu, ld 101, cl put32c [] [1]] (fun _ => kp []) (fun _ => kP [(1, some (.buf (p8 1).g (put (pz (hdrB 11 205 ((((N : Nat) : Int) / 4 - 1) % 65536) ++ blosB (be32 s) l) N) (0 + ((hdrB 11 205 ((((N : Nat) : Int) / 4 - 1) % 65536) ++ blosB (be32 s) l).length) * 1) (be32 t))))]) (fun _ => ⟨kr (show (hdrB 11 205 ((((N : Nat) : Int) / 4 - 1) % 65536) ++ blosB (be32 s) l).length ≤ N ∧ N ≤ N ∧ ((hdrB 11 205 ((((N : Nat) : Int) / 4 - 1) % 65536) ++ blosB (be32 s) l).length < N ∨ (hdrB 11 205 ((((N : Nat) : Int) / 4 - 1) % 65536) ++ blosB (be32 s) l).length = 0) by omega), kr (show 4 ≤ N - ((hdrB 11 205 ((((N : Nat) : Int) / 4 - 1) % 65536) ++ blosB (be32 s) l).length) ∧ 0 + ((hdrB 11 205 ((((N : Nat) : Int) / 4 - 1) % 65536) ++ blosB (be32 s) l).length) * 1 + 4 ≤ (pz (hdrB 11 205 ((((N : Nat) : Int) / 4 - 1) % 65536) ++ blosB (be32 s) l) N).length ∧ 0 ≤ t ∧ t < 4294967296 from ⟨by omega, by rw [pz_len _ _ (by rw [hal]; omega)]; omega, ht.1, ht.2⟩), trivial⟩) fun _ a u hE hS => ?_
  rw [put_pz (hdrB 11 205 ((((N : Nat) : Int) / 4 - 1) % 65536) ++ blosB (be32 s) l) (be32 t) N (0 + ((hdrB 11 205 ((((N : Nat) : Int) / 4 - 1) % 65536) ++ blosB (be32 s) l).length) * 1) (by omega) (by rw [be32_len]; omega), pz_full _ _ (by rw [List.length_append, hal, be32_len]; omega)] at hS
  refine rg hE hS [pu, pu, pu] (fun _ => kn [(2, sv (p8 1).g 0 N N)] [3]) (fun _ => kN [] [1, 95]) fun _ a u hE hS => ?_
  refine wp_ret ?_
  have hbuf : Buf u (p8 1).g (hdrB 11 205 ((((N : Nat) : Int) / 4 - 1) % 65536) ++ (blosB (be32 s) l ++ be32 t)) := by have : Buf u (p8 1).g (hdrB 11 205 ((((N : Nat) : Int) / 4 - 1) % 65536) ++ blosB (be32 s) l ++ be32 t) := pcF hS 1; simpa only [List.append_assoc] using this
  exact ret2 hE Tryz.results152 (sv (p8 1).g 0 N N) .nilIface (MarOut.buf hbuf (pcG (g := (p8 1).g) (bs := hdrB 11 205 ((((N : Nat) : Int) / 4 - 1) % 65536) ++ blosB (be32 s) l ++ be32 t) hS 1) hS.below (by rw [List.length_append, show (hdrB 11 205 ((((N : Nat) : Int) / 4 - 1) % 65536)).length = 4 from rfl]; omega) (by rw [List.length_append, show (hdrB 11 205 ((((N : Nat) : Int) / 4 - 1) % 65536)).length = 4 from rfl]; omega))
set_option maxHeartbeats 4000000 in
set_option maxRecDepth 100000 in
theorem mar_4 (A : Option Addr) (c : Nat) (l : List Int) (t : ByteArray) (w : World) (hr : Reads w w.heap.size 1 A l.length (l.flatMap u32c)) (hl : l.length ≤ 31) (hok : ∀ x ∈ l, 0 ≤ x ∧ x < 4294967296) (ht : t.size ≤ 255) :
    Calls Tryz.prog 132 #[.agg #[.slice A (l.length : Nat) c, .string t]] w (MarOut w (hdrB ((l.length : Int) % 256) 203 ((((4 + (byeB l t).length : Nat) : Int) / 4 - 1) % 65536) ++ byeB l t)) := by
  obtain ⟨N, hN⟩ : ∃ N, N = byeLen l.length t.size + pad4 (byeLen l.length t.size) := ⟨_, rfl⟩
  have hfl := fl_len l be32 4 (fun _ => rfl)
  have hBN : 4 + (byeB l t).length = N := by rw [hN]; exact byeB_len l t
  rw [hBN]
  have hbl : byeLen l.length t.size = 4 + 4 * l.length + (if t.size = 0 then 0 else t.size + 1) := rfl
  have hp4 := pad4_le (byeLen l.length t.size)
  have hNl : N ≤ 1024 := by rw [hN]; split at hbl <;> omega
  have hN4 : 4 + 4 * l.length ≤ N := by rw [hN]; omega
  have hne : (!(t.toList == (ByteArray.mk #[]).toList)) = !t.toList.isEmpty := by rw [show (ByteArray.mk #[]).toList = [] from (ByteArray.toList_eq _).trans rfl]; cases t.toList <;> rfl
  refine go_in Tryz.func132 rfl Tryz.ntmps132 [.agg #[.slice A (l.length : Nat) c, .string t]] fun a hE => ?_
  have hS := stp_in w
  refine rg hE hS [nw 101, pu, pu] (fun p1 => kp [(1, pt (p1 0).g 0), (2, .slice none 0 0), (3, .nilIface)]) (fun p1 => kP [(101, some (.blk (p1 0).g 163 #[.slice A (l.length : Nat) c, .string t]))]) fun p1 a u hE hS => ?_
  refine rgp hE hS [cu 133 [101] [] (fun _ => .int .i64 (N : Nat)) (fun _ => []), mk 1, pu] (fun p2 => kp [(4, sv (p2 1).g 0 N N)]) (fun p2 => kP [(1, some (.buf (p2 1).g (List.replicate N 0)))]) (fun _ => ⟨kr (cu_val (P := Tryz.prog) (w0 := w) 101 (p1 0).g 163 #[.slice A (l.length : Nat) c, .string t] 133 #[.pointer (some ⟨(p1 0).g, 0, none⟩)] (.int .i64 (N : Nat)) (fun w4 hB hz hb => by rw [hN]; exact same_below (byesize_any (p1 0).g w4 A l.length c _ t hb (by omega) (by omega)))), kr (show N ≤ 140737488355328 by omega), trivial⟩) fun p2 a u hE hS => ?_
  rw [pz_start N (by omega)] at hS
  refine rgp hE hS [pu, sx, pu] (fun _ => kp [(5, sv (p2 1).g (bif Nat.beq N 4 then 0 else 0 + 4 * 1) (N - 4) (N - 4))]) (fun _ => kP []) (fun _ => ⟨kr (show 4 ≤ N ∧ N ≤ N by omega), trivial⟩) fun _ a u hE hS => ?_
  generalize ho4 : (bif Nat.beq N 4 then 0 else 0 + 4 * 1) = o4 at hE
  have ho : 4 < N → o4 = 4 := fun h => by
    rw [← ho4]
    cases hq : Nat.beq N 4 with
    | true => have := Nat.eq_of_beq_eq_true hq; omega
    | false => rfl
  refine wp_seq ?_
  refine rgp hE hS [pu, ld 101, pu, pe (.bool false)] (fun _ => kp [(19, .bool false)]) (fun _ => kP []) (fun _ => ⟨kr (congrArg Value.bool (decide_eq_false (show ¬ (((l.length : Nat) : Int) > 31) by omega))), trivial⟩) fun _ a u hE hS => ?_
  refine iff hE ?_
  refine wp_skip ?_
  refine wp_seq ?_
  refine rg hE hS [pu, ld 101, pu, pu] (fun _ => kn [(22, .slice A (l.length : Nat) c), (23, .int .i64 (l.length : Nat)), (24, .int .i64 0)] [1, 2, 3, 4, 5]) (fun _ => kN [] [1, 101]) fun _ a u hE hS => ?_
  refine range_up hE hS 24 l.length (fun _ _ => kd [24, 25, 35] []) (fun _ x => kP [(1, some (.buf (p2 1).g (pz x.y N)))]) (fun k (x : Lx (List Int)) => x.n = 0 ∧ x.y = [0, 0, 0, 0] ++ (l.take k).flatMap be32) ⟨pay0, 0, [], [0, 0, 0, 0]⟩ (by omega) (by simp) (fun k x a u hk hI hE hS K hK RK hRK => ?_) fun ⟨_, n1, _, y1⟩ a u hI hE hS => ?_
  · obtain ⟨hk1, hk2⟩ := hI
    obtain ⟨q0, n0, xs0, y⟩ := x
    simp only at hk1 hk2
    have hr1 := hok _ (List.getElem_mem hk)
    have hS := stp_el hS 90 (el_at hr (fun _ _ => rfl) rfl (fun g hg => ⟨hg, id⟩) k hk (by omega))
    generalize hrk : l[k] = r at hS hr1
    have hyl : y.length = 4 + 4 * k := by rw [hk2]; have := fl_len (l.take k) (be32) 4 (fun x => rfl); simp only [List.length_take] at this; simp only [List.length_append, List.length_cons, List.length_nil, be32_len, be64_len, be16_len]; omega
    obtain rfl : o4 = 4 := ho (by omega)
    refine rgp hE hS [pu, ie 90, le 90 0, pu, pu] (fun _ => kp [(6, .int .i64 (k : Nat)), (7, .int .u32 r)]) (fun _ => kP []) (fun _ => ⟨kr (show k < l.length from hk), trivial⟩) fun _ a u hE hS => ?_
    refine rgE hE hS [pu, pu, pe (.int .i64 ((k * 4 : Nat) : Int)), sc, pu, cl put32c [] [1]] (fun _ => kp []) (fun _ => kP [(1, some (.buf (p2 1).g (put (pz y N) (4 + (k * 4) * 1) (be32 r))))]) (fun _ => ⟨kr (congrArg (Value.int .i64) (show IntKind.i64.wrap (((k : Nat) : Int) * (4 : Int)) = ((k * 4 : Nat) : Int) from by rw [IntWalk.i64_in _ (by omega)]; omega)), kr (show k * 4 ≤ (N - 4) ∧ (N - 4) ≤ (N - 4) ∧ (k * 4 < (N - 4) ∨ k * 4 = 0) by omega), kr (show 4 ≤ N - 4 - (k * 4) ∧ 4 + (k * 4) * 1 + 4 ≤ (pz y N).length ∧ 0 ≤ r ∧ r < 4294967296 from ⟨by omega, by rw [pz_len _ _ (by omega)]; omega, hr1.1, hr1.2⟩), trivial⟩) fun _ a u hE hS => ?_
    rw [put_pz (y) (be32 r) N (4 + (k * 4) * 1) (by omega) (by rw [be32_len]; omega)] at hS
    exact hK ⟨pay0, 0, [], y ++ be32 r⟩ a u _ _ ⟨rfl, by show y ++ be32 r = _; rw [hk2, List.take_succ_eq_append_getElem hk, List.flatMap_append, hrk]; simp⟩ hE hS (by kernel_rfl)
  simp only [List.take_length] at hI
  obtain ⟨h1, h2⟩ := hI
  subst h1 h2
  refine wp_seq ?_
  cases hs : t.toList.isEmpty with
  | false =>
    have hts : t.size ≠ 0 := fun e => by have h1 := toList_len t; rw [e] at h1; rw [List.eq_nil_of_length_eq_zero h1] at hs; cases hs
    rw [if_neg hts] at hbl
    obtain rfl : o4 = 4 := ho (by omega)
    refine rgp hE hS [pu, ld 101, pe (.bool true)] (fun _ => kp [(38, .bool true)]) (fun _ => kP []) (fun _ => ⟨kr (congrArg Value.bool (show (!(t.toList == (ByteArray.mk #[]).toList)) = true from hne.trans (by rw [hs]; rfl))), trivial⟩) fun _ a u hE hS => ?_
    refine ift hE ?_
    refine rg hE hS [pu, ld 101, tb 94, pu] (fun p9 => kp [(8, sv (p9 2).g 0 (sb t).length (p9 2).c)]) (fun p9 => kP [(94, some (.txt (p9 2).g (sb t)))]) fun p9 a u hE hS => ?_
    refine wp_seq ?_
    refine rgp hE hS [pu, pu, pe (.bool false)] (fun _ => kp [(44, .bool false)]) (fun _ => kP []) (fun _ => ⟨kr (congrArg Value.bool (decide_eq_false (show ¬ (((sb t).length : Nat) : Int) > 255 by rw [sb_len]; omega))), trivial⟩) fun _ a u hE hS => ?_
    refine iff hE ?_
    refine wp_skip ?_
    refine rgp hE hS [pu, ld 101, pu, pe (.int .i64 ((l.length * 4 : Nat) : Int)), pu] (fun _ => kp [(9, .int .i64 (l.length * 4 : Nat))]) (fun _ => kP []) (fun _ => ⟨kr (congrArg (Value.int .i64) (show IntKind.i64.wrap (((l.length : Nat) : Int) * (4 : Int)) = ((l.length * 4 : Nat) : Int) from by rw [IntWalk.i64_in _ (by omega)]; omega)), trivial⟩) fun _ a u hE hS => ?_
    refine rgp hE hS [pu, pu, pu, pu, pu, ix, sbt 1] (fun _ => kp []) (fun _ => kP [(1, some (.buf (p2 1).g ((pz ([0, 0, 0, 0] ++ l.flatMap be32) N).set (4 + (l.length * 4) * 1) ((((sb t).length : Nat) : Int) % 256))))]) (fun _ => ⟨kr (show l.length * 4 < N - 4 by omega), kr (show 4 + (l.length * 4) * 1 < (pz ([0, 0, 0, 0] ++ l.flatMap be32) N).length by rw [pz_len _ _ (by simp only [List.length_append, List.length_cons, List.length_nil, be32_len, sb_len, hfl]; omega)]; omega), trivial⟩) fun _ a u hE hS => ?_
    rw [put_one _ _ _ (by rw [pz_len _ _ (by simp only [List.length_append, List.length_cons, List.length_nil, be32_len, sb_len, hfl]; omega)]; omega), put_pz ([0, 0, 0, 0] ++ l.flatMap be32) [(((sb t).length : Nat) : Int) % 256] N (4 + (l.length * 4) * 1) (by simp only [List.length_append, List.length_cons, List.length_nil, be32_len, sb_len, hfl]; omega) (by simp only [List.length_cons, List.length_nil]; omega)] at hS
    refine rgE hE hS [pu, pu, pe (.int .i64 ((l.length * 4 + 1 : Nat) : Int)), sc, pu, cp .txt 1 94] (fun _ => kp []) (fun _ => kP [(1, some (.buf (p2 1).g (put (pz ([0, 0, 0, 0] ++ l.flatMap be32 ++ [(((sb t).length : Nat) : Int) % 256]) N) (4 + (l.length * 4 + 1) * 1) (sb t))))]) (fun _ => ⟨kr (congrArg (Value.int .i64) (show IntKind.i64.wrap (((l.length * 4 : Nat) : Int) + (1 : Int)) = ((l.length * 4 + 1 : Nat) : Int) from by rw [IntWalk.i64_in _ (by omega)]; omega)), kr (show l.length * 4 + 1 ≤ (N - 4) ∧ (N - 4) ≤ (N - 4) ∧ (l.length * 4 + 1 < (N - 4) ∨ l.length * 4 + 1 = 0) by omega), kr (show (sb t).length ≤ N - 4 - (l.length * 4 + 1) ∧ 4 + (l.length * 4 + 1) * 1 + (sb t).length ≤ (pz ([0, 0, 0, 0] ++ l.flatMap be32 ++ [(((sb t).length : Nat) : Int) % 256]) N).length from by rw [pz_len _ _ (by simp only [List.length_append, List.length_cons, List.length_nil, be32_len, sb_len, hfl]; omega), sb_len]; omega), trivial⟩) fun _ a u hE hS => ?_
    rw [put_pz ([0, 0, 0, 0] ++ l.flatMap be32 ++ [(((sb t).length : Nat) : Int) % 256]) (sb t) N (4 + (l.length * 4 + 1) * 1) (by simp only [List.length_append, List.length_cons, List.length_nil, be32_len, sb_len, hfl]; omega) (by rw [sb_len]; omega)] at hS
    refine rgp hE hS [cu 135 [101] [] (fun _ => .agg #[.bool false, .int .u8 (((l.length : Int) % 256)), .int .u8 203, .int .u16 ((((N : Nat) : Int) / 4 - 1) % 65536)]) (fun _ => []), cu 106 [] [95] (fun y => .tuple #[.slice (some ⟨y.g, 0, none⟩) 4 4, .nilIface]) (fun y => [some (.buf y.g (hdrB (((l.length : Int) % 256)) 203 ((((N : Nat) : Int) / 4 - 1) % 65536)))]), pu, pu, pu, pu, pu] (fun p14 => kn [(10, sv (p14 1).g 0 4 4), (11, .nilIface)] [2, 3, 4]) (fun p14 => kN [(95, some (.buf (p14 1).g (hdrB (((l.length : Int) % 256)) 203 ((((N : Nat) : Int) / 4 - 1) % 65536))))] [1]) (fun _ => ⟨kr (cu_val (P := Tryz.prog) (w0 := w) 101 (p1 0).g 163 #[.slice A (l.length : Nat) c, .string t] 135 #[.pointer (some ⟨(p1 0).g, 0, none⟩)] (.agg #[.bool false, .int .u8 (((l.length : Int) % 256)), .int .u8 203, .int .u16 ((((N : Nat) : Int) / 4 - 1) % 65536)]) (fun w4 hB hz hb => by rw [hN]; exact byehdr_any (p1 0).g w4 _ A l.length c t hb (by omega) (by omega))), kr (cu_buf (P := Tryz.prog) (w0 := w) (ps := [none]) 95 106 #[.agg #[.bool false, .int .u8 (((l.length : Int) % 256)), .int .u8 203, .int .u16 ((((N : Nat) : Int) / 4 - 1) % 65536)]] (fun g => .tuple #[.slice (some ⟨g, 0, none⟩) 4 4, .nilIface]) (hdrB (((l.length : Int) % 256)) 203 ((((N : Nat) : Int) / 4 - 1) % 65536)) (fun w4 hB hz => hdrMar_any _ _ _ w4 (by omega) (by omega) (by omega) (by omega))), trivial⟩) fun p14 a u hE hS => ?_
    refine wp_seq ?_
    refine rg hE hS [pu, pu] (fun _ => kp [(68, .bool false)]) (fun _ => kP []) fun _ a u hE hS => ?_
    refine iff hE ?_
    refine wp_skip ?_
    refine rgp hE hS [pu, pu, cp .buf 1 95] (fun _ => kp []) (fun _ => kP [(1, some (.buf (p2 1).g (put (pz ([0, 0, 0, 0] ++ l.flatMap be32 ++ [(((sb t).length : Nat) : Int) % 256] ++ sb t) N) 0 (hdrB (((l.length : Int) % 256)) 203 ((((N : Nat) : Int) / 4 - 1) % 65536)))))]) (fun _ => ⟨kr (show (hdrB (((l.length : Int) % 256)) 203 ((((N : Nat) : Int) / 4 - 1) % 65536)).length ≤ N ∧ 0 + (hdrB (((l.length : Int) % 256)) 203 ((((N : Nat) : Int) / 4 - 1) % 65536)).length ≤ (pz ([0, 0, 0, 0] ++ l.flatMap be32 ++ [(((sb t).length : Nat) : Int) % 256] ++ sb t) N).length from by rw [pz_len _ _ (by simp only [List.length_append, List.length_cons, List.length_nil, be32_len, sb_len, hfl]; omega), show (hdrB (((l.length : Int) % 256)) 203 ((((N : Nat) : Int) / 4 - 1) % 65536)).length = 4 from rfl]; omega), trivial⟩) fun _ a u hE hS => ?_
    rw [put_head ([0, 0, 0, 0] ++ l.flatMap be32 ++ [(((sb t).length : Nat) : Int) % 256] ++ sb t) (l.flatMap be32 ++ [(((sb t).length : Nat) : Int) % 256] ++ sb t) (hdrB (((l.length : Int) % 256)) 203 ((((N : Nat) : Int) / 4 - 1) % 65536)) N (by simp only [List.append_assoc]) rfl] at hS
    refine rg hE hS [pu, pu, pu] (fun _ => kn [(2, sv (p2 1).g 0 N N)] [3]) (fun _ => kN [] [1]) fun _ a u hE hS => ?_
    refine wp_ret ?_
    have hbuf : Buf u (p2 1).g (hdrB (((l.length : Int) % 256)) 203 ((((N : Nat) : Int) / 4 - 1) % 65536) ++ byeB l t) := by
      have h : Buf u (p2 1).g (pz (hdrB (((l.length : Int) % 256)) 203 ((((N : Nat) : Int) / 4 - 1) % 65536) ++ (l.flatMap be32 ++ [(((sb t).length : Nat) : Int) % 256] ++ sb t)) N) := pcF hS 1
      have e : pz (hdrB (((l.length : Int) % 256)) 203 ((((N : Nat) : Int) / 4 - 1) % 65536) ++ (l.flatMap be32 ++ [(((sb t).length : Nat) : Int) % 256] ++ sb t)) N = hdrB (((l.length : Int) % 256)) 203 ((((N : Nat) : Int) / 4 - 1) % 65536) ++ byeB l t := by
        unfold byeB; rw [hs]; simp only [Bool.false_eq_true, if_false]
        unfold pz padB
        simp only [List.append_assoc, List.length_append, List.length_cons, List.length_nil, sb_len, hfl, padN, show (hdrB (((l.length : Int) % 256)) 203 ((((N : Nat) : Int) / 4 - 1) % 65536)).length = 4 from rfl]
        congr 1
        congr 4; rw [hN, hbl]; unfold pad4; omega
      rwa [e] at h
    exact ret2 hE Tryz.results132 (sv (p2 1).g 0 N N) .nilIface (MarOut.buf hbuf (pcG (g := (p2 1).g) (bs := pz (hdrB (((l.length : Int) % 256)) 203 ((((N : Nat) : Int) / 4 - 1) % 65536) ++ (l.flatMap be32 ++ [(((sb t).length : Nat) : Int) % 256] ++ sb t)) N) hS 1) hS.below (by rw [List.length_append, show (hdrB (((l.length : Int) % 256)) 203 ((((N : Nat) : Int) / 4 - 1) % 65536)).length = 4 from rfl]; omega) (by rw [List.length_append, show (hdrB (((l.length : Int) % 256)) 203 ((((N : Nat) : Int) / 4 - 1) % 65536)).length = 4 from rfl]; omega))
  | true =>
    have hts : t.size = 0 := by have h1 := toList_len t; rw [List.isEmpty_iff.1 hs] at h1; exact h1.symm
    rw [if_pos hts] at hbl
    have hp0 : pad4 (byeLen l.length t.size) = 0 := by rw [hbl]; unfold pad4; omega
    refine rgp hE hS [pu, ld 101, pe (.bool false)] (fun _ => kp [(38, .bool false)]) (fun _ => kP []) (fun _ => ⟨kr (congrArg Value.bool (show (!(t.toList == (ByteArray.mk #[]).toList)) = false from hne.trans (by rw [hs]; rfl))), trivial⟩) fun _ a u hE hS => ?_
    refine iff hE ?_
    refine wp_skip ?_
    refine rgp hE hS [cu 135 [101] [] (fun _ => .agg #[.bool false, .int .u8 (((l.length : Int) % 256)), .int .u8 203, .int .u16 ((((N : Nat) : Int) / 4 - 1) % 65536)]) (fun _ => []), cu 106 [] [95] (fun y => .tuple #[.slice (some ⟨y.g, 0, none⟩) 4 4, .nilIface]) (fun y => [some (.buf y.g (hdrB (((l.length : Int) % 256)) 203 ((((N : Nat) : Int) / 4 - 1) % 65536)))]), pu, pu, pu, pu, pu] (fun p19 => kp [(10, sv (p19 1).g 0 4 4), (11, .nilIface)]) (fun p19 => kP [(95, some (.buf (p19 1).g (hdrB (((l.length : Int) % 256)) 203 ((((N : Nat) : Int) / 4 - 1) % 65536))))]) (fun _ => ⟨kr (cu_val (P := Tryz.prog) (w0 := w) 101 (p1 0).g 163 #[.slice A (l.length : Nat) c, .string t] 135 #[.pointer (some ⟨(p1 0).g, 0, none⟩)] (.agg #[.bool false, .int .u8 (((l.length : Int) % 256)), .int .u8 203, .int .u16 ((((N : Nat) : Int) / 4 - 1) % 65536)]) (fun w4 hB hz hb => by rw [hN]; exact byehdr_any (p1 0).g w4 _ A l.length c t hb (by omega) (by omega))), kr (cu_buf (P := Tryz.prog) (w0 := w) (ps := [none]) 95 106 #[.agg #[.bool false, .int .u8 (((l.length : Int) % 256)), .int .u8 203, .int .u16 ((((N : Nat) : Int) / 4 - 1) % 65536)]] (fun g => .tuple #[.slice (some ⟨g, 0, none⟩) 4 4, .nilIface]) (hdrB (((l.length : Int) % 256)) 203 ((((N : Nat) : Int) / 4 - 1) % 65536)) (fun w4 hB hz => hdrMar_any _ _ _ w4 (by omega) (by omega) (by omega) (by omega))), trivial⟩) fun p19 a u hE hS => ?_
    refine wp_seq ?_
    refine rg hE hS [pu, pu] (fun _ => kn [(68, .bool false)] [2, 3, 4, 10, 11]) (fun _ => kN [] [95, 1]) fun _ a u hE hS => ?_
    refine iff hE ?_
    refine wp_skip ?_
    refine rgp hE hS [pu, pu, cp .buf 1 95] (fun _ => kp []) (fun _ => kP [(1, some (.buf (p2 1).g (put (pz ([0, 0, 0, 0] ++ l.flatMap be32) N) 0 (hdrB (((l.length : Int) % 256)) 203 ((((N : Nat) : Int) / 4 - 1) % 65536)))))]) (fun _ => ⟨kr (show (hdrB (((l.length : Int) % 256)) 203 ((((N : Nat) : Int) / 4 - 1) % 65536)).length ≤ N ∧ 0 + (hdrB (((l.length : Int) % 256)) 203 ((((N : Nat) : Int) / 4 - 1) % 65536)).length ≤ (pz ([0, 0, 0, 0] ++ l.flatMap be32) N).length from by rw [pz_len _ _ (by simp only [List.length_append, List.length_cons, List.length_nil, be32_len, sb_len, hfl]; omega), show (hdrB (((l.length : Int) % 256)) 203 ((((N : Nat) : Int) / 4 - 1) % 65536)).length = 4 from rfl]; omega), trivial⟩) fun _ a u hE hS => ?_
    rw [put_head ([0, 0, 0, 0] ++ l.flatMap be32) (l.flatMap be32) (hdrB (((l.length : Int) % 256)) 203 ((((N : Nat) : Int) / 4 - 1) % 65536)) N (by simp only [List.append_assoc]) rfl] at hS
    refine rg hE hS [pu, pu, pu] (fun _ => kn [(2, sv (p2 1).g 0 N N)] [3]) (fun _ => kN [] [1]) fun _ a u hE hS => ?_
    refine wp_ret ?_
    have hbuf : Buf u (p2 1).g (hdrB (((l.length : Int) % 256)) 203 ((((N : Nat) : Int) / 4 - 1) % 65536) ++ byeB l t) := by
      have h : Buf u (p2 1).g (pz (hdrB (((l.length : Int) % 256)) 203 ((((N : Nat) : Int) / 4 - 1) % 65536) ++ (l.flatMap be32)) N) := pcF hS 1
      have e : pz (hdrB (((l.length : Int) % 256)) 203 ((((N : Nat) : Int) / 4 - 1) % 65536) ++ (l.flatMap be32)) N = hdrB (((l.length : Int) % 256)) 203 ((((N : Nat) : Int) / 4 - 1) % 65536) ++ byeB l t := by
        unfold byeB; rw [hs]; simp only [if_true]
        unfold pz
        simp only [List.append_assoc, List.length_append, List.length_cons, List.length_nil, sb_len, hfl, padN, show (hdrB (((l.length : Int) % 256)) 203 ((((N : Nat) : Int) / 4 - 1) % 65536)).length = 4 from rfl]
        congr 1
        rw [show N - (4 + 4 * l.length) = 0 by omega]; simp
      rwa [e] at h
    exact ret2 hE Tryz.results132 (sv (p2 1).g 0 N N) .nilIface (MarOut.buf hbuf (pcG (g := (p2 1).g) (bs := pz (hdrB (((l.length : Int) % 256)) 203 ((((N : Nat) : Int) / 4 - 1) % 65536) ++ (l.flatMap be32)) N) hS 1) hS.below (by rw [List.length_append, show (hdrB (((l.length : Int) % 256)) 203 ((((N : Nat) : Int) / 4 - 1) % 65536)).length = 4 from rfl]; omega) (by rw [List.length_append, show (hdrB (((l.length : Int) % 256)) 203 ((((N : Nat) : Int) / 4 - 1) % 65536)).length = 4 from rfl]; omega))
theorem mar_0 (v : Value) (w : World) : Calls Tryz.prog 209 #[v] w fun e w' => e = .returned (.tuple #[v, .nilIface]) ∧ Below w.heap.size w w' := by
  refine go_in Tryz.func209 rfl Tryz.ntmps209 [v] fun a hE => ?_
  have hS := stp_in w
  refine rg hE hS [pu, pu] (fun _ => kp [(2, .slice none 0 0), (3, .nilIface)]) (fun _ => kP []) fun _ a u hE hS => ?_
  refine rg hE hS [pu, pu, pu] (fun _ => kp [(2, v)]) (fun _ => kP []) fun _ a u hE hS => ?_
  refine wp_ret ?_
  exact ret2 hE Tryz.results209 v .nilIface ⟨rfl, hS.below⟩
/-- A buffer as a row. -/
theorem stp_own {w0 w : World} {L : PL} (h : Stp (fun _ => False) w0 w (lookM (den (fun _ => False) w0 L))) (k g n : Nat) (bs : List Int) (hn : n = bs.length) (hm : bs.length ≤ 140737488355328) (hk : lookP L k = some (.buf g bs) := by kernel_rfl) :
    Stp (fun _ => False) w0 w (lookM (den (fun _ => False) w0 ((k, some (.bytes w0.heap.size (.slice (some ⟨g, 0, none⟩) n n) bs)) :: L))) := by
  have hb : Buf w g bs := h.blk k (by rw [lookM_den, hk]; rfl)
  have hg := (h.lt k _ (by rw [lookM_den, hk]; rfl) g rfl)
  have ho := own_of_buf hb (hg.2.resolve_right id) hn hm
  subst hn
  exact h.then_ (NL := [(k, _)]) (stp_turn (c' := .bytes w0.heap.size (.slice (some ⟨g, 0, none⟩) bs.length bs.length) bs) hk (row := none) (World.grownBy.refl w _) (fun g' e => by cases e) ho fun y hy => by
    have : g = y := by simpa [Pc.den, ckR, Value.ownBlock] using hy
    subst this
    exact ⟨hb.lt, .inr rfl⟩)
set_option maxRecDepth 100000 in
theorem itemMar_any (ty : Int) (t : ByteArray) (w : World) (hty : ty ≠ 0) (ht : t.size ≤ 255) : Calls Tryz.prog 128 #[.agg #[.int .u8 ty, .string t]] w (MarOut w (itemB ⟨ty, t⟩)) := by
  have hne : (ty == 0) = false := by simpa using hty
  refine go_in Tryz.func128 rfl Tryz.ntmps128 [.agg #[.int .u8 ty, .string t]] fun a hE => ?_
  have hS := stp_in w
  refine rg hE hS [nw 101, pu, pu] (fun p1 => kp [(1, pt (p1 0).g 0), (2, .slice none 0 0), (3, .nilIface)]) (fun p1 => kP [(101, some (.blk (p1 0).g 230 #[.int .u8 ty, .string t]))]) fun p1 a u hE hS => ?_
  refine wp_seq ?_
  refine rgp hE hS [pu, ld 101, pe (.bool false)] (fun _ => kp [(9, .bool false)]) (fun _ => kP []) (fun _ => ⟨kr (congrArg Value.bool hne), trivial⟩) fun _ a u hE hS => ?_
  refine iff hE ?_
  refine wp_skip ?_
  refine rgp hE hS [mk 1, pu] (fun p3 => kp [(4, sv (p3 0).g 0 2 2)]) (fun p3 => kP [(1, some (.buf (p3 0).g (List.replicate 2 0)))]) (fun _ => ⟨kr (show 2 ≤ 140737488355328 by omega), trivial⟩) fun p3 a u hE hS => ?_
  refine rgp hE hS [pu, pu, ld 101, ix, sbt 1] (fun _ => kp []) (fun _ => kP [(1, some (.buf (p3 0).g ((List.replicate 2 0).set 0 ty)))]) (fun _ => ⟨kr (show 0 < 2 by omega), kr (show 0 < 2 by omega), trivial⟩) fun _ a u hE hS => ?_
  refine rg hE hS [pu, ld 101, tb 94, pu] (fun p5 => kp [(5, sv (p5 2).g 0 (sb t).length (p5 2).c)]) (fun p5 => kP [(94, some (.txt (p5 2).g (sb t)))]) fun p5 a u hE hS => ?_
  refine rg hE hS [pu, pu, pu] (fun _ => kn [(6, .int .i64 ((sb t).length : Nat))] [2, 3, 4, 5]) (fun _ => kN [] [94, 1]) fun _ a u hE hS => ?_
  refine wp_seq ?_
  refine rgp hE hS [pu, pe (.bool false)] (fun _ => kp [(22, .bool false)]) (fun _ => kP []) (fun _ => ⟨kr (congrArg Value.bool (decide_eq_false (show ¬ (((sb t).length : Nat) : Int) > 255 by rw [sb_len]; omega))), trivial⟩) fun _ a u hE hS => ?_
  refine iff hE ?_
  refine wp_skip ?_
  refine rgp hE hS [pu, pu, pu, ix, sbt 1] (fun _ => kp []) (fun _ => kP [(1, some (.buf (p3 0).g (((List.replicate 2 0).set 0 ty).set 1 ((((sb t).length : Nat) : Int) % 256))))]) (fun _ => ⟨kr (show 1 < 2 by omega), kr (show 1 < 2 by omega), trivial⟩) fun _ a u hE hS => ?_
  have hS := stp_own hS 1 (p3 0).g 2 (((List.replicate 2 0).set 0 ty).set 1 ((((sb t).length : Nat) : Int) % 256)) rfl (by simp)
  refine rgp hE hS [pu, pu, ab .txt 1 94, pu] (fun p9 => kp [(4, .slice (p9 2).a (((List.replicate 2 0).set 0 ty).set 1 ((((sb t).length : Nat) : Int) % 256) ++ sb t).length (p9 2).c)]) (fun p9 => kP [(1, some (.bytes w.heap.size (.slice (p9 2).a (((List.replicate 2 0).set 0 ty).set 1 ((((sb t).length : Nat) : Int) % 256) ++ sb t).length (p9 2).c) (((List.replicate 2 0).set 0 ty).set 1 ((((sb t).length : Nat) : Int) % 256) ++ sb t)))]) (fun _ => ⟨kr (show w.heap.size ≤ w.heap.size ∧ (((List.replicate 2 0).set 0 ty).set 1 ((((sb t).length : Nat) : Int) % 256) ++ sb t).length ≤ 140737488355328 from ⟨Nat.le_refl _, by simp [sb_len]; omega⟩), trivial⟩) fun p9 a u hE hS => ?_
  refine rg hE hS [pu, pu, pu] (fun _ => kp [(2, .slice (p9 2).a (((List.replicate 2 0).set 0 ty).set 1 ((((sb t).length : Nat) : Int) % 256) ++ sb t).length (p9 2).c)]) (fun _ => kP []) fun _ a u hE hS => ?_
  refine wp_ret ?_
  have e : itemB ⟨ty, t⟩ = ((List.replicate 2 0).set 0 ty).set 1 ((((sb t).length : Nat) : Int) % 256) ++ sb t := by unfold itemB; rw [sb_len]; rfl
  rw [e]
  exact ret2 hE Tryz.results128 (.slice (p9 2).a (((List.replicate 2 0).set 0 ty).set 1 ((((sb t).length : Nat) : Int) % 256) ++ sb t).length (p9 2).c) .nilIface ⟨(p9 2).a, (p9 2).c, rfl, pcO (base := w.heap.size) hS 1, hS.below⟩
/-- A call of a Marshal: its bytes become a row. -/
theorem cu_mar {P : Program} {w0 : World} {ps : List (Option Pc)} (k : Nat) (f : FuncId) (args : Array Value) (bs : List Int)
    (h : ∀ w, Below w0.heap.size w0 w → w0.heap.size ≤ w.heap.size → Calls P f args w (MarOut w bs))
    (L : PL) (w : World) (_ : ps = ([] ++ [k]).map (lookP L)) (hS : Stp (fun _ => False) w0 w (restr ([] ++ [k]) (lookM (den (fun _ => False) w0 L)))) :
    Calls P f args w fun e w' => ∃ x : Pay, e = .returned (.tuple #[.slice x.a bs.length x.c, .nilIface]) ∧ Stp (blksOf (lookM (den (fun _ => False) w0 L)) [k]) w w' (lookM (den (fun _ => False) w0 (zipW [k] [some (.bytes w0.heap.size (.slice x.a bs.length x.c) bs)]))) := by
  refine (h w hS.below hS.size).mono ?_
  rintro e w' ⟨A, c, rfl, hown, hB⟩
  refine ⟨⟨0, c, undef, A⟩, rfl, ?_⟩
  have ho := own_base hown hS.size
  exact stp_make (c' := .bytes _ _ _) hB ho fun g hg => ⟨(hown.lt g hg).2, (hown.lt g hg).1⟩
theorem chunkB_app (b : List Int) (x : Chunk) (h : b.length % 4 = 0) : chunkB b x = b ++ padB (be32 x.src ++ itemsB x.items.l ++ [0]) := by
  unfold chunkB padB padN
  simp only [List.append_assoc, List.length_append]
  congr 6; omega
set_option maxHeartbeats 4000000 in
set_option maxRecDepth 100000 in
theorem chunkMar_any (z : Chunk) (w : World) (hr : Reads w w.heap.size 2 z.items.A z.items.l.length (z.items.l.flatMap Item.cells)) (hl : z.items.l.length ≤ 2147483647) (hsum : itsLen z.items.l ≤ 549755813888) (hok : ∀ y ∈ z.items.l, y.ty ≠ 0 ∧ y.text.size ≤ 255) (hs0 : 0 ≤ z.src) (hs1 : z.src < 4294967296) : Calls Tryz.prog 124 #[.agg (Chunk.cells z).toArray] w (MarOut w (padB (be32 z.src ++ itemsB z.items.l ++ [0]))) := by
  have hfl := itemsB_len z.items.l
  unfold itemsB at hfl
  refine go_in Tryz.func124 rfl Tryz.ntmps124 [.agg #[.int .u32 z.src, .slice z.items.A (z.items.l.length : Nat) z.items.c]] fun a hE => ?_
  have hS := stp_in w
  refine rg hE hS [nw 101, pu, pu] (fun p1 => kp [(1, pt (p1 0).g 0), (2, .slice none 0 0), (3, .nilIface)]) (fun p1 => kP [(101, some (.blk (p1 0).g 227 #[.int .u32 z.src, .slice z.items.A (z.items.l.length : Nat) z.items.c]))]) fun p1 a u hE hS => ?_
  refine rgp hE hS [mk 1, pu] (fun p2 => kp [(4, sv (p2 0).g 0 4 4)]) (fun p2 => kP [(1, some (.buf (p2 0).g (List.replicate 4 0)))]) (fun _ => ⟨kr (show 4 ≤ 140737488355328 by omega), trivial⟩) fun p2 a u hE hS => ?_
  refine rgp hE hS [pu, pu, ld 101, cl put32c [] [1]] (fun _ => kp []) (fun _ => kP [(1, some (.buf (p2 0).g (put (List.replicate 4 0) 0 (be32 z.src))))]) (fun _ => ⟨kr (show 4 ≤ 4 ∧ 0 + 4 ≤ 4 ∧ 0 ≤ z.src ∧ z.src < 4294967296 by omega), trivial⟩) fun _ a u hE hS => ?_
  have hS := stp_own hS 1 (p2 0).g 4 (be32 z.src) rfl (by simp [be32_len])
  refine wp_seq ?_
  refine rg hE hS [pu, ld 101, pu, pu] (fun _ => kn [(15, .slice z.items.A (z.items.l.length : Nat) z.items.c), (16, .int .i64 (z.items.l.length : Nat)), (17, .int .i64 0)] [2, 3, 4]) (fun _ => kN [] [1]) fun _ a u hE hS => ?_
  refine range_up hE hS 17 z.items.l.length (fun _ x => kd [17, 18, 32] [(4, .slice x.p.a x.y.length x.p.c)]) (fun _ x => kP [(1, some (.bytes w.heap.size (.slice x.p.a x.y.length x.p.c) x.y))]) (fun k (x : Lx (List Int)) => x.n = 0 ∧ x.y = be32 z.src ++ (z.items.l.take k).flatMap itemB) ⟨⟨0, 4, undef, some ⟨(p2 0).g, 0, none⟩⟩, 0, [], be32 z.src⟩ (by omega) (by simp) (fun k x a u hk hI hE hS K hK RK hRK => ?_) fun ⟨qq, n1, _, y1⟩ a u hI hE hS => ?_
  · obtain ⟨hk1, hk2⟩ := hI
    obtain ⟨q0, n0, xs0, y⟩ := x
    simp only at hk1 hk2
    have hr1 := hok _ (List.getElem_mem hk)
    have hS := stp_el hS 90 (el_at hr (fun _ _ => rfl) rfl (fun g hg => ⟨hg, id⟩) k hk (by omega))
    generalize hrk : z.items.l[k] = r at hS hr1
    have hyl : y.length ≤ 4 + itsLen z.items.l := by rw [hk2, List.length_append, be32_len]; have := itemsB_take z.items.l k; unfold itemsB at this; omega
    have hrl : (itemB r).length ≤ 4294967296 := by unfold itemB; simp only [List.length_append, List.length_cons, List.length_nil, sb_len]; omega
    refine rgp hE hS [ie 90, le 90 0, nw 91, st 91] (fun p5 => kp [(6, pt (p5 2).g 0)]) (fun p5 => kP [(91, some (.blk (p5 2).g 230 (Item.cells r).toArray))]) (fun _ => ⟨kr (show k < z.items.l.length from hk), trivial⟩) fun p5 a u hE hS => ?_
    refine rgp hE hS [ld 91, cu 128 [] [94] (fun y => .tuple #[.slice y.a (itemB r).length y.c, .nilIface]) (fun y => [some (.bytes w.heap.size (.slice y.a (itemB r).length y.c) (itemB r))]), pu, pu, pu, pu, pu] (fun p6 => kp [(7, .slice (p6 1).a (itemB r).length (p6 1).c), (8, .nilIface)]) (fun p6 => kP [(94, some (.bytes w.heap.size (.slice (p6 1).a (itemB r).length (p6 1).c) (itemB r)))]) (fun _ => ⟨kr (cu_mar (P := Tryz.prog) (w0 := w) (ps := [none]) 94 128 #[.agg (Item.cells r).toArray] (itemB r) (fun w4 hB hz => itemMar_any r.ty r.text w4 hr1.1 hr1.2)), trivial⟩) fun p6 a u hE hS => ?_
    refine wp_seq ?_
    refine rg hE hS [pu, pu] (fun _ => kn [(27, .bool false)] [2, 3, 4, 15, 16, 17, 7, 8]) (fun _ => kN [] [94, 90, 1]) fun _ a u hE hS => ?_
    refine iff hE ?_
    refine wp_skip ?_
    refine rgE hE hS [pu, pu, ab .bytes 1 94, pu] (fun p8 => kp [(4, .slice (p8 2).a (y ++ itemB r).length (p8 2).c)]) (fun p8 => kP [(1, some (.bytes w.heap.size (.slice (p8 2).a (y ++ itemB r).length (p8 2).c) (y ++ itemB r)))]) (fun _ => ⟨kr (show w.heap.size ≤ w.heap.size ∧ (y ++ itemB r).length ≤ 140737488355328 from ⟨Nat.le_refl _, by rw [List.length_append]; omega⟩), trivial⟩) fun p8 a u hE hS => ?_
    exact hK ⟨(p8 2), 0, [], y ++ itemB r⟩ a u _ _ ⟨rfl, by show y ++ itemB r = _; rw [hk2, List.take_succ_eq_append_getElem hk, List.flatMap_append, hrk]; simp⟩ hE hS (by kernel_rfl)
  simp only [List.take_length] at hI
  obtain ⟨h1, h2⟩ := hI
  subst h1 h2
  refine rgp hE hS [pu, nw 98, ab .lit 1 98, pu] (fun p9 => kp [(4, .slice (p9 2).a (be32 z.src ++ z.items.l.flatMap itemB ++ [0]).length (p9 2).c)]) (fun p9 => kP [(1, some (.bytes w.heap.size (.slice (p9 2).a (be32 z.src ++ z.items.l.flatMap itemB ++ [0]).length (p9 2).c) (be32 z.src ++ z.items.l.flatMap itemB ++ [0])))]) (fun _ => ⟨kr (show w.heap.size ≤ w.heap.size ∧ (be32 z.src ++ z.items.l.flatMap itemB ++ [0]).length ≤ 140737488355328 from ⟨Nat.le_refl _, by simp only [List.length_append, List.length_cons, List.length_nil, be32_len, hfl]; omega⟩), trivial⟩) fun p9 a u hE hS => ?_
  have hXl : (be32 z.src ++ z.items.l.flatMap itemB ++ [0]).length = 5 + itsLen z.items.l := by simp only [List.length_append, List.length_cons, List.length_nil, be32_len, hfl]; omega
  generalize hX : be32 z.src ++ z.items.l.flatMap itemB ++ [0] = bs at hE hS hXl
  refine rgp hE hS [pu, pu, pu, cu 108 [] [] (fun _ => .int .i64 (pad4 bs.length : Nat)) (fun _ => []), az 1, pu] (fun p10 => kp [(4, .slice (p10 4).a (bs ++ List.replicate (pad4 bs.length) 0).length (p10 4).c)]) (fun p10 => kP [(1, some (.bytes w.heap.size (.slice (p10 4).a (bs ++ List.replicate (pad4 bs.length) 0).length (p10 4).c) (bs ++ List.replicate (pad4 bs.length) 0)))]) (fun _ => ⟨kr (cu_pure (P := Tryz.prog) (w0 := w) (ps := []) 108 #[.int .i64 (bs.length : Nat)] (.int .i64 (pad4 bs.length : Nat)) (fun w4 => same_below (padding_any bs.length w4 (by omega)))), kr (show w.heap.size ≤ w.heap.size ∧ bs.length + pad4 bs.length ≤ 140737488355328 ∧ 0 < bs.length from ⟨Nat.le_refl _, by have := pad4_le bs.length; omega, by omega⟩), trivial⟩) fun p10 a u hE hS => ?_
  refine rg hE hS [pu, pu, pu] (fun _ => kp [(2, .slice (p10 4).a (bs ++ List.replicate (pad4 bs.length) 0).length (p10 4).c)]) (fun _ => kP []) fun _ a u hE hS => ?_
  refine wp_ret ?_
  rw [show padB (be32 z.src ++ itemsB z.items.l ++ [0]) = bs ++ List.replicate (pad4 bs.length) 0 by rw [← hX]; rfl]
  exact ret2 hE Tryz.results124 (.slice (p10 4).a (bs ++ List.replicate (pad4 bs.length) 0).length (p10 4).c) .nilIface ⟨(p10 4).a, (p10 4).c, rfl, pcO (base := w.heap.size) (l := bs ++ List.replicate (pad4 bs.length) 0) hS 1, hS.below⟩
theorem chunksB_succ (l : List Chunk) (k : Nat) (r : Chunk) (hk : k < l.length) (hr : l[k] = r) (h : (chunksB (l.take k)).length % 4 = 0) : chunksB (l.take (k + 1)) = chunksB (l.take k) ++ padB (be32 r.src ++ itemsB r.items.l ++ [0]) := by
  rw [List.take_succ_eq_append_getElem hk, hr, ← chunkB_app _ r h]
  unfold chunksB; rw [List.foldl_append]; rfl
theorem chunksB_mod (l : List Chunk) : ∀ b : List Int, b.length % 4 = 0 → (l.foldl chunkB b).length % 4 = 0 := by
  induction l with
  | nil => exact fun b h => h
  | cons x l ih => exact fun b h => ih _ (chunkB_len b x h).2
set_option maxHeartbeats 4000000 in
set_option maxRecDepth 100000 in
theorem mar_3 (A : Option Addr) (c : Nat) (l : List Chunk) (w : World) (hr : Reads w w.heap.size 2 A l.length (l.flatMap Chunk.cells)) (hri : ∀ x ∈ l, x.items.Lies w w.heap.size 2 Item.cells) (hl : l.length ≤ 31) (hsum : chunksLen l ≤ 131072) (hok : ∀ x ∈ l, 0 ≤ x.src ∧ x.src < 4294967296 ∧ x.items.l.length ≤ 2147483647 ∧ itsLen x.items.l ≤ 549755813888 ∧ ∀ y ∈ x.items.l, y.ty ≠ 0 ∧ y.text.size ≤ 255) :
    Calls Tryz.prog 121 #[.agg #[.slice A (l.length : Nat) c]] w (MarOut w (hdrB ((l.length : Int) % 256) 202 ((((4 + (chunksB l).length : Nat) : Int) / 4 - 1) % 65536) ++ (chunksB l))) := by
  obtain ⟨N, hN⟩ : ∃ N, N = 4 + chunksLen l := ⟨_, rfl⟩
  have hfl := chunksB_len l
  have hBN : 4 + (chunksB l).length = N := by omega
  rw [hBN]
  refine go_in Tryz.func121 rfl Tryz.ntmps121 [.agg #[.slice A (l.length : Nat) c]] fun a hE => ?_
  have hS := stp_in w
  refine rg hE hS [nw 101, pu, pu] (fun p1 => kp [(1, pt (p1 0).g 0), (2, .slice none 0 0), (3, .nilIface)]) (fun p1 => kP [(101, some (.blk (p1 0).g 224 #[.slice A (l.length : Nat) c]))]) fun p1 a u hE hS => ?_
  refine rgp hE hS [cu 122 [101] [] (fun _ => .int .i64 (N : Nat)) (fun _ => []), mk 1, pu] (fun p2 => kp [(4, sv (p2 1).g 0 N N)]) (fun p2 => kP [(1, some (.buf (p2 1).g (List.replicate N 0)))]) (fun _ => ⟨kr (cu_val (P := Tryz.prog) (w0 := w) 101 (p1 0).g 224 #[.slice A (l.length : Nat) c] 122 #[.pointer (some ⟨(p1 0).g, 0, none⟩)] (.int .i64 (N : Nat)) (fun w4 hB hz hb => by rw [hN]; exact sdsize_any (p1 0).g w4 A l c _ hb ((Reads.below hr hB).more hz) (fun x hx => (Reads.below (hri x hx) hB).more hz) (by omega) (fun x hx => (hok x hx).2.2.1) (by omega))), kr (show N ≤ 140737488355328 by omega), trivial⟩) fun p2 a u hE hS => ?_
  rw [pz_start N (by omega)] at hS
  refine rgp hE hS [pu, sx, pu] (fun _ => kp [(5, sv (p2 1).g (bif Nat.beq N 4 then 0 else 0 + 4 * 1) (N - 4) (N - 4))]) (fun _ => kP []) (fun _ => ⟨kr (show 4 ≤ N ∧ N ≤ N by omega), trivial⟩) fun _ a u hE hS => ?_
  generalize ho4 : (bif Nat.beq N 4 then 0 else 0 + 4 * 1) = o4 at hE
  have ho : 4 < N → o4 = 4 := fun h => by
    rw [← ho4]
    cases hq : Nat.beq N 4 with
    | true => have := Nat.eq_of_beq_eq_true hq; omega
    | false => rfl
  refine rg hE hS [pu] (fun _ => kp [(6, .int .i64 (0 : Nat))]) (fun _ => kP []) fun _ a u hE hS => ?_
  refine wp_seq ?_
  refine rg hE hS [pu, ld 101, pu, pu] (fun _ => kn [(18, .slice A (l.length : Nat) c), (19, .int .i64 (l.length : Nat)), (20, .int .i64 0)] [1, 2, 3, 4, 5, 6]) (fun _ => kN [] [1, 101]) fun _ a u hE hS => ?_
  refine range_up hE hS 20 l.length (fun _ x => kd [20, 21, 41] [(6, .int .i64 (x.y.length : Nat))]) (fun _ x => kP [(1, some (.buf (p2 1).g (pz ([0, 0, 0, 0] ++ x.y) N)))]) (fun k (x : Lx (List Int)) => x.n = 0 ∧ x.y = chunksB (l.take k)) ⟨pay0, 0, [], []⟩ (by omega) (by simp [chunksB]) (fun k x a u hk hI hE hS K hK RK hRK => ?_) fun ⟨_, n1, _, y1⟩ a u hI hE hS => ?_
  · obtain ⟨hk1, hk2⟩ := hI
    obtain ⟨q0, n0, xs0, y⟩ := x
    simp only at hk1 hk2
    have hr1 := hok _ (List.getElem_mem hk)
    have hri1 := hri _ (List.getElem_mem hk)
    have hsu := chunksLen_succ l k hk
    have hle := chunksLen_le l (k + 1)
    have hS := stp_el hS 90 (el_at hr (fun _ _ => rfl) rfl (fun g hg => ⟨hg, id⟩) k hk (by omega))
    generalize hrk : l[k] = r at hS hr1 hri1 hsu
    have hmod : (chunksB (l.take k)).length % 4 = 0 := chunksB_mod _ [] rfl
    have hyl : y.length = chunksLen (l.take k) := by rw [hk2, chunksB_len]
    have hsx := chunksB_succ l k r hk hrk hmod
    have hzl : (padB (be32 r.src ++ itemsB r.items.l ++ [0])).length = chunkLen r.items.l := by have h1 := congrArg List.length hsx; rw [chunksB_len, List.length_append, chunksB_len] at h1; omega
    have hc8 : 1 ≤ chunkLen r.items.l := by rw [← hzl, padB_len]; simp only [List.length_append, be32_len]; omega
    have hov : IntKind.i64.wrap (((y.length : Nat) : Int) + (((padB (be32 r.src ++ itemsB r.items.l ++ [0])).length : Nat) : Int)) = (((y ++ padB (be32 r.src ++ itemsB r.items.l ++ [0])).length : Nat) : Int) := by rw [hzl, IntWalk.i64_in _ (by omega), List.length_append, hzl]; omega
    obtain rfl : o4 = 4 := ho (by omega)
    refine rgp hE hS [ie 90, le 90 0, nw 91, st 91] (fun p6 => kp [(8, pt (p6 2).g 0)]) (fun p6 => kP [(91, some (.blk (p6 2).g 227 (Chunk.cells r).toArray))]) (fun _ => ⟨kr (show k < l.length from hk), trivial⟩) fun p6 a u hE hS => ?_
    refine rgp hE hS [ld 91, cu 124 [] [94] (fun y => .tuple #[.slice y.a (padB (be32 r.src ++ itemsB r.items.l ++ [0])).length y.c, .nilIface]) (fun y => [some (.bytes w.heap.size (.slice y.a (padB (be32 r.src ++ itemsB r.items.l ++ [0])).length y.c) (padB (be32 r.src ++ itemsB r.items.l ++ [0])))]), pu, pu, pu, pu, pu] (fun p7 => kp [(9, .slice (p7 1).a (padB (be32 r.src ++ itemsB r.items.l ++ [0])).length (p7 1).c), (10, .nilIface)]) (fun p7 => kP [(94, some (.bytes w.heap.size (.slice (p7 1).a (padB (be32 r.src ++ itemsB r.items.l ++ [0])).length (p7 1).c) (padB (be32 r.src ++ itemsB r.items.l ++ [0]))))]) (fun _ => ⟨kr (cu_mar (P := Tryz.prog) (w0 := w) (ps := [none]) 94 124 #[.agg (Chunk.cells r).toArray] (padB (be32 r.src ++ itemsB r.items.l ++ [0])) (fun w4 hB hz => chunkMar_any r w4 ((Reads.below hri1 hB).more hz) hr1.2.2.1 (by omega) hr1.2.2.2.2 hr1.1 hr1.2.1)), trivial⟩) fun p7 a u hE hS => ?_
    refine wp_seq ?_
    refine rg hE hS [pu, pu] (fun _ => kn [(30, .bool false)] [1, 2, 3, 4, 5, 6, 18, 19, 20, 9, 10]) (fun _ => kN [] [94, 90, 1, 101]) fun _ a u hE hS => ?_
    refine iff hE ?_
    refine wp_skip ?_
    refine rgp hE hS [pu, pu, sc, pu, cp .bytes 1 94] (fun _ => kp []) (fun _ => kP [(1, some (.buf (p2 1).g (put (pz ([0, 0, 0, 0] ++ y) N) (4 + (y.length) * 1) (padB (be32 r.src ++ itemsB r.items.l ++ [0])))))]) (fun _ => ⟨kr (show y.length ≤ (N - 4) ∧ (N - 4) ≤ (N - 4) ∧ (y.length < (N - 4) ∨ y.length = 0) by omega), kr (show (padB (be32 r.src ++ itemsB r.items.l ++ [0])).length ≤ N - 4 - (y.length) ∧ 4 + (y.length) * 1 + (padB (be32 r.src ++ itemsB r.items.l ++ [0])).length ≤ (pz ([0, 0, 0, 0] ++ y) N).length from by rw [pz_len ([0, 0, 0, 0] ++ y) N (by simp only [List.length_append, List.length_cons, List.length_nil]; omega), hzl]; omega), trivial⟩) fun _ a u hE hS => ?_
    rw [put_pz ([0, 0, 0, 0] ++ y) (padB (be32 r.src ++ itemsB r.items.l ++ [0])) N (4 + (y.length) * 1) (by simp only [List.length_append, List.length_cons, List.length_nil]; omega) (by rw [hzl]; omega), List.append_assoc] at hS
    refine rgE hE hS [pu, pu, pu, pe (.int .i64 ((y ++ padB (be32 r.src ++ itemsB r.items.l ++ [0])).length : Nat)), pu] (fun _ => kp [(6, .int .i64 ((y ++ padB (be32 r.src ++ itemsB r.items.l ++ [0])).length : Nat))]) (fun _ => kP []) (fun _ => ⟨kr (congrArg (Value.int .i64) hov), trivial⟩) fun _ a u hE hS => ?_
    exact hK ⟨pay0, 0, [], y ++ padB (be32 r.src ++ itemsB r.items.l ++ [0])⟩ a u _ _ ⟨rfl, by show y ++ padB (be32 r.src ++ itemsB r.items.l ++ [0]) = _; rw [hk2, hsx]⟩ hE hS (by kernel_rfl)
  simp only [List.take_length] at hI
  obtain ⟨h1, h2⟩ := hI
  subst h1 h2
  refine wp_seq ?_
  refine rgp hE hS [pu, ld 101, pu, pe (.bool false)] (fun _ => kp [(45, .bool false)]) (fun _ => kP []) (fun _ => ⟨kr (congrArg Value.bool (decide_eq_false (show ¬ (((l.length : Nat) : Int) > 31) by omega))), trivial⟩) fun _ a u hE hS => ?_
  refine iff hE ?_
  refine wp_skip ?_
  refine rgp hE hS [cu 125 [101] [] (fun _ => .agg #[.bool false, .int .u8 (((l.length : Int) % 256)), .int .u8 202, .int .u16 ((((N : Nat) : Int) / 4 - 1) % 65536)]) (fun _ => []), cu 106 [] [95] (fun y => .tuple #[.slice (some ⟨y.g, 0, none⟩) 4 4, .nilIface]) (fun y => [some (.buf y.g (hdrB (((l.length : Int) % 256)) 202 ((((N : Nat) : Int) / 4 - 1) % 65536)))]), pu, pu, pu, pu, pu] (fun p12 => kp [(11, sv (p12 1).g 0 4 4), (12, .nilIface)]) (fun p12 => kP [(95, some (.buf (p12 1).g (hdrB (((l.length : Int) % 256)) 202 ((((N : Nat) : Int) / 4 - 1) % 65536))))]) (fun _ => ⟨kr (cu_val (P := Tryz.prog) (w0 := w) 101 (p1 0).g 224 #[.slice A (l.length : Nat) c] 125 #[.pointer (some ⟨(p1 0).g, 0, none⟩)] (.agg #[.bool false, .int .u8 (((l.length : Int) % 256)), .int .u8 202, .int .u16 ((((N : Nat) : Int) / 4 - 1) % 65536)]) (fun w4 hB hz hb => by rw [hN]; exact sdhdr_any (p1 0).g w4 _ A l c hb ((Reads.below hr hB).more hz) (fun x hx => (Reads.below (hri x hx) hB).more hz) (by omega) (fun x hx => (hok x hx).2.2.1) (by omega))), kr (cu_buf (P := Tryz.prog) (w0 := w) (ps := [none]) 95 106 #[.agg #[.bool false, .int .u8 (((l.length : Int) % 256)), .int .u8 202, .int .u16 ((((N : Nat) : Int) / 4 - 1) % 65536)]] (fun g => .tuple #[.slice (some ⟨g, 0, none⟩) 4 4, .nilIface]) (hdrB (((l.length : Int) % 256)) 202 ((((N : Nat) : Int) / 4 - 1) % 65536)) (fun w4 hB hz => hdrMar_any _ _ _ w4 (by omega) (by omega) (by omega) (by omega))), trivial⟩) fun p12 a u hE hS => ?_
  refine wp_seq ?_
  refine rg hE hS [pu, pu] (fun _ => kn [(53, .bool false)] [2, 3, 4, 11, 12]) (fun _ => kN [] [95, 1]) fun _ a u hE hS => ?_
  refine iff hE ?_
  refine wp_skip ?_
  refine rgp hE hS [pu, pu, cp .buf 1 95] (fun _ => kp []) (fun _ => kP [(1, some (.buf (p2 1).g (put (pz ([0, 0, 0, 0] ++ chunksB l) N) 0 (hdrB (((l.length : Int) % 256)) 202 ((((N : Nat) : Int) / 4 - 1) % 65536)))))]) (fun _ => ⟨kr (show (hdrB (((l.length : Int) % 256)) 202 ((((N : Nat) : Int) / 4 - 1) % 65536)).length ≤ N ∧ 0 + (hdrB (((l.length : Int) % 256)) 202 ((((N : Nat) : Int) / 4 - 1) % 65536)).length ≤ (pz ([0, 0, 0, 0] ++ chunksB l) N).length from by rw [pz_len _ _ (by simp only [List.length_append, List.length_cons, List.length_nil, be32_len, be64_len, be16_len, hfl]; omega), show (hdrB (((l.length : Int) % 256)) 202 ((((N : Nat) : Int) / 4 - 1) % 65536)).length = 4 from rfl]; omega), trivial⟩) fun _ a u hE hS => ?_
  rw [put_head ([0, 0, 0, 0] ++ chunksB l) (chunksB l) (hdrB (((l.length : Int) % 256)) 202 ((((N : Nat) : Int) / 4 - 1) % 65536)) N (by simp only [List.append_assoc]) rfl, pz_full _ _ (by simp only [hdrB, List.length_append, List.length_cons, List.length_nil, be32_len, be64_len, be16_len, hfl]; omega)] at hS
  refine rg hE hS [pu, pu, pu] (fun _ => kn [(2, sv (p2 1).g 0 N N)] [3]) (fun _ => kN [] [1]) fun _ a u hE hS => ?_
  refine wp_ret ?_
  exact ret2 hE Tryz.results121 (sv (p2 1).g 0 N N) .nilIface (MarOut.buf (bs := hdrB (((l.length : Int) % 256)) 202 ((((N : Nat) : Int) / 4 - 1) % 65536) ++ (chunksB l)) (pcF hS 1) (pcG (g := (p2 1).g) (bs := hdrB (((l.length : Int) % 256)) 202 ((((N : Nat) : Int) / 4 - 1) % 65536) ++ (chunksB l)) hS 1) hS.below (by simp only [hdrB, List.length_append, List.length_cons, List.length_nil, be32_len, be64_len, be16_len, hfl]; omega) (by simp only [hdrB, List.length_append, List.length_cons, List.length_nil, be32_len, be64_len, be16_len, hfl]; omega))
end Go.Proofs.YtmmfpgoodfgkbaaGreat
