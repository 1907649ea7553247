/-
  THE WALK of the reference's reading of a header. Condition: the bytes that the slice reads as.
-/
import Derived.Test.YtmmfpgoodfgkbaaGreatDoorMRfb
namespace Go.Proofs.YtmmfpgoodfgkbaaGreatDoor
open Go Go.RowKit
set_option maxHeartbeats 4000000
set_option maxRecDepth 100000
set_option linter.unusedVariables false

def hdr0 : Array Value := #[.bool false, .int .u8 0, .int .u8 0, .int .u16 0]
def hdrR (zs : List Int) : Array Value := #[.bool (bits .and .u8 (gi zs 0) 32 != 0), .int .u8 (bits .and .u8 (gi zs 0) 31), .int .u8 (gi zs 1), .int .u16 (rd16 zs 2)]
theorem readHeader_short (A : Option Addr) (n c : Nat) (w : World) (hn : n < 4) :
  Calls Tryz.prog 7 #[.slice A n c] w fun e w' => e = .returned (.tuple #[.agg hdr0, .bool false]) ∧ Below w.heap.size w w' := by
 refine go_in Tryz.func7 rfl Tryz.ntmps7 [.slice A n c] fun a hE => ?_
 have hS := stp_in w
 refine rg hE hS [nw 102, pu] (fun p1 => kp [(2, pt (p1 0).g 0), (3, .bool false)]) (fun p1 => kP [(102, some (.blk (p1 0).g 36 #[.bool false, .int .u8 0, .int .u8 0, .int .u16 0]))]) fun p1 a u hE hS => ?_
 refine wp_seq ?_
 refine rgp hE hS [pu, pu, pe (.bool true), pu, sk, sk, sk, sk, sk, pu] (fun _ => kp [(13, .bool true)]) kP0 (fun _ => ⟨kr (cbV (dtV (show ((n : Nat) : Int) < 4 by omega))), trivial⟩) fun _ a u hE hS => ift hE ?_
 refine rg hE hS [pu, st 102, pu] kp0 kP0 fun _ a u hE hS => ?_
 refine wp_ret (thR ?_)
 exact retct hE hS Tryz.results7 102 (p1 0).g 36 hdr0 (.agg hdr0) (.bool false) ⟨rfl, hS.below⟩
theorem readHeader_bad {w : World} {B n c b o : Nat} {zs : List Int} (h : Reads w B 1 (some ⟨b, o, none⟩) n (u8s zs)) (hB : B ≤ w.heap.size) (b0 : 0 ≤ gi zs 0 ∧ gi zs 0 < 256) (b1 : 0 ≤ gi zs 1 ∧ gi zs 1 < 256) (b2 : 0 ≤ gi zs 2 ∧ gi zs 2 < 256) (b3 : 0 ≤ gi zs 3 ∧ gi zs 3 < 256) (hn : 4 ≤ n) (hc : n ≤ c) (hz : Byts zs) (hb : ¬ gi zs 0 / 64 = 2) :
  Calls Tryz.prog 7 #[.slice (some ⟨b, o, none⟩) n c] w fun e w' => e = .returned (.tuple #[.agg hdr0, .bool false]) ∧ Below w.heap.size w w' := by
 have hln : zs.length = n := by have := h.1; rw [u8s_len] at this; omega
 subst hln
 refine go_in Tryz.func7 rfl Tryz.ntmps7 [sv b o zs.length c] fun a hE => ?_
 have hS := stp_in w
 have hS := stp_ry hS 110 h (fun x hx => ⟨by omega, id⟩) hz
 refine rg hE hS [nw 102, pu] (fun p1 => kp [(2, pt (p1 0).g 0), (3, .bool false)]) (fun p1 => kP [(102, some (.blk (p1 0).g 36 #[.bool false, .int .u8 0, .int .u8 0, .int .u16 0]))]) fun p1 a u hE hS => ?_
 refine wp_seq ?_
 refine rgp hE hS [pu, pu, pe (.bool false), pu, pu, ix, rb 110 0, pe (.int .u8 (gi zs 0 / 64)), pe (.bool true), pu] (fun _ => kp [(13, .bool true)]) kP0 (fun _ => ⟨kr (cbV (dfV (show ¬ (((zs.length : Nat) : Int) < 4) by omega))), kr (show 0 < zs.length by omega), kr (show 0 < (zs).length by omega), kr (shrv .u8 (gi zs 0) 64 (by decide)), kr (cbV (show (gi zs 0 / 64 != 2) = true by simpa using hb)), trivial⟩) fun _ a u hE hS => ift hE ?_
 refine rg hE hS [pu, st 102, pu] kp0 kP0 fun _ a u hE hS => ?_
 refine wp_ret (thR ?_)
 exact retct hE hS Tryz.results7 102 (p1 0).g 36 hdr0 (.agg hdr0) (.bool false) ⟨rfl, hS.below⟩
theorem readHeader_ok {w : World} {B n c b o : Nat} {zs : List Int} (h : Reads w B 1 (some ⟨b, o, none⟩) n (u8s zs)) (hB : B ≤ w.heap.size) (b0 : 0 ≤ gi zs 0 ∧ gi zs 0 < 256) (b1 : 0 ≤ gi zs 1 ∧ gi zs 1 < 256) (b2 : 0 ≤ gi zs 2 ∧ gi zs 2 < 256) (b3 : 0 ≤ gi zs 3 ∧ gi zs 3 < 256) (hn : 4 ≤ n) (hc : n ≤ c) (hz : Byts zs) (hb : gi zs 0 / 64 = 2) :
  Calls Tryz.prog 7 #[.slice (some ⟨b, o, none⟩) n c] w fun e w' => e = .returned (.tuple #[.agg (hdrR zs), .bool true]) ∧ Below w.heap.size w w' := by
 have hln : zs.length = n := by have := h.1; rw [u8s_len] at this; omega
 subst hln
 refine go_in Tryz.func7 rfl Tryz.ntmps7 [sv b o zs.length c] fun a hE => ?_
 have hS := stp_in w
 have hS := stp_ry hS 110 h (fun x hx => ⟨by omega, id⟩) hz
 refine rg hE hS [nw 102, pu] (fun p1 => kp [(2, pt (p1 0).g 0), (3, .bool false)]) (fun p1 => kP [(102, some (.blk (p1 0).g 36 #[.bool false, .int .u8 0, .int .u8 0, .int .u16 0]))]) fun p1 a u hE hS => ?_
 refine wp_seq ?_
 refine rgp hE hS [pu, pu, pe (.bool false), pu, pu, ix, rb 110 0, pe (.int .u8 (gi zs 0 / 64)), pe (.bool false), pu] (fun _ => kp [(13, .bool false)]) kP0 (fun _ => ⟨kr (cbV (dfV (show ¬ (((zs.length : Nat) : Int) < 4) by omega))), kr (show 0 < zs.length by omega), kr (show 0 < (zs).length by omega), kr (shrv .u8 (gi zs 0) 64 (by decide)), kr (cbV (show (gi zs 0 / 64 != 2) = false by rw [hb]; rfl)), trivial⟩) fun _ a u hE hS => iff hE <| wp_skip ?_
 refine dgp hE hS [pu, ix, rb 110 0, pu, pu, pu, ix, rb 110 0, pu, pu, ix, rb 110 1, pu, rsl 110 112, cl cU16 [112] [], pu, st 102, pu] (fun _ => kp [(3, .bool true)]) (fun _ => kP [(102, some (.blk (p1 0).g 36 #[.bool (bits .and .u8 (gi zs 0) 32 != 0), .int .u8 (bits .and .u8 (gi zs 0) 31), .int .u8 (gi zs 1), .int .u16 (rd16 (zs.drop 2) 0)]))]) (fun _ => ⟨kr (show 0 < zs.length by omega), kr (show 0 < (zs).length by omega), kr (show 0 < zs.length by omega), kr (show 0 < (zs).length by omega), kr (show 1 < zs.length by omega), kr (show 1 < (zs).length by omega), kr (show 2 ≤ zs.length ∧ zs.length ≤ zs.length ∧ zs.length ≤ c by omega), kr (show 2 ≤ (zs.drop 2).length ∧ (zs.drop 2).length ≤ (c - 2) ∧ 0 < (zs.drop 2).length by simp only [List.length_drop]; omega), trivial⟩) fun _ a u hE hS => ?_
 refine wp_ret ?_
 have e : rd16 zs 2 = (rd16 (zs.drop 2) 0) := (rd16_drop zs 2 0).symm
 unfold hdrR
 rw [e]
 exact retct hE hS Tryz.results7 102 (p1 0).g 36 #[.bool (bits .and .u8 (gi zs 0) 32 != 0), .int .u8 (bits .and .u8 (gi zs 0) 31), .int .u8 (gi zs 1), .int .u16 (rd16 (zs.drop 2) 0)] (.agg #[.bool (bits .and .u8 (gi zs 0) 32 != 0), .int .u8 (bits .and .u8 (gi zs 0) 31), .int .u8 (gi zs 1), .int .u16 (rd16 (zs.drop 2) 0)]) (.bool true) ⟨rfl, hS.below⟩
end Go.Proofs.YtmmfpgoodfgkbaaGreatDoor
