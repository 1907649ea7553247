/-
  THE CONTRACTS of what reads numbers out of bytes, the reference's and the package's. No condition.
-/
import Derived.Test.YtmmfpgoodfgkbaaGreatRd
import Derived.Test.YtmmfpgoodfgkbaaGreatRdHdr
namespace Go.Proofs.YtmmfpgoodfgkbaaGreat
open Go Go.RowKit
set_option linter.unusedVariables false

def rd64 (l : List Int) (i : Nat) : Int := rd32 l i * 4294967296 + rd32 l (i + 4)
theorem or64 {x y : Int} (i : Nat) (hx0 : 0 ≤ x) (hx : x % 2 ^ i = 0) (hx1 : x < 18446744073709551616) (hy0 : 0 ≤ y) (hy : y < 2 ^ i) (hy1 : y < 18446744073709551616) : bits .or .u64 x y = x + y :=
  bits_join .u64 64 (by decide) (fun n h0 h1 => by simp [IntKind.wrap, IntKind.bits, IntKind.signed]; omega) i x y hx0 hx (by omega) hy0 hy (by omega)
set_option maxHeartbeats 1000000 in
theorem u64_any {w : World} {B n c : Nat} {ad : Addr} {zs : List Int} (h : Reads w B 1 (some ad) n (u8s zs)) (hz : Byts zs) (hn : 8 ≤ n) (hc : n ≤ c) :
    Calls Tryz.prog 38 #[.slice (some ad) n c] w fun e w' => e = .returned (.int .u64 (rd64 zs 0)) ∧ ∃ m, w' = w.drewN m := by
  have b0 := rd32_lt hz 0
  have b1 := rd32_lt hz 4
  have h2 := reads_subS h 3 (by omega)
  have hz2 := hz.drop 4
  have hl2 : (4 : Int) ≤ (n : Int) := by omega
  have hl3 : (n : Int) ≤ (c : Int) := by omega
  go_enter Tryz.func38, Tryz.ntmps38
  go_wp2_with fail
  go_quiet (first | (go_at_call_of 37 (Value.slice (some ad) n c); exact Calls.quiet_of (u32_any (h.drewN _) hz (by omega) (by omega))) | (go_at_call 37; exact Calls.quiet_of (u32_any (h2.drewN _) hz2 (by omega) (by omega))))
  go_wp2
  go_ret
  refine ⟨?_, nq, rfl⟩
  show Ending.returned (.int .u64 (bits .or .u64 (rd32 zs 0 * 4294967296) (rd32 (zs.drop 4) 0 % 18446744073709551616))) = _
  rw [rd32_drop, show 4 + 0 = 4 from rfl, Int.emod_eq_of_lt (by omega) (by omega), or64 32 (by omega) (by omega) (by omega) (by omega) (by omega) (by omega)]
  rfl
set_option maxHeartbeats 1000000 in
theorem be16r_any {w : World} {B n c : Nat} {ad : Addr} {zs : List Int} (h : Reads w B 1 (some ad) n (u8s zs)) (hz : Byts zs) (hn : 2 ≤ n) :
    Calls Tryz.prog 114 #[.slice (some ad) n c] w fun e w' => e = .returned (.int .u16 (rd16 zs 0)) ∧ ∃ m, w' = w.drewN m := by
  have c0 : w.cell? ad = some (.int .u8 (gi zs 0)) := h.byte (k := 0) (by omega)
  have c1 : w.cell? ⟨ad.block, ad.off + 1, none⟩ = some (.int .u8 (gi zs 1)) := h.byteS (k := 0) (by omega)
  have b0 := hz.gi 0
  have b1 := hz.gi 1
  have hl0 : (0 : Int) < (n : Int) := by omega
  have hl1 : (1 : Int) < (n : Int) := by omega
  go_enter Tryz.func114, Tryz.ntmps114
  go_wp2_with fail
  go_quiet (fail)
  go_wp2
  go_ret
  refine ⟨?_, nq, rfl⟩
  show Ending.returned (.int .u16 (bits .or .u16 (gi zs 1) (gi zs 0 * 256))) = _
  rw [bits_comm .u16 _ (gi zs 0 * 256), or16 b0.1 b0.2 b1.1 b1.2]
  rfl
set_option maxHeartbeats 1000000 in
theorem be64r_any {w : World} {B n c : Nat} {ad : Addr} {zs : List Int} (h : Reads w B 1 (some ad) n (u8s zs)) (hz : Byts zs) (hn : 8 ≤ n) (hc : n ≤ c) :
    Calls Tryz.prog 111 #[.slice (some ad) n c] w fun e w' => e = .returned (.int .u64 (rd64 zs 0)) ∧ ∃ m, w' = w.drewN m := by
  have c7 : w.cell? ⟨ad.block, ad.off + 7, none⟩ = some (.int .u8 (gi zs 7)) := h.byteS (k := 6) (by omega)
  have b0 := rd32_lt hz 0
  have b1 := rd32_lt hz 4
  have h2 := reads_subS h 3 (by omega)
  have hz2 := hz.drop 4
  have hl2 : (4 : Int) ≤ (n : Int) := by omega
  have hl7 : (7 : Int) < (n : Int) := by omega
  have hl3 : (n : Int) ≤ (c : Int) := by omega
  go_enter Tryz.func111, Tryz.ntmps111
  go_wp2_with fail
  go_quiet (first | (go_at_call_of 110 (Value.slice (some ad) n c); exact Calls.quiet_of (be32r_any (h.drewN _) hz (by omega))) | (go_at_call 110; exact Calls.quiet_of (be32r_any (h2.drewN _) hz2 (by omega))))
  go_wp2
  go_ret
  refine ⟨?_, nq, rfl⟩
  show Ending.returned (.int .u64 (bits .or .u64 (rd32 zs 0 * 4294967296) (rd32 (zs.drop 4) 0 % 18446744073709551616))) = _
  rw [rd32_drop, show 4 + 0 = 4 from rfl, Int.emod_eq_of_lt (by omega) (by omega), or64 32 (by omega) (by omega) (by omega) (by omega) (by omega) (by omega)]
  rfl
set_option maxHeartbeats 1000000 in
theorem get24_any {w : World} {B n c : Nat} {ad : Addr} {zs : List Int} (h : Reads w B 1 (some ad) n (u8s zs)) (hz : Byts zs) (hn : 3 ≤ n) :
    Calls Tryz.prog 203 #[.slice (some ad) n c] w fun e w' => e = .returned (.int .u32 (rd24 zs 0)) ∧ ∃ m, w' = w.drewN m := by
  have c0 : w.cell? ad = some (.int .u8 (gi zs 0)) := h.byte (k := 0) (by omega)
  have c1 : w.cell? ⟨ad.block, ad.off + 1, none⟩ = some (.int .u8 (gi zs 1)) := h.byteS (k := 0) (by omega)
  have c2 : w.cell? ⟨ad.block, ad.off + 2, none⟩ = some (.int .u8 (gi zs 2)) := h.byteS (k := 1) (by omega)
  have b0 := hz.gi 0
  have b1 := hz.gi 1
  have b2 := hz.gi 2
  have hl0 : (0 : Int) < (n : Int) := by omega
  have hl1 : (1 : Int) < (n : Int) := by omega
  have hl2 : (2 : Int) < (n : Int) := by omega
  go_enter Tryz.func203, Tryz.ntmps203
  go_wp2_with fail
  go_quiet (fail)
  go_wp2
  go_ret
  exact ⟨rfl, nq, rfl⟩
def cU16 : Ct Tryz.prog := ctRd 60 .u16 2 (fun l => rd16 l 0) fun h hz hn _ _ => u16_any h hz hn
def cU24 : Ct Tryz.prog := ctRd 62 .u32 3 (fun l => rd24 l 0) fun h hz hn _ _ => u24_any h hz hn
def cU32 : Ct Tryz.prog := ctRd 37 .u32 4 (fun l => rd32 l 0) fun h hz hn hc _ => u32_any h hz hn hc
def cU64 : Ct Tryz.prog := ctRd 38 .u64 8 (fun l => rd64 l 0) fun h hz hn hc _ => u64_any h hz hn hc
def cB16 : Ct Tryz.prog := ctRd 114 .u16 2 (fun l => rd16 l 0) fun h hz hn _ _ => be16r_any h hz hn
def cB32 : Ct Tryz.prog := ctRd 110 .u32 4 (fun l => rd32 l 0) fun h hz hn _ _ => be32r_any h hz hn
def cB64 : Ct Tryz.prog := ctRd 111 .u64 8 (fun l => rd64 l 0) fun h hz hn hc _ => be64r_any h hz hn hc
def cG24 : Ct Tryz.prog := ctRd 203 .u32 3 (fun l => rd24 l 0) fun h hz hn _ _ => get24_any h hz hn
end Go.Proofs.YtmmfpgoodfgkbaaGreat
