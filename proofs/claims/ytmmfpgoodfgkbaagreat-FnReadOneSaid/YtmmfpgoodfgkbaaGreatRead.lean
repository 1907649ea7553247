/-
  READING NUMBERS from bytes, the highest first: the reference's words and the package's. Condition: the slice reads as a list of bytes that is long enough.
-/
import Derived.Test.YtmmfpgoodfgkbaaGreatMPkt
import Derived.Laws.BitsLemmas
namespace Go.Proofs.YtmmfpgoodfgkbaaGreat
open Go Go.RowKit
set_option linter.unusedVariables false

def gi (l : List Int) (i : Nat) : Int := l.getD i 0
def rd16 (l : List Int) (i : Nat) : Int := gi l i * 256 + gi l (i + 1)
def rd24 (l : List Int) (i : Nat) : Int := gi l i * 65536 + gi l (i + 1) * 256 + gi l (i + 2)
def rd32 (l : List Int) (i : Nat) : Int := gi l i * 16777216 + gi l (i + 1) * 65536 + gi l (i + 2) * 256 + gi l (i + 3)
theorem Byts.gi {l : List Int} (h : Byts l) (i : Nat) : 0 ≤ gi l i ∧ gi l i < 256 := by
  unfold Go.Proofs.YtmmfpgoodfgkbaaGreat.gi
  rw [List.getD_eq_getElem?_getD]
  rcases hx : l[i]? with _ | x
  · simp
  · simpa using h x (List.mem_of_getElem? hx)
theorem gi_drop (l : List Int) (k i : Nat) : gi (l.drop k) i = gi l (k + i) := by simp [gi, List.getD_eq_getElem?_getD]
theorem Byts.drop {l : List Int} (h : Byts l) (k : Nat) : Byts (l.drop k) := fun x hx => h x (List.mem_of_mem_drop hx)
theorem Byts.take {l : List Int} (h : Byts l) (k : Nat) : Byts (l.take k) := fun x hx => h x (List.mem_of_mem_take hx)
theorem rd16_drop (l : List Int) (k i : Nat) : rd16 (l.drop k) i = rd16 l (k + i) := by simp [rd16, gi_drop, Nat.add_assoc]
theorem rd24_drop (l : List Int) (k i : Nat) : rd24 (l.drop k) i = rd24 l (k + i) := by simp [rd24, gi_drop, Nat.add_assoc]
theorem rd32_drop (l : List Int) (k i : Nat) : rd32 (l.drop k) i = rd32 l (k + i) := by simp [rd32, gi_drop, Nat.add_assoc]

theorem or16 {a b : Int} (ha : 0 ≤ a) (ha1 : a < 256) (hb : 0 ≤ b) (hb1 : b < 256) : bits .or .u16 (a * 256) b = a * 256 + b :=
  bits_join .u16 16 (by decide) (fun n h0 h1 => by simp [IntKind.wrap, IntKind.bits, IntKind.signed]; omega) 8 _ _ (by omega) (by omega) (by omega) hb (by omega) (by omega)
theorem wraps_u32 (n : Int) (h0 : 0 ≤ n) (h1 : n < 2 ^ 32) : IntKind.u32.wrap n = n := by rw [IntKind.wrap_u32]; omega
theorem or32 {x y : Int} (i : Nat) (hx0 : 0 ≤ x) (hx : x % 2 ^ i = 0) (hx1 : x < 4294967296) (hy0 : 0 ≤ y) (hy : y < 2 ^ i) (hy1 : y < 4294967296) : bits .or .u32 x y = x + y :=
  bits_join .u32 32 (by decide) wraps_u32 i x y hx0 hx (by omega) hy0 hy (by omega)
theorem bits_comm (k : IntKind) (x y : Int) : bits .or k x y = bits .or k y x := by simp [bits, BitVec.or_comm]

theorem Reads.byte {w : World} {B n : Nat} {ad : Addr} {zs : List Int} (h : Reads w B 1 (some ad) n (u8s zs)) {k : Nat} (hk : k < n) : w.cell? (ad.add k) = some (.int .u8 (gi zs k)) := by
  obtain ⟨a', u, e, _, hx, hc⟩ := h.at_ hk
  obtain rfl := Option.some.inj e
  have hl : k < zs.length := by have := h.1; rw [u8s_len] at this; omega
  rw [u8s_at hl] at hx
  rw [hc, ← hx]
  simp [gi, hl]
theorem Reads.byteS {w : World} {B n : Nat} {ad : Addr} {zs : List Int} (h : Reads w B 1 (some ad) n (u8s zs)) {k : Nat} (hk : k + 1 < n) : w.cell? ⟨ad.block, ad.off + (k + 1), none⟩ = some (.int .u8 (gi zs (k + 1))) := by
  have := h.byte hk
  unfold Addr.add at this
  rwa [if_neg (by omega)] at this

theorem reads_sub {w : World} {B n : Nat} {ad : Addr} {zs : List Int} (h : Reads w B 1 (some ad) n (u8s zs)) {k : Nat} (hk : k ≤ n) : Reads w B 1 (some (ad.add k)) (n - k) (u8s (zs.drop k)) := by
  refine ⟨by have := h.1; rw [u8s_len] at *; rw [List.length_drop]; omega, fun hn => ?_⟩
  obtain ⟨ad', e, hb, hc⟩ := h.2 (by omega)
  obtain rfl := Option.some.inj e
  refine ⟨_, rfl, by rw [block_of_add]; exact hb, fun j u hu => ?_⟩
  rw [add_of_add]
  exact hc (k + j) u (by rw [← hu]; simp [u8s])
theorem reads_subS {w : World} {B n : Nat} {ad : Addr} {zs : List Int} (h : Reads w B 1 (some ad) n (u8s zs)) (k : Nat) (hk : k + 1 ≤ n) : Reads w B 1 (some ⟨ad.block, ad.off + (k + 1), none⟩) (n - (k + 1)) (u8s (zs.drop (k + 1))) := by
  have := reads_sub h hk
  unfold Addr.add at this
  rwa [if_neg (by omega)] at this

set_option maxHeartbeats 400000 in
theorem u16_any {w : World} {B n c : Nat} {ad : Addr} {zs : List Int} (h : Reads w B 1 (some ad) n (u8s zs)) (hz : Byts zs) (hn : 2 ≤ n) :
    Calls Tryz.prog 60 #[.slice (some ad) n c] w fun e w' => e = .returned (.int .u16 (rd16 zs 0)) ∧ ∃ m, w' = w.drewN m := by
  have c0 : w.cell? ad = some (.int .u8 (gi zs 0)) := h.byte (k := 0) (by omega)
  have c1 : w.cell? ⟨ad.block, ad.off + 1, none⟩ = some (.int .u8 (gi zs 1)) := h.byteS (k := 0) (by omega)
  have b0 := hz.gi 0
  have b1 := hz.gi 1
  have hl0 : (0 : Int) < (n : Int) := by omega
  have hl1 : (1 : Int) < (n : Int) := by omega
  go_enter Tryz.func60, Tryz.ntmps60
  go_wp2_with fail
  go_quiet (fail)
  go_wp2
  go_ret
  rw [or16 b0.1 b0.2 b1.1 b1.2]
  exact ⟨rfl, nq, rfl⟩

theorem rd16_lt {zs : List Int} (hz : Byts zs) (i : Nat) : 0 ≤ rd16 zs i ∧ rd16 zs i < 65536 := by
  have := hz.gi i
  have := hz.gi (i + 1)
  unfold rd16; omega
theorem rd24_lt {zs : List Int} (hz : Byts zs) (i : Nat) : 0 ≤ rd24 zs i ∧ rd24 zs i < 16777216 := by
  have := hz.gi i
  have := hz.gi (i + 1)
  have := hz.gi (i + 2)
  unfold rd24; omega
theorem rd32_lt {zs : List Int} (hz : Byts zs) (i : Nat) : 0 ≤ rd32 zs i ∧ rd32 zs i < 4294967296 := by
  have := hz.gi i
  have := hz.gi (i + 1)
  have := hz.gi (i + 2)
  have := hz.gi (i + 3)
  unfold rd32; omega
theorem rd32_two (zs : List Int) (i : Nat) : rd32 zs i = rd16 zs i * 65536 + rd16 zs (i + 2) := by unfold rd32 rd16; rw [show i + 2 + 1 = i + 3 from rfl]; omega

set_option maxHeartbeats 400000 in
theorem u24_any {w : World} {B n c : Nat} {ad : Addr} {zs : List Int} (h : Reads w B 1 (some ad) n (u8s zs)) (hz : Byts zs) (hn : 3 ≤ n) :
    Calls Tryz.prog 62 #[.slice (some ad) n c] w fun e w' => e = .returned (.int .u32 (rd24 zs 0)) ∧ ∃ m, w' = w.drewN m := by
  have c0 : w.cell? ad = some (.int .u8 (gi zs 0)) := h.byte (k := 0) (by omega)
  have c1 : w.cell? ⟨ad.block, ad.off + 1, none⟩ = some (.int .u8 (gi zs 1)) := h.byteS (k := 0) (by omega)
  have c2 : w.cell? ⟨ad.block, ad.off + 2, none⟩ = some (.int .u8 (gi zs 2)) := h.byteS (k := 1) (by omega)
  have b0 := hz.gi 0
  have b1 := hz.gi 1
  have b2 := hz.gi 2
  have hl0 : (0 : Int) < (n : Int) := by omega
  have hl1 : (1 : Int) < (n : Int) := by omega
  have hl2 : (2 : Int) < (n : Int) := by omega
  go_enter Tryz.func62, Tryz.ntmps62
  go_wp2_with fail
  go_quiet (fail)
  go_wp2
  go_ret
  rw [or32 16 (x := gi zs 0 * 65536) (by omega) (by omega) (by omega) (by omega) (by omega) (by omega), or32 8 (by omega) (by omega) (by omega) (by omega) (by omega) (by omega)]
  exact ⟨rfl, nq, rfl⟩

set_option maxHeartbeats 400000 in
theorem u32_any {w : World} {B n c : Nat} {ad : Addr} {zs : List Int} (h : Reads w B 1 (some ad) n (u8s zs)) (hz : Byts zs) (hn : 4 ≤ n) (hc : n ≤ c) :
    Calls Tryz.prog 37 #[.slice (some ad) n c] w fun e w' => e = .returned (.int .u32 (rd32 zs 0)) ∧ ∃ m, w' = w.drewN m := by
  have b0 := rd16_lt hz 0
  have b1 := rd16_lt hz 2
  have h2 := reads_subS h 1 (by omega)
  have hz2 := hz.drop 2
  have hl2 : (2 : Int) ≤ (n : Int) := by omega
  have hl3 : (n : Int) ≤ (c : Int) := by omega
  go_enter Tryz.func37, Tryz.ntmps37
  go_wp2_with fail
  go_quiet (first | (go_at_call_of 60 (Value.slice (some ad) n c); exact Calls.quiet_of (u16_any (h.drewN _) hz (by omega))) | (go_at_call 60; exact Calls.quiet_of (u16_any (h2.drewN _) hz2 (by omega))))
  go_wp2
  go_ret
  refine ⟨?_, nq, rfl⟩
  show Ending.returned (.int .u32 (bits .or .u32 (rd16 zs 0 * 65536) (rd16 (zs.drop 2) 0 % 4294967296))) = _
  rw [rd16_drop, show 2 + 0 = 2 from rfl, Int.emod_eq_of_lt (by omega) (by omega), or32 16 (by omega) (by omega) (by omega) (by omega) (by omega) (by omega), rd32_two]

set_option maxHeartbeats 1000000 in
theorem be32r_any {w : World} {B n c : Nat} {ad : Addr} {zs : List Int} (h : Reads w B 1 (some ad) n (u8s zs)) (hz : Byts zs) (hn : 4 ≤ n) :
    Calls Tryz.prog 110 #[.slice (some ad) n c] w fun e w' => e = .returned (.int .u32 (rd32 zs 0)) ∧ ∃ m, w' = w.drewN m := by
  have c0 : w.cell? ad = some (.int .u8 (gi zs 0)) := h.byte (k := 0) (by omega)
  have c1 : w.cell? ⟨ad.block, ad.off + 1, none⟩ = some (.int .u8 (gi zs 1)) := h.byteS (k := 0) (by omega)
  have c2 : w.cell? ⟨ad.block, ad.off + 2, none⟩ = some (.int .u8 (gi zs 2)) := h.byteS (k := 1) (by omega)
  have c3 : w.cell? ⟨ad.block, ad.off + 3, none⟩ = some (.int .u8 (gi zs 3)) := h.byteS (k := 2) (by omega)
  have b0 := hz.gi 0
  have b1 := hz.gi 1
  have b2 := hz.gi 2
  have b3 := hz.gi 3
  have hl0 : (0 : Int) < (n : Int) := by omega
  have hl1 : (1 : Int) < (n : Int) := by omega
  have hl2 : (2 : Int) < (n : Int) := by omega
  have hl3 : (3 : Int) < (n : Int) := by omega
  go_enter Tryz.func110, Tryz.ntmps110
  go_wp2_with fail
  go_quiet (fail)
  go_wp2
  go_ret
  refine ⟨?_, nq, rfl⟩
  show Ending.returned (.int .u32 (bits .or .u32 (bits .or .u32 (bits .or .u32 (gi zs 3) (gi zs 2 * 256)) (gi zs 1 * 65536)) (gi zs 0 * 16777216))) = _
  rw [bits_comm .u32 (gi zs 3) (gi zs 2 * 256), or32 8 (x := gi zs 2 * 256) (y := gi zs 3) (by omega) (by omega) (by omega) (by omega) (by omega) (by omega), bits_comm .u32 _ (gi zs 1 * 65536), or32 16 (x := gi zs 1 * 65536) (y := gi zs 2 * 256 + gi zs 3) (by omega) (by omega) (by omega) (by omega) (by omega) (by omega), bits_comm .u32 _ (gi zs 0 * 16777216), or32 24 (by omega) (by omega) (by omega) (by omega) (by omega) (by omega)]
  congr 2
  show _ = gi zs 0 * 16777216 + gi zs 1 * 65536 + gi zs 2 * 256 + gi zs 3
  omega
end Go.Proofs.YtmmfpgoodfgkbaaGreat
