/-
  DESCRIPTIONS IN BYTES, plain: where the items of a chunk stand, where the chunks stand. No condition.
-/
import Derived.Test.YtmmfpgoodfgkbaaGreatDoorMRfb
namespace Go.Proofs.YtmmfpgoodfgkbaaGreatDoor
open Go Go.RowKit
set_option linter.unusedVariables false

def Chunk.cln (x : Chunk) : Chunk := ⟨x.src, ⟨none, 0, x.items.l⟩⟩
def Blo.cln (x : Blo) : Blo := ⟨x.media, x.first, ⟨none, 0, x.mets.l⟩⟩
def Sta.cln (x : Sta) : Sta := ⟨x.vec, x.sym, x.size, x.run, ⟨none, 0, x.list.l⟩⟩
def upto (p : Nat → Bool) : Nat → Nat → Nat
 | 0, k => k
 | n + 1, k => bif p k then upto p n (k + 1) else k
theorem upto_spec (p : Nat → Bool) : ∀ n k, k ≤ upto p n k ∧ upto p n k ≤ k + n ∧ (∀ j, k ≤ j → j < upto p n k → p j = true) ∧ (upto p n k < k + n → p (upto p n k) = false)
 | 0, k => ⟨Nat.le_refl _, Nat.le_refl _, fun j h1 h2 => by simp only [upto] at h2; omega, fun h => by simp only [upto] at h; omega⟩
 | n + 1, k => by
  unfold upto
  cases hp : p k with
  | false => exact ⟨Nat.le_refl _, by simp, fun j h1 h2 => by simp at h2; omega, fun _ => hp⟩
  | true =>
   obtain ⟨h1, h2, h3, h4⟩ := upto_spec p n (k + 1)
   simp only [cond_true]
   refine ⟨by omega, by omega, fun j hj1 hj2 => ?_, fun h => h4 (by omega)⟩
   by_cases e : j = k
   ·rw [e]; exact hp
   ·exact h3 j (by omega) hj2
def itOff (y : List Int) : Nat → Nat
 | 0 => 4
 | k + 1 => itOff y k + 2 + (gi y (itOff y k + 1)).toNat
def itGood (y : List Int) (k : Nat) : Bool := decide (itOff y k < y.length) && (gi y (itOff y k) != 0) && decide (itOff y (k + 1) ≤ y.length)
theorem itOff_up (y : List Int) : ∀ k, 4 + 2 * k ≤ itOff y k
 | 0 => Nat.le_refl _
 | k + 1 => by have := itOff_up y k; simp only [itOff]; omega
def itM (y : List Int) : Nat := upto (itGood y) y.length 0
theorem itM_good {y : List Int} {k : Nat} (h : k < itM y) : itOff y k < y.length ∧ gi y (itOff y k) ≠ 0 ∧ itOff y (k + 1) ≤ y.length := by
 have := (upto_spec (itGood y) y.length 0).2.2.1 k (Nat.zero_le _) h
 simp only [itGood, Bool.and_eq_true, decide_eq_true_eq, bne_iff_ne] at this
 exact ⟨this.1.1, this.1.2, this.2⟩
theorem itM_end (y : List Int) : itOff y (itM y) < y.length → gi y (itOff y (itM y)) ≠ 0 → y.length < itOff y (itM y + 1) := fun h1 h2 => by
 have hu := itOff_up y (itM y)
 have := (upto_spec (itGood y) y.length 0).2.2.2 (show itM y < 0 + y.length by omega)
 change itGood y (itM y) = false at this
 rw [itGood, decide_eq_true h1, show (gi y (itOff y (itM y)) != 0) = true from bne_iff_ne.2 h2] at this
 simpa using this
theorem itM_le (y : List Int) : itM y ≤ y.length := by have := (upto_spec (itGood y) y.length 0).2.1; simpa [itM] using this
def itAt (y : List Int) (k : Nat) : Item := ⟨gi y (itOff y k), strB ((y.take (itOff y (k + 1))).drop (itOff y k + 2))⟩
def itsN (y : List Int) (n : Nat) : List Item := (List.range n).map (itAt y)
theorem itsN_succ (y : List Int) (n : Nat) : itsN y (n + 1) = itsN y n ++ [itAt y n] := by simp [itsN, List.range_succ]
theorem itsN_len (y : List Int) (n : Nat) : (itsN y n).length = n := by simp [itsN]
def up4 (n : Nat) : Nat := (n + 3) / 4 * 4
theorem up4_spec (n : Nat) : n ≤ up4 n ∧ up4 n < n + 4 ∧ up4 n % 4 = 0 := by unfold up4; omega
def chC (y : List Int) : Chunk := ⟨rd32 y 0, ⟨none, 0, itsN y (itM y)⟩⟩
def cLen (y : List Int) : Nat := up4 (itOff y (itM y) + 1)
structure ChOk (y : List Int) : Prop where
 len : 8 ≤ y.length
 lt : itOff y (itM y) < y.length
 last : gi y (itOff y (itM y)) = 0
 pad : cLen y ≤ y.length
def chOff (y : List Int) : Nat → Nat
 | 0 => 0
 | k + 1 => chOff y k + cLen (y.drop (chOff y k))
theorem cLen_pos (y : List Int) : 8 ≤ cLen y := by
 have h1 := itOff_up y (itM y)
 have h2 := up4_spec (itOff y (itM y) + 1)
 unfold cLen; omega
theorem chOff_up (y : List Int) : ∀ k, 8 * k ≤ chOff y k
 | 0 => Nat.le_refl _
 | k + 1 => by have := chOff_up y k; have := cLen_pos (y.drop (chOff y k)); simp only [chOff]; omega
def chsN (y : List Int) (n : Nat) : List Chunk := (List.range n).map fun k => chC (y.drop (chOff y k))
theorem chsN_succ (y : List Int) (n : Nat) : chsN y (n + 1) = chsN y n ++ [chC (y.drop (chOff y n))] := by simp [chsN, List.range_succ]
structure SdOk (y : List Int) (n : Nat) : Prop where
 ok : ∀ k, k < n → ChOk (y.drop (chOff y k))
 len : chOff y n = y.length
end Go.Proofs.YtmmfpgoodfgkbaaGreatDoor
namespace Go.Proofs.YtmmfpgoodfgkbaaGreatDoor
open Go Go.RowKit
set_option linter.unusedVariables false

def metV (v : Int) : Met := ⟨v / 32768 == 1, v / 8192 % 4, v % 8192⟩
def metB (b : List Int) : Met := metV (rd16 b 0)
def bkN (z : List Int) : Nat := (rd16 (z.drop 6) 0).toNat
def ev (n : Nat) : Nat := n + n % 2
def metsN (z : List Int) (n : Nat) : List Met := (List.range n).map fun i => metB (z.drop (8 + 2 * i))
theorem metsN_succ (z : List Int) (n : Nat) : metsN z (n + 1) = metsN z n ++ [metB (z.drop (8 + 2 * n))] := by simp [metsN, List.range_succ]
theorem metsN_len (z : List Int) (n : Nat) : (metsN z n).length = n := by simp [metsN]
def bkC (z : List Int) : Blo := ⟨rd32 z 0, rd16 (z.drop 4) 0, ⟨none, 0, metsN z (bkN z)⟩⟩
def bkLen (z : List Int) : Nat := 8 + 2 * ev (bkN z)
structure BkOk (z : List Int) : Prop where
 len : bkLen z + 4 ≤ z.length
 met : ∀ i, i < bkN z → rd16 (z.drop (8 + 2 * i)) 0 / 32768 ≠ 1 → rd16 (z.drop (8 + 2 * i)) 0 = 0
def bkOff (y : List Int) : Nat → Nat
 | 0 => 0
 | k + 1 => bkOff y k + bkLen (y.drop (bkOff y k))
theorem bkOff_up (y : List Int) : ∀ k, 8 * k ≤ bkOff y k
 | 0 => Nat.le_refl _
 | k + 1 => by have := bkOff_up y k; simp only [bkOff, bkLen]; omega
def bksN (y : List Int) (n : Nat) : List Blo := (List.range n).map fun k => bkC (y.drop (bkOff y k))
theorem bksN_succ (y : List Int) (n : Nat) : bksN y (n + 1) = bksN y n ++ [bkC (y.drop (bkOff y n))] := by simp [bksN, List.range_succ]
structure CgOk (y : List Int) (n : Nat) : Prop where
 ok : ∀ k, k < n → BkOk (y.drop (bkOff y k))
 len : y.length = bkOff y n + 4
 pos : 0 < n
end Go.Proofs.YtmmfpgoodfgkbaaGreatDoor
namespace Go.Proofs.YtmmfpgoodfgkbaaGreatDoor
open Go Go.RowKit
set_option linter.unusedVariables false

def tw (y : List Int) (k : Nat) : Int := rd16 y (2 * k)
def vecN (v : Int) (n : Nat) : List Int := if v / 16384 % 2 = 0 then (List.range n).map fun i => v / 2 ^ (13 - i) % 2 else (List.range n).map fun i => v / 2 ^ (12 - 2 * i) % 4
def vecM (v : Int) : Nat := if v / 16384 % 2 = 0 then 14 else 7
def symL (v : Int) : List Int := if v < 32768 then List.replicate (v % 8192).toNat (v / 8192 % 4) else vecN v (vecM v)
def staC (v : Int) : Sta := if v < 32768 then ⟨false, v / 8192 % 4, 0, v % 8192, ⟨none, 0, []⟩⟩ else ⟨true, 0, v / 16384 % 2, 0, ⟨none, 0, symL v⟩⟩
theorem vecN_succ (v : Int) (n : Nat) : vecN v (n + 1) = vecN v n ++ [if v / 16384 % 2 = 0 then v / 2 ^ (13 - n) % 2 else v / 2 ^ (12 - 2 * n) % 4] := by
 unfold vecN
 split <;> simp [List.range_succ]
theorem vecN_len (v : Int) (n : Nat) : (vecN v n).length = n := by
 unfold vecN
 split <;> simp
theorem symL_len {v : Int} : (symL v).length = if v < 32768 then (v % 8192).toNat else vecM v := by
 unfold symL
 split <;> simp [vecN_len]
theorem vecM_or (v : Int) : vecM v = 14 ∨ vecM v = 7 := by
 unfold vecM
 split <;> simp
def tl (c : Int) (y : List Int) : Nat → Int
 | 0 => c
 | k + 1 => tl c y k - (symL (tw y k)).length
def rcv (l : List Int) : List Int := l.filter fun x => x == 1 || x == 2
def rcvN (y : List Int) : Nat → List Int
 | 0 => []
 | k + 1 => rcvN y k ++ rcv (symL (tw y k))
theorem symL_le {v : Int} (h0 : 0 ≤ v) : (symL v).length ≤ 8191 := by
 rw [symL_len]
 split
 ·omega
 ·rcases vecM_or v with h | h <;> omega
theorem tw_lt {y : List Int} (h : Byts y) (k : Nat) : 0 ≤ tw y k ∧ tw y k < 65536 := rd16_lt h _
theorem tl_le {y : List Int} (h : Byts y) (c : Int) : ∀ k, tl c y k ≤ c ∧ c - 8192 * k ≤ tl c y k
 | 0 => by simp only [tl]; omega
 | k + 1 => by
  have h1 := tl_le h c k
  have h2 := symL_le (tw_lt h k).1
  simp only [tl]
  omega
theorem rcvN_le {y : List Int} (h : Byts y) : ∀ k, (rcvN y k).length ≤ 8192 * k
 | 0 => by simp [rcvN]
 | k + 1 => by
  have h1 := rcvN_le h k
  have h2 := symL_le (tw_lt h k).1
  have h3 : (rcv (symL (tw y k))).length ≤ (symL (tw y k)).length := List.length_filter_le _ _
  simp only [rcvN, List.length_append]
  omega
theorem rcv_take {l : List Int} {j : Nat} {x : Int} (h : l[j]? = some x) : rcv (l.take (j + 1)) = rcv (l.take j) ++ rcv [x] := by
 rw [List.take_add_one, h]
 simp [rcv]
theorem rcv_yes {x : Int} (h : x = 1 ∨ x = 2) : rcv [x] = [x] := by rcases h with rfl | rfl <;> rfl
theorem rcv_no {x : Int} (h1 : x ≠ 1) (h2 : x ≠ 2) : rcv [x] = [] := by simp [rcv, h1, h2]
def stasN (y : List Int) (n : Nat) : List Sta := (List.range n).map fun k => staC (tw y k)
theorem stasN_succ (y : List Int) (n : Nat) : stasN y (n + 1) = stasN y n ++ [staC (tw y n)] := by simp [stasN, List.range_succ]
theorem rcv_append (a b : List Int) : rcv (a ++ b) = rcv a ++ rcv b := by simp [rcv]
theorem rcv_mem {l : List Int} {x : Int} (h : x ∈ rcv l) : x = 1 ∨ x = 2 := by
 have := (List.mem_filter.1 h).2
 simpa using this
theorem rcvN_mem {y : List Int} : ∀ {n : Nat} {x : Int}, x ∈ rcvN y n → x = 1 ∨ x = 2
 | 0, _, h => by simp [rcvN] at h
 | n + 1, x, h => by
  rcases List.mem_append.1 h with h | h
  ·exact rcvN_mem h
  ·exact rcv_mem h
theorem rcv_le (l : List Int) : (rcv l).length ≤ l.length := List.length_filter_le _ _
structure WOk (left v : Int) : Prop where
 run : v < 32768 → v % 8192 ≠ 0 ∧ v % 8192 ≤ left
 sym : ∀ (j : Nat) (x : Int), (symL v)[j]? = some x → ((j : Int) < left → x ≠ 3) ∧ (left ≤ j → x = 0)
def sx16 (x : Int) : Int := if x < 32768 then x else x - 65536
def dltB (x : Int) (b : List Int) : Dlt := ⟨x, if x = 2 then sx16 (rd16 b 0) * 250 else gi b 0 * 250⟩
def dPos (rs : List Int) : Nat → Nat
 | 0 => 0
 | i + 1 => dPos rs i + (rs.getD i 0).toNat
def dltN (rs b : List Int) (n : Nat) : List Dlt := (List.range n).map fun i => dltB (rs.getD i 0) (b.drop (dPos rs i))
theorem dltN_succ (rs b : List Int) (n : Nat) : dltN rs b (n + 1) = dltN rs b n ++ [dltB (rs.getD n 0) (b.drop (dPos rs n))] := by simp [dltN, List.range_succ]
def TkOk (c : Int) (y : List Int) (k : Nat) : Prop := 2 * k + 2 ≤ y.length ∧ 0 < tl c y k ∧ WOk (tl c y k) (tw y k)
def SyOk (left : Int) (l : List Int) (j : Nat) : Prop := ∀ (i : Nat) (x : Int), i < j → l[i]? = some x → ((i : Int) < left → x ≠ 3) ∧ (left ≤ i → x = 0)
structure TOk (c : Int) (y : List Int) (n : Nat) : Prop where
 ok : ∀ k, k < n → TkOk c y k
 stop : tl c y n ≤ 0
 got : rcvN y n ≠ []
 dl : ∀ i, i < (rcvN y n).length → 2 * n + dPos (rcvN y n) (i + 1) ≤ y.length
end Go.Proofs.YtmmfpgoodfgkbaaGreatDoor
