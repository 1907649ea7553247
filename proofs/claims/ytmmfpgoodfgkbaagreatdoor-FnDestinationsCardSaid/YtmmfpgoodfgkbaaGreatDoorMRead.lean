/-
  READING NUMBERS from bytes, the highest first: the reference's words and the package's. Condition: the slice reads as a list of bytes that is long enough.
-/
import Derived.Test.YtmmfpgoodfgkbaaGreatDoorMPkt
import Derived.Laws.BitsLemmas
import Derived.Test.YtmmfpgoodfgkbaaGreatDoorMStep
import Derived.Test.YtmmfpgoodfgkbaaGreatDoorMSep
namespace Go.Proofs.YtmmfpgoodfgkbaaGreatDoor
open Go Go.RowKit
set_option maxHeartbeats 4000000
set_option maxRecDepth 100000
set_option linter.unusedVariables false

def gi (l : List Int) (i : Nat) : Int := l.getD i 0
def rd16 (l : List Int) (i : Nat) : Int := gi l i * 256 + gi l (i + 1)
def rd24 (l : List Int) (i : Nat) : Int := gi l i * 65536 + gi l (i + 1) * 256 + gi l (i + 2)
def rd32 (l : List Int) (i : Nat) : Int := gi l i * 16777216 + gi l (i + 1) * 65536 + gi l (i + 2) * 256 + gi l (i + 3)
theorem Byts.gi {l : List Int} (h : Byts l) (i : Nat) : 0 ≤ gi l i ∧ gi l i < 256 := by
 unfold Go.Proofs.YtmmfpgoodfgkbaaGreatDoor.gi
 rw [List.getD_eq_getElem?_getD]
 rcases hx : l[i]? with _ | x
 ·simp
 ·simpa using h x (List.mem_of_getElem? hx)
theorem gi_drop (l : List Int) (k i : Nat) : gi (l.drop k) i = gi l (k + i) := by simp [gi, List.getD_eq_getElem?_getD]
theorem Byts.drop {l : List Int} (h : Byts l) (k : Nat) : Byts (l.drop k) := fun x hx => h x (List.mem_of_mem_drop hx)
theorem Byts.take {l : List Int} (h : Byts l) (k : Nat) : Byts (l.take k) := fun x hx => h x (List.mem_of_mem_take hx)
theorem rd16_drop (l : List Int) (k i : Nat) : rd16 (l.drop k) i = rd16 l (k + i) := by simp [rd16, gi_drop, Nat.add_assoc]
theorem rd24_drop (l : List Int) (k i : Nat) : rd24 (l.drop k) i = rd24 l (k + i) := by simp [rd24, gi_drop, Nat.add_assoc]
theorem rd32_drop (l : List Int) (k i : Nat) : rd32 (l.drop k) i = rd32 l (k + i) := by simp [rd32, gi_drop, Nat.add_assoc]

theorem or16 {a b : Int} (ha : 0 ≤ a) (ha1 : a < 256) (hb : 0 ≤ b) (hb1 : b < 256) : bits .or .u16 (a * 256) b = a * 256 + b :=
 bits_join .u16 16 (by decide) (fun n h0 h1 => by simp [IntKind.wrap, IntKind.bits, IntKind.signed]; omega) 8 _ _ (by omega) (by omega) (by omega) hb (by omega) (by omega)
theorem wraps_u32 (n : Int) (h0 : 0 ≤ n) (h1 : n < 2 ^ 32) : IntKind.u32.wrap n = n := by rw [IntKind.wrap_u32]; omega
theorem or32 {x y : Int} (i : Nat) (hx0 : 0 ≤ x) (hx : x % 2 ^ i = 0) (hx1 : x < 4294967296) (hy0 : 0 ≤ y) (hy : y < 2 ^ i) (hy1 : y < 4294967296) : bits .or .u32 x y = x + y :=
 bits_join .u32 32 (by decide) wraps_u32 i x y hx0 hx (by omega) hy0 hy (by omega)
theorem bits_comm (k : IntKind) (x y : Int) : bits .or k x y = bits .or k y x := by simp [bits, BitVec.or_comm]

theorem Reads.byte {w : World} {B n : Nat} {ad : Addr} {zs : List Int} (h : Reads w B 1 (some ad) n (u8s zs)) {k : Nat} (hk : k < n) : w.cell? (ad.add k) = some (.int .u8 (gi zs k)) := by
 obtain ⟨a', u, e, _, hx, hc⟩ := h.at_ hk
 obtain rfl := Option.some.inj e
 have hl : k < zs.length := by have := h.1; rw [u8s_len] at this; omega
 rw [u8s_at hl] at hx
 rw [hc, ← hx]
 simp [gi, hl]
theorem Reads.byteS {w : World} {B n : Nat} {ad : Addr} {zs : List Int} (h : Reads w B 1 (some ad) n (u8s zs)) {k : Nat} (hk : k + 1 < n) : w.cell? ⟨ad.block, ad.off + (k + 1), none⟩ = some (.int .u8 (gi zs (k + 1))) := by
 have := h.byte hk
 unfold Addr.add at this
 rwa [if_neg (by omega)] at this

theorem reads_sub {w : World} {B n : Nat} {ad : Addr} {zs : List Int} (h : Reads w B 1 (some ad) n (u8s zs)) {k : Nat} (hk : k ≤ n) : Reads w B 1 (some (ad.add k)) (n - k) (u8s (zs.drop k)) := by
 refine ⟨by have := h.1; rw [u8s_len] at *; rw [List.length_drop]; omega, fun hn => ?_⟩
 obtain ⟨ad', e, hb, hc⟩ := h.2 (by omega)
 obtain rfl := Option.some.inj e
 refine ⟨_, rfl, by rw [block_of_add]; exact hb, fun j u hu => ?_⟩
 rw [add_of_add]
 exact hc (k + j) u (by rw [← hu]; simp [u8s])
theorem reads_subS {w : World} {B n : Nat} {ad : Addr} {zs : List Int} (h : Reads w B 1 (some ad) n (u8s zs)) (k : Nat) (hk : k + 1 ≤ n) : Reads w B 1 (some ⟨ad.block, ad.off + (k + 1), none⟩) (n - (k + 1)) (u8s (zs.drop (k + 1))) := by
 have := reads_sub h hk
 unfold Addr.add at this
 rwa [if_neg (by omega)] at this

theorem u16_any {w : World} {B n c : Nat} {ad : Addr} {zs : List Int} (h : Reads w B 1 (some ad) n (u8s zs)) (hz : Byts zs) (hn : 2 ≤ n) :
  Calls Tryz.prog 19 #[.slice (some ad) n c] w fun e w' => e = .returned (.int .u16 (rd16 zs 0)) ∧ ∃ m, w' = w.drewN m := by
 have c0 : w.cell? ad = some (.int .u8 (gi zs 0)) := h.byte (k := 0) (by omega)
 have c1 : w.cell? ⟨ad.block, ad.off + 1, none⟩ = some (.int .u8 (gi zs 1)) := h.byteS (k := 0) (by omega)
 have b0 := hz.gi 0
 have b1 := hz.gi 1
 have hl0 : (0 : Int) < (n : Int) := by omega
 have hl1 : (1 : Int) < (n : Int) := by omega
 go_enter Tryz.func19, Tryz.ntmps19
 go_wp2_with fail
 go_quiet (fail)
 go_wp2
 go_ret
 rw [or16 b0.1 b0.2 b1.1 b1.2]
 exact ⟨rfl, nq, rfl⟩

theorem rd16_lt {zs : List Int} (hz : Byts zs) (i : Nat) : 0 ≤ rd16 zs i ∧ rd16 zs i < 65536 := by
 have := hz.gi i
 have := hz.gi (i + 1)
 unfold rd16; omega
theorem rd24_lt {zs : List Int} (hz : Byts zs) (i : Nat) : 0 ≤ rd24 zs i ∧ rd24 zs i < 16777216 := by
 have := hz.gi i
 have := hz.gi (i + 1)
 have := hz.gi (i + 2)
 unfold rd24; omega
theorem rd32_lt {zs : List Int} (hz : Byts zs) (i : Nat) : 0 ≤ rd32 zs i ∧ rd32 zs i < 4294967296 := by
 have := hz.gi i
 have := hz.gi (i + 1)
 have := hz.gi (i + 2)
 have := hz.gi (i + 3)
 unfold rd32; omega
theorem rd32_two (zs : List Int) (i : Nat) : rd32 zs i = rd16 zs i * 65536 + rd16 zs (i + 2) := by unfold rd32 rd16; rw [show i + 2 + 1 = i + 3 from rfl]; omega

theorem u24_any {w : World} {B n c : Nat} {ad : Addr} {zs : List Int} (h : Reads w B 1 (some ad) n (u8s zs)) (hz : Byts zs) (hn : 3 ≤ n) :
  Calls Tryz.prog 73 #[.slice (some ad) n c] w fun e w' => e = .returned (.int .u32 (rd24 zs 0)) ∧ ∃ m, w' = w.drewN m := by
 have c0 : w.cell? ad = some (.int .u8 (gi zs 0)) := h.byte (k := 0) (by omega)
 have c1 : w.cell? ⟨ad.block, ad.off + 1, none⟩ = some (.int .u8 (gi zs 1)) := h.byteS (k := 0) (by omega)
 have c2 : w.cell? ⟨ad.block, ad.off + 2, none⟩ = some (.int .u8 (gi zs 2)) := h.byteS (k := 1) (by omega)
 have b0 := hz.gi 0
 have b1 := hz.gi 1
 have b2 := hz.gi 2
 have hl0 : (0 : Int) < (n : Int) := by omega
 have hl1 : (1 : Int) < (n : Int) := by omega
 have hl2 : (2 : Int) < (n : Int) := by omega
 go_enter Tryz.func73, Tryz.ntmps73
 go_wp2_with fail
 go_quiet (fail)
 go_wp2
 go_ret
 rw [or32 16 (x := gi zs 0 * 65536) (by omega) (by omega) (by omega) (by omega) (by omega) (by omega), or32 8 (by omega) (by omega) (by omega) (by omega) (by omega) (by omega)]
 exact ⟨rfl, nq, rfl⟩

theorem u32_any {w : World} {B n c : Nat} {ad : Addr} {zs : List Int} (h : Reads w B 1 (some ad) n (u8s zs)) (hz : Byts zs) (hn : 4 ≤ n) (hc : n ≤ c) :
  Calls Tryz.prog 37 #[.slice (some ad) n c] w fun e w' => e = .returned (.int .u32 (rd32 zs 0)) ∧ ∃ m, w' = w.drewN m := by
 have b0 := rd16_lt hz 0
 have b1 := rd16_lt hz 2
 have h2 := reads_subS h 1 (by omega)
 have hz2 := hz.drop 2
 have hl2 : (2 : Int) ≤ (n : Int) := by omega
 have hl3 : (n : Int) ≤ (c : Int) := by omega
 go_enter Tryz.func37, Tryz.ntmps37
 go_wp2_with fail
 go_quiet (first | (go_at_call_of 19 (Value.slice (some ad) n c); exact Calls.quiet_of (u16_any (h.drewN _) hz (by omega))) | (go_at_call 19; exact Calls.quiet_of (u16_any (h2.drewN _) hz2 (by omega))))
 go_wp2
 go_ret
 refine ⟨?_, nq, rfl⟩
 show Ending.returned (.int .u32 (bits .or .u32 (rd16 zs 0 * 65536) (rd16 (zs.drop 2) 0 % 4294967296))) = _
 rw [rd16_drop, show 2 + 0 = 2 from rfl, Int.emod_eq_of_lt (by omega) (by omega), or32 16 (by omega) (by omega) (by omega) (by omega) (by omega) (by omega), rd32_two]

theorem be32r_any {w : World} {B n c : Nat} {ad : Addr} {zs : List Int} (h : Reads w B 1 (some ad) n (u8s zs)) (hz : Byts zs) (hn : 4 ≤ n) :
  Calls Tryz.prog 110 #[.slice (some ad) n c] w fun e w' => e = .returned (.int .u32 (rd32 zs 0)) ∧ ∃ m, w' = w.drewN m := by
 have c0 : w.cell? ad = some (.int .u8 (gi zs 0)) := h.byte (k := 0) (by omega)
 have c1 : w.cell? ⟨ad.block, ad.off + 1, none⟩ = some (.int .u8 (gi zs 1)) := h.byteS (k := 0) (by omega)
 have c2 : w.cell? ⟨ad.block, ad.off + 2, none⟩ = some (.int .u8 (gi zs 2)) := h.byteS (k := 1) (by omega)
 have c3 : w.cell? ⟨ad.block, ad.off + 3, none⟩ = some (.int .u8 (gi zs 3)) := h.byteS (k := 2) (by omega)
 have b0 := hz.gi 0
 have b1 := hz.gi 1
 have b2 := hz.gi 2
 have b3 := hz.gi 3
 have hl0 : (0 : Int) < (n : Int) := by omega
 have hl1 : (1 : Int) < (n : Int) := by omega
 have hl2 : (2 : Int) < (n : Int) := by omega
 have hl3 : (3 : Int) < (n : Int) := by omega
 go_enter Tryz.func110, Tryz.ntmps110
 go_wp2_with fail
 go_quiet (fail)
 go_wp2
 go_ret
 refine ⟨?_, nq, rfl⟩
 show Ending.returned (.int .u32 (bits .or .u32 (bits .or .u32 (bits .or .u32 (gi zs 3) (gi zs 2 * 256)) (gi zs 1 * 65536)) (gi zs 0 * 16777216))) = _
 rw [bits_comm .u32 (gi zs 3) (gi zs 2 * 256), or32 8 (x := gi zs 2 * 256) (y := gi zs 3) (by omega) (by omega) (by omega) (by omega) (by omega) (by omega), bits_comm .u32 _ (gi zs 1 * 65536), or32 16 (x := gi zs 1 * 65536) (y := gi zs 2 * 256 + gi zs 3) (by omega) (by omega) (by omega) (by omega) (by omega) (by omega), bits_comm .u32 _ (gi zs 0 * 16777216), or32 24 (by omega) (by omega) (by omega) (by omega) (by omega) (by omega)]
 congr 2
 show _ = gi zs 0 * 16777216 + gi zs 1 * 65536 + gi zs 2 * 256 + gi zs 3
 omega
end Go.Proofs.YtmmfpgoodfgkbaaGreatDoor
namespace Go.Proofs.YtmmfpgoodfgkbaaGreatDoor
open Go Go.RowKit
set_option linter.unusedVariables false

section
variable {P : Program} {olds : Nat → Prop} {w0 : World}
theorem rdb_kept {M : Nat → Option Ck} {w : World} {D : Nat → Prop} {A : Option Addr} {l : List Int} (hS : Stp olds w0 w M) (h : RdB olds w0 D A l) : Reads w w.heap.size 1 A l.length (u8s l) :=
 ⟨by rw [u8s_len]; simp, fun hn => by
  obtain ⟨ad, e, h1, h2⟩ := h.1 hn
  have h3 := h.2 _ h1
  exact ⟨ad, e, Nat.lt_of_lt_of_le h3.1 hS.size, fun j u hu => (World.cell?_of_block (by rw [block_of_add]; exact hS.kept _ h3.1 h3.2)).trans (h2 j u hu)⟩⟩
theorem Reads.rowD {w : World} {B n : Nat} {A : Option Addr} {l : List Int} (h : Reads w B 1 A n (u8s l)) : RowD w (fun x => x < B) A l := fun hn => by
 have := h.1
 rw [u8s_len] at this
 obtain ⟨ad, e, h1, h2⟩ := h.2 (by omega)
 exact ⟨ad, e, h1, h2⟩
theorem RowD.reads {w : World} {B : Nat} {A : Option Addr} {l : List Int} (h : RowD w (fun x => x < B) A l) : Reads w B 1 A l.length (u8s l) := ⟨by rw [u8s_len]; simp, h⟩
theorem slice_run {o : Oper} {t : TypeId} {bl bh : Bool} (hop : slOps o.op = some (t, bl, bh)) {a : Act} {b off n c : Nat} {r : List Value} {w : World} (hv : o.op.operands.toList.map a.eval = .slice (some ⟨b, off, none⟩) n c :: r) (h1 : 0 < ixS P t)
  (h3 : ∀ x ∈ slIdx bl bh (.slice (some ⟨b, off, none⟩) n c :: r), x.1 = x.2) (hp1 : slL bl (.slice (some ⟨b, off, none⟩) n c :: r) ≤ slH n bl bh (.slice (some ⟨b, off, none⟩) n c :: r)) (hp2 : slH n bl bh (.slice (some ⟨b, off, none⟩) n c :: r) ≤ c) :
  (execOp a.eval o).run P w = .ok (.value (sliced (some ⟨b, off, none⟩) (slL bl (.slice (some ⟨b, off, none⟩) n c :: r)) (slH n bl bh (.slice (some ⟨b, off, none⟩) n c :: r)) c (ixS P t))) w := by
 obtain ⟨hu, he⟩ := elT_spec h1
 have hsz := szT_run (P := P) (e := elT P t) (by omega)
 have hel : P.underlying t = some (.slice (P.elem t)) := by
  have : P.elem t = elT P t := by simp [Program.elem, hu]
  rw [this]; exact hu
 have hsz' : (sizeOf (P.elem t)).run P w = .ok (ixS P t) w := by
  have : P.elem t = elT P t := by simp [Program.elem, hu]
  rw [this, he]; exact hsz w
 have key : ∀ (x : Operand) (lo hi : Option Operand) (v : Value), o.op = .slice t x lo hi none → a.eval x = .slice (some ⟨b, off, none⟩) n c →
   (Instr.slice t (.slice (some ⟨b, off, none⟩) n c) (lo.map a.eval) (hi.map a.eval) none).run P w = .ok v w → (execOp a.eval o).run P w = .ok (.value v) w := fun x lo hi v ho hx hr => by
  simp only [execOp, ho, hx, Sem.run_bind, run_sliceAt_slice _ _ _ _ _ _ hel, Option.map_none, hr, Result.andThen_ok, Sem.run_pure]
 unfold slOps at hop
 split at hop
 ·rename_i t' x lo heq
  simp only [Option.some.injEq, Prod.mk.injEq] at hop
  obtain ⟨rfl, rfl, rfl⟩ := hop
  have hxv := hv
  simp [heq, Op.operands] at hxv
  obtain ⟨hx, hr⟩ := hxv
  subst hr
  have h4 := h3 _ (List.mem_singleton.2 rfl)
  injection h4 with h4
  refine key x (some lo) none _ heq hx ?_
  simp only [slL, slH] at hp1 hp2 ⊢
  rw [Option.map_some, Option.map_none, h4, run_slice_l _ _ _ _ _ hel _ _ (by omega) (by omega), hsz', Result.andThen_ok, Int.toNat_natCast]
  rfl
 ·rename_i t' x hi heq
  simp only [Option.some.injEq, Prod.mk.injEq] at hop
  obtain ⟨rfl, rfl, rfl⟩ := hop
  have hxv := hv
  simp [heq, Op.operands] at hxv
  obtain ⟨hx, hr⟩ := hxv
  subst hr
  have h4 := h3 _ (List.mem_singleton.2 rfl)
  injection h4 with h4
  refine key x none (some hi) _ heq hx ?_
  simp only [slL, slH] at hp1 hp2 ⊢
  rw [Option.map_some, Option.map_none, h4, run_slice_h _ _ _ _ _ hel _ _ (by omega) (by omega), hsz', Result.andThen_ok, Int.toNat_natCast]
  rfl
 ·rename_i t' x lo hi heq
  simp only [Option.some.injEq, Prod.mk.injEq] at hop
  obtain ⟨rfl, rfl, rfl⟩ := hop
  have hxv := hv
  simp [heq, Op.operands] at hxv
  obtain ⟨hx, hr⟩ := hxv
  subst hr
  have h4 := h3 _ (List.mem_cons_self ..)
  have h5 := h3 _ (List.mem_cons_of_mem _ (List.mem_singleton.2 rfl))
  injection h4 with h4
  injection h5 with h5
  refine key x (some lo) (some hi) _ heq hx ?_
  simp only [slL, slH] at hp1 hp2 ⊢
  rw [Option.map_some, Option.map_some, h4, h5, run_slice_lh _ _ _ _ _ hel _ _ _ _ (by omega) (by omega) (by omega), hsz', Result.andThen_ok, Int.toNat_natCast, Int.toNat_natCast]
  rfl
 ·rename_i t' x heq
  simp only [Option.some.injEq, Prod.mk.injEq] at hop
  obtain ⟨rfl, rfl, rfl⟩ := hop
  have hxv := hv
  simp [heq, Op.operands] at hxv
  obtain ⟨hx, hr⟩ := hxv
  subst hr
  refine key x none none _ heq hx ?_
  simp only [slL, slH] at hp1 hp2 ⊢
  rw [Option.map_none, run_slice_all _ _ _ _ _ hel, hsz', Result.andThen_ok]
 ·cases hop
def rsP : Bool → Bool → Nat → Nat → List Int → List Int
 | true, true, lo, h, l => (l.take h).drop lo
 | true, false, lo, _, l => l.drop lo
 | false, true, _, h, l => l.take h
 | false, false, _, _, l => l
theorem rsP_len {bl bh : Bool} {lo h : Nat} {l : List Int} (hl : bl = false → lo = 0) (hh : bh = false → h = l.length) (h2 : h ≤ l.length) : (rsP bl bh lo h l).length = h - lo := by
 cases bl <;> cases bh <;> simp_all [rsP]
theorem rsP_at {bl bh : Bool} {lo h : Nat} {l : List Int} (hl : bl = false → lo = 0) {j : Nat} {u : Value} (hu : (u8s (rsP bl bh lo h l))[j]? = some u) : (u8s l)[lo + j]? = some u := by
 have key : ∀ (m : List Int), (u8s m)[j]? = some u → ∃ x, m[j]? = some x ∧ u = .int .u8 x := fun m h => by
  simp only [u8s, List.getElem?_map, Option.map_eq_some_iff] at h
  obtain ⟨x, h1, h2⟩ := h
  exact ⟨x, h1, h2.symm⟩
 obtain ⟨x, h1, rfl⟩ := key _ hu
 have : l[lo + j]? = some x := by
  cases bl <;> cases bh <;> simp only [rsP, List.getElem?_drop, List.getElem?_take] at h1
  ·rw [hl rfl, Nat.zero_add]; exact h1
  ·rw [hl rfl, Nat.zero_add]; split at h1 <;> first | exact h1 | cases h1
  ·exact h1
  ·split at h1 <;> first | exact h1 | cases h1
 simp [u8s, this]
theorem Byts.rsP {bl bh : Bool} {lo h : Nat} {l : List Int} (hz : Byts l) : Byts (rsP bl bh lo h l) := by
 cases bl <;> cases bh
 ·exact hz
 ·exact hz.take _
 ·exact hz.drop _
 ·exact (hz.take _).drop _
theorem slL_f {l : List Value} : slL false l = 0 := by cases l <;> rfl
def rsL (ps : List (Option Pc)) (bl bh : Bool) (lo h : Nat) : List Int := match ps with
 | some (.ry D A l) :: _ => rsP bl bh lo h l
 | _ => []
def rsl (j j' : Nat) : Step P olds w0 where
 rd := [j]
 wr := [j']
 skip := false
 must := true
 V i p := match slOps i.o.op, i.vals with
  | some (t, bl, bh), .slice (some a) n c :: r => .slice (some ⟨p.g, p.c, none⟩) (rsL i.ps bl bh (slL bl i.vals) (slH n bl bh i.vals)).length (c - slL bl i.vals)
  | _, _ => undef
 W i p := match slOps i.o.op, i.vals, i.ps with
  | some (t, bl, bh), .slice (some a) n c :: r, some (.ry D A l) :: _ => [some (.ry D (some ⟨p.g, p.c, none⟩) (rsP bl bh (slL bl i.vals) (slH n bl bh i.vals) l))]
  | _, _, _ => []
 chk i := match slOps i.o.op, i.vals, i.ps with
  | some (t, bl, bh), .slice (some a) n c :: r, some (.ry D A l) :: _ => (.v (.slice (some a) n c), .v (.slice A l.length c)) :: (.n (ixS P t), .n 1) :: (.o a.spot, .o none) :: (bif bh then slIdx bl bh i.vals else (.n (slH n bl bh i.vals), .n n) :: slIdx bl bh i.vals)
  | _, _, _ => no
 pre i := match slOps i.o.op, i.vals with
  | some (t, bl, bh), .slice (some a) n c :: r => slL bl i.vals ≤ slH n bl bh i.vals ∧ slH n bl bh i.vals ≤ n ∧ n ≤ c
  | _, _ => True
 ok _ i L a w K Q hc hp hs hv hL hS hK := by
  obtain ⟨o, sem, vals, ps⟩ := i
  revert hc hK hs hv hL hp
  simp only
  split
  ·rename_i t bl bh ad n c r D A l q hop
   intro hc hp hs hv hL hK
   have h1 := hc _ (List.mem_cons_self ..)
   have h2 := hc _ (List.mem_cons_of_mem _ (List.mem_cons_self ..))
   have h3 := hc _ (List.mem_cons_of_mem _ (List.mem_cons_of_mem _ (List.mem_cons_self ..)))
   have h4 := fun x hx => hc x (List.mem_cons_of_mem _ (List.mem_cons_of_mem _ (List.mem_cons_of_mem _ hx)))
   injection h1 with h1
   injection h2 with h2
   injection h3 with h3
   injection h1 with hA hn
   subst hA
   have h5 : ∀ x ∈ slIdx bl bh (.slice (some ad) n c :: r), x.1 = x.2 := fun x hx => h4 x (by cases bh; exact List.mem_cons_of_mem _ hx; exact hx)
   have h6 : bh = false → slH n bl bh (.slice (some ad) n c :: r) = n := fun e => by
    subst e
    have := h4 _ (List.mem_cons_self ..)
    injection this
   obtain ⟨b, off, spot⟩ := ad
   have h3 : spot = none := h3
   subst h3
   have hp0 := hp trivial
   simp only [hop] at hp0 hK
   clear hp
   obtain ⟨hp1, hp2, hp3⟩ := hp0
   have hrun := slice_run (P := P) (w := w) hop hv (by omega) h5 hp1 (by omega)
   rw [h2] at hrun
   have hlo : bl = false → slL bl (.slice (some ⟨b, off, none⟩) n c :: r) = 0 := fun e => by rw [e]; exact slL_f
   generalize hL1 : slL bl (.slice (some ⟨b, off, none⟩) n c :: r) = lo at *
   generalize hH1 : slH n bl bh (.slice (some ⟨b, off, none⟩) n c :: r) = h at *
   have hl0 : lookP L j = some (.ry D (some ⟨b, off, none⟩) l) := by
    simp only [List.cons_append, List.nil_append, List.map_cons, List.map_nil, List.cons.injEq] at hL
    exact hL.1.symm
   have hpc : RdB olds w0 D (some ⟨b, off, none⟩) l ∧ Byts l := hS.pure_ j (by simp [restr, hasN, lookM_den, hl0, Pc.den])
   obtain ⟨⟨hr, hB⟩, hz⟩ := hpc
   have hlen := rsP_len (l := l) hlo (fun e => (h6 e).trans hn) (by omega)
   have hst : ∀ g' o', (h - lo > 0 → g' = b ∧ o' = off + lo) → Stp (blksOf (lookM (den olds w0 L)) [j']) w w (lookM (den olds w0 (zipW [j'] [some (.ry D (some ⟨g', o', none⟩) (rsP bl bh lo h l))]))) := fun g' o' he => by
    refine stp_one j' (ckP (RdB olds w0 D (some ⟨g', o', none⟩) (rsP bl bh lo h l) ∧ Byts (rsP bl bh lo h l))) (.inl (World.grownBy.refl w _)) ⟨⟨fun hpos => ?_, hB⟩, hz.rsP⟩ fun g hg => hg.elim
    rw [hlen] at hpos
    obtain ⟨rfl, rfl⟩ := he hpos
    obtain ⟨ad', e, hb', hc'⟩ := hr (by omega)
    obtain rfl := Option.some.inj e
    refine ⟨_, rfl, hb', fun k u hu => ?_⟩
    have := hc' (lo + k) u (rsP_at hlo hu)
    rw [Addr.add_lit] at this ⊢
    rwa [show off + (lo + k) = off + lo + k by omega] at this
   unfold sliced at hrun
   split at hrun
   ·refine exec_wp hrun ?_
    have := hK ⟨b, off, undef, none⟩ w (hst _ _ (fun h => by omega))
    simp only [rsL, hlen] at this
    exact this
   ·refine exec_wp hrun ?_
    have := hK ⟨b, off + lo, undef, none⟩ w (hst _ _ (fun h => ⟨rfl, rfl⟩))
    simp only [rsL, hlen] at this
    rw [Option.map_some, Addr.add_lit, Nat.mul_one]
    exact this
  ·intro hc; exact no_false hc
def rb (j k : Nat) : Step P olds w0 where
 rd := [j]
 wr := []
 skip := false
 must := true
 V i _ := match i.ps with
  | [some (.ry _ _ l)] => .int .u8 (gi l k)
  | _ => undef
 W _ _ := []
 chk i := match i.o.op, i.vals, i.ps with
  | .load t _, [x], [some (.ry D A l)] => [(.v x, .v (elA A (k * 1))), (.b (!rowT P t && (P.underlying t).isSome), .b true)]
  | _, _, _ => no
 pre i := match i.ps with
  | [some (.ry _ _ l)] => k < l.length
  | _ => True
 ok _ i L a w K Q hc hp hs hv hL hS hK := by
  obtain ⟨o, sem, vals, ps⟩ := i
  revert hc hK hs hv hL hp
  simp only
  split
  ·rename_i t y x D A l ho
   intro hc hp hs hv hL hK
   have h1 := hc _ (List.mem_cons_self ..)
   have h2 := hc _ (List.mem_cons_of_mem _ (List.mem_singleton.2 rfl))
   injection h1 with h1
   injection h2 with h2
   have hx : a.eval y = x := by simpa [ho, Op.operands] using hv
   have hp := hp trivial
   have hpc : RdB olds w0 D A l ∧ Byts l := hS.pure_ j (one_pc (olds := olds) (w0 := w0) hL).2
   have hr := rdb_kept hS hpc.1
   obtain ⟨b, off, rfl, _⟩ := Reads.addr hr (by omega) (by omega)
   simp only [Bool.and_eq_true, Bool.not_eq_true'] at h2
   have hcell := hr.byte (k := k) hp
   have := ld_run (P := P) (t := t) (b := b) (o := off + k) (cs := [.int .u8 (gi l k)]) (j := 0) (w := w) (by unfold ldB; rw [h2.1]; simp [h2.2]) fun i v hi => by
    cases i with
    | zero =>
     simp at hi
     rw [← hi, ← hcell, Addr.add_lit]
     rfl
    | succ i => simp at hi
   have h1 : x = .pointer (some ⟨b, off + k * 1, none⟩) := h1
   rw [Nat.mul_one] at h1
   rw [← h1] at this
   refine exec_wp (w' := w) ?_ (hK pay0 w (stp_none w))
   simp only [execOp, ho, hx, Sem.run_bind, this, Result.andThen_ok, Sem.run_pure, ldV, h2.1, cond_false]
   rfl
  ·intro hc; exact no_false hc
def ctRd (f : FuncId) (k : IntKind) (need : Nat) (val : List Int → Int) (h : ∀ {w : World} {B n c : Nat} {ad : Addr} {zs : List Int}, Reads w B 1 (some ad) n (u8s zs) → Byts zs → need ≤ n → n ≤ c → 0 < n → Calls P f #[.slice (some ad) n c] w fun e w' => e = .returned (.int k (val zs)) ∧ ∃ m, w' = w.drewN m) : Ct P where
 f := f
 must := true
 nr := 1
 nw := 0
 V _ ps _ := match ps with
  | [some (.ry _ _ l)] => .int k (val l)
  | _ => undef
 W _ _ _ := []
 chk args ps := match args.toList, ps with
  | [.slice A n c], [some (.ry D A' l)] => [(.v (.slice A n c), .v (.slice A' l.length c))]
  | _, _ => no
 pre _ args ps := match args.toList, ps with
  | [.slice A n c], [some (.ry D A' l)] => need ≤ l.length ∧ l.length ≤ c ∧ 0 < l.length
  | _, _ => True
 ok olds w0 rd wr args ps L w hrd hwr hc hp hL hS := by
  obtain ⟨j, rfl⟩ := len1 hrd
  obtain rfl := len0 hwr
  revert hc hp hL
  simp only
  split
  ·rename_i A n c D A' l heq
   intro hc hp hL
   have h1 := hc _ (List.mem_singleton.2 rfl)
   injection h1 with h1
   injection h1 with h1 h2
   subst h1 h2
   obtain ⟨hp1, hp2, hp3⟩ := hp trivial
   have hpc : RdB olds w0 D A l ∧ Byts l := hS.pure_ j (one_pc (olds := olds) (w0 := w0) hL).2
   have hr := rdb_kept hS hpc.1
   obtain ⟨b, off, rfl, _⟩ := Reads.addr hr hp3 (by omega)
   have ha : args = #[.slice (some ⟨b, off, none⟩) l.length c] := by
    apply Array.ext'
    rw [heq]
   rw [ha]
   refine (h hr hpc.2 hp1 hp2 hp3).mono ?_
   rintro e w' ⟨rfl, m, rfl⟩
   exact ⟨pay0, rfl, (stp_none w).drewN m⟩
  ·intro hc; exact no_false hc
end
def rt {olds : Nat → Prop} {w0 : World} (j : Nat) : Step Tryz.prog olds w0 where
 rd := [j]
 wr := []
 skip := false
 must := false
 V i _ := match i.ps with
  | [some (.ry _ _ l)] => .string (strB l)
  | _ => undef
 W _ _ := []
 chk i := match i.o.op, i.vals, i.ps with
  | .convert t t' _, [.slice A n c], [some (.ry D A' l)] => [(.n t, .n 25), (.n t', .n 9), (.v (.slice A n c), .v (.slice A' l.length c))]
  | _, _, _ => no
 pre _ := True
 ok _ i L a w K Q hc hp hs hv hL hS hK := by
  obtain ⟨o, sem, vals, ps⟩ := i
  revert hc hK hs hv hL
  simp only
  split
  ·rename_i t t' y A n c D A' l ho
   intro hc hs hv hL hK
   have h1 := hc _ (List.mem_cons_self ..)
   have h2 := hc _ (List.mem_cons_of_mem _ (List.mem_cons_self ..))
   have h3 := hc _ (List.mem_cons_of_mem _ (List.mem_cons_of_mem _ (List.mem_singleton.2 rfl)))
   injection h1 with h1
   injection h2 with h2
   injection h3 with h3
   injection h3 with h3 h4
   subst h1 h2 h3 h4
   have hx : a.eval y = .slice A l.length c := by simpa [ho, Op.operands] using hv
   have hpc : RdB olds w0 D A l ∧ Byts l := hS.pure_ j (one_pc (olds := olds) (w0 := w0) hL).2
   have hrun := conv_str (c := c) (rdb_kept hS hpc.1)
   refine exec_wp (w' := w) ?_ (hK pay0 w (stp_none w))
   simp only [execOp, ho, hx, Sem.run_bind, hrun, Result.andThen_ok, Sem.run_pure]
  ·intro hc; exact no_false hc
theorem stp_ry {olds : Nat → Prop} {w0 w : World} {L : PL} (h : Stp olds w0 w (lookM (den olds w0 L))) (k : Nat) {A : Option Addr} {l : List Int} {B n : Nat} (hr : Reads w0 B 1 A n (u8s l)) (hB : ∀ g, g < B → g < w0.heap.size ∧ ¬ olds g) (hz : Byts l) : Stp olds w0 w (lookM (den olds w0 ((k, some (.ry (fun x => x < B) A l)) :: L))) := by
 have hn : n = l.length := by have := hr.1; rw [u8s_len] at this; omega
 subst hn
 exact h.then_ (NL := [(k, some (ckP (RdB olds w0 (fun x => x < B) A l ∧ Byts l)))]) (stp_one k _ (.inl (World.grownBy.refl w _)) ⟨⟨hr.rowD, hB⟩, hz⟩ fun g hg => hg.elim)
theorem stp_ry1 {olds : Nat → Prop} {w0 w : World} {L : PL} (h : Stp olds w0 w (lookM (den olds w0 L))) (k : Nat) {D : Nat → Prop} {A : Option Addr} {l : List Int} (hr : RowD w0 D A l) (hB : ∀ g, D g → g < w0.heap.size ∧ ¬ olds g) (hz : Byts l) : Stp olds w0 w (lookM (den olds w0 ((k, some (.ry D A l)) :: L))) :=
 h.then_ (NL := [(k, some (ckP (RdB olds w0 D A l ∧ Byts l)))]) (stp_one k _ (.inl (World.grownBy.refl w _)) ⟨⟨hr, hB⟩, hz⟩ fun g hg => hg.elim)
end Go.Proofs.YtmmfpgoodfgkbaaGreatDoor
namespace Go.Proofs.YtmmfpgoodfgkbaaGreatDoor
open Go Go.RowKit
set_option maxHeartbeats 4000000
set_option maxRecDepth 100000
set_option linter.unusedVariables false

def rd64 (l : List Int) (i : Nat) : Int := rd32 l i * 4294967296 + rd32 l (i + 4)
theorem or64 {x y : Int} (i : Nat) (hx0 : 0 ≤ x) (hx : x % 2 ^ i = 0) (hx1 : x < 18446744073709551616) (hy0 : 0 ≤ y) (hy : y < 2 ^ i) (hy1 : y < 18446744073709551616) : bits .or .u64 x y = x + y :=
 bits_join .u64 64 (by decide) (fun n h0 h1 => by simp [IntKind.wrap, IntKind.bits, IntKind.signed]; omega) i x y hx0 hx (by omega) hy0 hy (by omega)
theorem u64_any {w : World} {B n c : Nat} {ad : Addr} {zs : List Int} (h : Reads w B 1 (some ad) n (u8s zs)) (hz : Byts zs) (hn : 8 ≤ n) (hc : n ≤ c) :
  Calls Tryz.prog 38 #[.slice (some ad) n c] w fun e w' => e = .returned (.int .u64 (rd64 zs 0)) ∧ ∃ m, w' = w.drewN m := by
 have b0 := rd32_lt hz 0
 have b1 := rd32_lt hz 4
 have h2 := reads_subS h 3 (by omega)
 have hz2 := hz.drop 4
 have hl2 : (4 : Int) ≤ (n : Int) := by omega
 have hl3 : (n : Int) ≤ (c : Int) := by omega
 go_enter Tryz.func38, Tryz.ntmps38
 go_wp2_with fail
 go_quiet (first | (go_at_call_of 37 (Value.slice (some ad) n c); exact Calls.quiet_of (u32_any (h.drewN _) hz (by omega) (by omega))) | (go_at_call 37; exact Calls.quiet_of (u32_any (h2.drewN _) hz2 (by omega) (by omega))))
 go_wp2
 go_ret
 refine ⟨?_, nq, rfl⟩
 show Ending.returned (.int .u64 (bits .or .u64 (rd32 zs 0 * 4294967296) (rd32 (zs.drop 4) 0 % 18446744073709551616))) = _
 rw [rd32_drop, show 4 + 0 = 4 from rfl, Int.emod_eq_of_lt (by omega) (by omega), or64 32 (by omega) (by omega) (by omega) (by omega) (by omega) (by omega)]
 rfl
theorem be16r_any {w : World} {B n c : Nat} {ad : Addr} {zs : List Int} (h : Reads w B 1 (some ad) n (u8s zs)) (hz : Byts zs) (hn : 2 ≤ n) :
  Calls Tryz.prog 103 #[.slice (some ad) n c] w fun e w' => e = .returned (.int .u16 (rd16 zs 0)) ∧ ∃ m, w' = w.drewN m := by
 have c0 : w.cell? ad = some (.int .u8 (gi zs 0)) := h.byte (k := 0) (by omega)
 have c1 : w.cell? ⟨ad.block, ad.off + 1, none⟩ = some (.int .u8 (gi zs 1)) := h.byteS (k := 0) (by omega)
 have b0 := hz.gi 0
 have b1 := hz.gi 1
 have hl0 : (0 : Int) < (n : Int) := by omega
 have hl1 : (1 : Int) < (n : Int) := by omega
 go_enter Tryz.func103, Tryz.ntmps103
 go_wp2_with fail
 go_quiet (fail)
 go_wp2
 go_ret
 refine ⟨?_, nq, rfl⟩
 show Ending.returned (.int .u16 (bits .or .u16 (gi zs 1) (gi zs 0 * 256))) = _
 rw [bits_comm .u16 _ (gi zs 0 * 256), or16 b0.1 b0.2 b1.1 b1.2]
 rfl
theorem be64r_any {w : World} {B n c : Nat} {ad : Addr} {zs : List Int} (h : Reads w B 1 (some ad) n (u8s zs)) (hz : Byts zs) (hn : 8 ≤ n) (hc : n ≤ c) :
  Calls Tryz.prog 133 #[.slice (some ad) n c] w fun e w' => e = .returned (.int .u64 (rd64 zs 0)) ∧ ∃ m, w' = w.drewN m := by
 have c7 : w.cell? ⟨ad.block, ad.off + 7, none⟩ = some (.int .u8 (gi zs 7)) := h.byteS (k := 6) (by omega)
 have b0 := rd32_lt hz 0
 have b1 := rd32_lt hz 4
 have h2 := reads_subS h 3 (by omega)
 have hz2 := hz.drop 4
 have hl2 : (4 : Int) ≤ (n : Int) := by omega
 have hl7 : (7 : Int) < (n : Int) := by omega
 have hl3 : (n : Int) ≤ (c : Int) := by omega
 go_enter Tryz.func133, Tryz.ntmps133
 go_wp2_with fail
 go_quiet (first | (go_at_call_of 110 (Value.slice (some ad) n c); exact Calls.quiet_of (be32r_any (h.drewN _) hz (by omega))) | (go_at_call 110; exact Calls.quiet_of (be32r_any (h2.drewN _) hz2 (by omega))))
 go_wp2
 go_ret
 refine ⟨?_, nq, rfl⟩
 show Ending.returned (.int .u64 (bits .or .u64 (rd32 zs 0 * 4294967296) (rd32 (zs.drop 4) 0 % 18446744073709551616))) = _
 rw [rd32_drop, show 4 + 0 = 4 from rfl, Int.emod_eq_of_lt (by omega) (by omega), or64 32 (by omega) (by omega) (by omega) (by omega) (by omega) (by omega)]
 rfl
theorem get24_any {w : World} {B n c : Nat} {ad : Addr} {zs : List Int} (h : Reads w B 1 (some ad) n (u8s zs)) (hz : Byts zs) (hn : 3 ≤ n) :
  Calls Tryz.prog 184 #[.slice (some ad) n c] w fun e w' => e = .returned (.int .u32 (rd24 zs 0)) ∧ ∃ m, w' = w.drewN m := by
 have c0 : w.cell? ad = some (.int .u8 (gi zs 0)) := h.byte (k := 0) (by omega)
 have c1 : w.cell? ⟨ad.block, ad.off + 1, none⟩ = some (.int .u8 (gi zs 1)) := h.byteS (k := 0) (by omega)
 have c2 : w.cell? ⟨ad.block, ad.off + 2, none⟩ = some (.int .u8 (gi zs 2)) := h.byteS (k := 1) (by omega)
 have b0 := hz.gi 0
 have b1 := hz.gi 1
 have b2 := hz.gi 2
 have hl0 : (0 : Int) < (n : Int) := by omega
 have hl1 : (1 : Int) < (n : Int) := by omega
 have hl2 : (2 : Int) < (n : Int) := by omega
 go_enter Tryz.func184, Tryz.ntmps184
 go_wp2_with fail
 go_quiet (fail)
 go_wp2
 go_ret
 exact ⟨rfl, nq, rfl⟩
def cU16 : Ct Tryz.prog := ctRd 19 .u16 2 (fun l => rd16 l 0) fun h hz hn _ _ => u16_any h hz hn
def cU24 : Ct Tryz.prog := ctRd 73 .u32 3 (fun l => rd24 l 0) fun h hz hn _ _ => u24_any h hz hn
def cU32 : Ct Tryz.prog := ctRd 37 .u32 4 (fun l => rd32 l 0) fun h hz hn hc _ => u32_any h hz hn hc
def cU64 : Ct Tryz.prog := ctRd 38 .u64 8 (fun l => rd64 l 0) fun h hz hn hc _ => u64_any h hz hn hc
def cB16 : Ct Tryz.prog := ctRd 103 .u16 2 (fun l => rd16 l 0) fun h hz hn _ _ => be16r_any h hz hn
def cB32 : Ct Tryz.prog := ctRd 110 .u32 4 (fun l => rd32 l 0) fun h hz hn _ _ => be32r_any h hz hn
def cB64 : Ct Tryz.prog := ctRd 133 .u64 8 (fun l => rd64 l 0) fun h hz hn hc _ => be64r_any h hz hn hc
def cG24 : Ct Tryz.prog := ctRd 184 .u32 3 (fun l => rd24 l 0) fun h hz hn _ _ => get24_any h hz hn
end Go.Proofs.YtmmfpgoodfgkbaaGreatDoor
