/-
  CONTRACTS of the reference's writing: numbers and noughts behind bytes. Condition: fewer than 2^46 bytes.
-/
import Derived.Test.YtmmfpgoodfgkbaaGreatMStep
import Derived.Test.YtmmfpgoodfgkbaaGreatHead
namespace Go.Proofs.YtmmfpgoodfgkbaaGreat
open Go Go.RowKit
set_option linter.unusedVariables false

def OwnB (w : World) (B : Nat) (v : Value) (l : List Int) : Prop := w.ownsRow B 5 1 v l.length (u8s l)
theorem OwnB.of {w : World} {B n : Nat} {v : Value} {l : List Int} (h : w.ownsRow B 5 1 v n (u8s l)) (hn : n = l.length) : OwnB w B v l := by subst hn; exact h
/-- Bytes that a call has grown. -/
def Grow (w : World) (B : Nat) (b : Value) (l : List Int) (e : Ending) (w' : World) : Prop := ∃ v, e = .returned v ∧ OwnB w' B v l ∧ w.grownBy w' b.ownBlock ∧ ∀ g, v.ownBlock = some g → b.ownBlock = some g ∨ w.heap.size ≤ g
theorem Grow.of {w w' : World} {B n : Nat} {b : Value} {l : List Int} {e : Ending} (hn : n = l.length) (h : Grew w B b n l e w') : Grow w B b l e w' := by
  obtain ⟨g, cap, he, ho, hg, hor⟩ := h
  refine ⟨_, he, OwnB.of ho hn, hg, fun k hk => ?_⟩
  have : g = k := by simpa [Value.ownBlock] using hk
  subst this
  exact hor
/-- A growing of bytes by a number as a contract. -/
def ctGrow (f : FuncId) (B : Int → List Int) (kd : IntKind) (lo hi : Int)
    (h : ∀ (base : Nat) (b : Value) (l : List Int) (x : Int) (w : World), OwnB w base b l → base ≤ w.heap.size → l.length ≤ 70368744177000 → lo ≤ x → x < hi → Calls Tryz.prog f #[b, .int kd x] w (Grow w base b (l ++ B x))) : Ct Tryz.prog where
  f := f
  must := true
  nr := 0
  nw := 1
  V args ps p := match args.toList, ps with
    | [_, x], [some (.bytes base v l)] => .slice p.a (l ++ B (intOf x)).length p.c
    | _, _ => undef
  W args ps p := match args.toList, ps with
    | [_, x], [some (.bytes base v l)] => [some (.bytes base (.slice p.a (l ++ B (intOf x)).length p.c) (l ++ B (intOf x)))]
    | _, _ => []
  chk args ps := match args.toList, ps with
    | [b, x], [some (.bytes base v l)] => [(.v b, .v v), (.v x, .v (.int kd (intOf x)))]
    | _, _ => no
  pre s args ps := match args.toList, ps with
    | [_, x], [some (.bytes base v l)] => base ≤ s ∧ l.length ≤ 70368744177000 ∧ lo ≤ intOf x ∧ intOf x < hi
    | _, _ => True
  ok olds w0 rd wr args ps L w hrd hwr := by
    obtain ⟨k, rfl⟩ := len1 hwr
    have := len0 hrd
    subst this
    split
    · rename_i b x base v l ha
      intro hc hp hL hS
      have h1 := hc _ (List.mem_cons_self ..)
      have h2 := hc _ (List.mem_cons_of_mem _ (List.mem_singleton.2 rfl))
      injection h1 with h1
      injection h2 with h2
      obtain ⟨p1, p2, p3, p4⟩ := hp rfl
      have ha' : args = #[b, x] := by apply Array.ext'; simpa using ha
      subst ha'
      obtain ⟨hl, hr⟩ := one_pc (olds := olds) (w0 := w0) hL
      have hb : OwnB w base v l := hS.row k hr
      rw [h1, h2]
      refine (h base v l (intOf x) w hb (Nat.le_trans p1 hS.size) p2 p3 p4).mono fun e w' ⟨v', he, ho, hg, hor⟩ => ?_
      obtain ⟨A, c, hv'⟩ := own_form ho
      subst hv'
      exact ⟨⟨0, c, undef, A⟩, he, stp_turn hl hg (fun g e => e) ho fun g hgb => ⟨(ho.lt g hgb).2, (hor g hgb).symm⟩⟩
    · intro hc; exact no_false hc
def p16c := ctGrow 76 be16 .u16 0 65536 fun B b l x w ho hB hn h0 h1 => (p16_any B b _ l x w ho hB (by omega) h0 h1).mono fun e w' h => Grow.of (by simp [be16_len]) h
def p32c := ctGrow 73 be32 .u32 0 4294967296 fun B b l x w ho hB hn h0 h1 => (p32_any B b _ l x w ho hB (by omega) h0 h1).mono fun e w' h => Grow.of (by simp [be32_len]) h
end Go.Proofs.YtmmfpgoodfgkbaaGreat
