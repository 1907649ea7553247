/-
  CONTRACTS of the writes of numbers into bytes. Condition: room; the numbers fit.
-/
import Derived.Test.YtmmfpgoodfgkbaaGreatMStep
import Derived.Test.YtmmfpgoodfgkbaaGreatReportM
namespace Go.Proofs.YtmmfpgoodfgkbaaGreat
open Go Go.RowKit
set_option linter.unusedVariables false
set_option maxHeartbeats 1000000 in
theorem put16_any (g off len cap : Nat) (bs : List Int) (x : Int) (w : World) (hb : Buf w g bs) (hl : 2 ≤ len) (ho : off + 2 ≤ bs.length) (h0 : 0 ≤ x) (h1 : x < 65536) :
    Calls Tryz.prog 113 #[.slice (some ⟨g, off, none⟩) len cap, .int .u16 x] w (PutIn w g bs off (be16 x)) := by
  have c0 := hb.cell (i := off) (by omega)
  have c1 := hb.cell (i := off + 1) (by omega)
  have f0 := hb.frozen off
  have f1 := hb.frozen (off + 1)
  have hl' : (1 : Int) < (len : Int) := by omega
  go_enter Tryz.func113, Tryz.ntmps113
  go_wp2
  go_end0
  refine ⟨rfl, ?_, ?_, by simp only [size_set]⟩
  · rw [show be16 x = [x / 256, x % 256] from rfl]
    rw [put_cons _ _ _ _ (by omega), put_cons _ _ _ _ (by simp; omega), put_nil]
    exact ((hb.set off _).set (off + 1) _)
  · exact grownBy_trans (grownBy_set _ _ _ _) (grownBy_set _ _ _ _) (.inl rfl)
/-- A write of bytes as a contract. -/
def ctPut (f : FuncId) (n : Nat) (B : Int → List Int) (kd : IntKind) (lo hi : Int) (hn : ∀ x, (B x).length = n)
    (h : ∀ (g off len cap : Nat) (bs : List Int) (x : Int) (w : World), Buf w g bs → n ≤ len → off + n ≤ bs.length → lo ≤ x → x < hi → Calls Tryz.prog f #[.slice (some ⟨g, off, none⟩) len cap, .int kd x] w (PutIn w g bs off (B x))) : Ct Tryz.prog where
  f := f
  must := true
  nr := 0
  nw := 1
  V _ _ _ := .tuple #[]
  W args ps _ := match args.toList, ps with
    | [s, x], [some (.buf g bs)] => [some (.buf g (put bs (offS s) (B (intOf x))))]
    | _, _ => []
  chk args ps := match args.toList, ps with
    | [s, x], [some (.buf g bs)] => [(.v s, .v (.slice (some ⟨g, offS s, none⟩) (lenOf' s) (capOf s))), (.v x, .v (.int kd (intOf x)))]
    | _, _ => no
  pre _ args ps := match args.toList, ps with
    | [s, x], [some (.buf g bs)] => n ≤ lenOf' s ∧ offS s + n ≤ bs.length ∧ lo ≤ intOf x ∧ intOf x < hi
    | _, _ => True
  ok olds w0 rd wr args ps L w hrd hwr := by
    obtain ⟨k, rfl⟩ := len1 hwr
    have := len0 hrd
    subst this
    split
    · rename_i s x g bs ha
      intro hc hp hL hS
      have h1 := hc _ (List.mem_cons_self ..)
      have h2 := hc _ (List.mem_cons_of_mem _ (List.mem_singleton.2 rfl))
      injection h1 with h1
      injection h2 with h2
      obtain ⟨p1, p2, p3, p4⟩ := hp rfl
      have ha' : args = #[s, x] := by apply Array.ext'; simpa using ha
      subst ha'
      obtain ⟨hl, hr⟩ := one_pc (olds := olds) (w0 := w0) hL
      have hb : Buf w g bs := hS.blk k hr
      rw [h1, h2]
      refine (h g (offS s) (lenOf' s) (capOf s) bs (intOf x) w hb p1 p2 p3 p4).mono fun e w' ⟨he, hb', hg, hz⟩ => ⟨pay0, he, ?_⟩
      exact stp_turn hl hg (fun g' e => by injection e with e; exact e.symm) hb' fun y hy => by
        have : y = g := hy
        subst this
        exact ⟨hb'.lt, .inr rfl⟩
    · intro hc; exact no_false hc
def put16c := ctPut 113 2 be16 .u16 0 65536 (fun _ => rfl) fun g o l c bs x w hb h1 h2 h3 h4 => put16_any g o l c bs x w hb h1 h2 h3 h4
def put32c := ctPut 102 4 be32 .u32 0 4294967296 (fun _ => rfl) fun g o l c bs x w hb h1 h2 h3 h4 => put32_any g o l c bs x w hb h1 h2 h3 h4
end Go.Proofs.YtmmfpgoodfgkbaaGreat
