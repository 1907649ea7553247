/-
  THE LAW of a method called through an interface value, and a packet of the package as a piece of memory: what its methods answer as long as its blocks stay. Condition: the block behind the pointer.
-/
import Derived.Test.YtmmfpgoodfgkbaaGreatMStep
import Derived.Test.YtmmfpgoodfgkbaaGreatMar
namespace Go.Proofs.YtmmfpgoodfgkbaaGreat
open Go Go.RowKit
set_option linter.unusedVariables false
set_option linter.unusedSimpArgs false

section
variable {P : Program}
/-- The row of a type's methods that bears a name. -/
def rowOf (P : Program) (t : TypeId) (name : String) : Option (Array FieldStep × Option (FuncId × Bool)) := ((P.info? t).bind fun i => i.methods.find? (·.name == name)).map fun m => (m.path, m.func)
theorem run_method {w : World} {n : Nat} {t : TypeId} {v : Value} {name : String} {f : FuncId} {ptr : Bool} (hm : rowOf P t name = some (#[], some (f, ptr))) :
    (method (n + 1) t v name).run P w = ((receiverAt t (.val v) ptr (some ((name.splitOn ".").getLastD name))).run P w).andThen fun r w' => .ok (f, r) w' := by
  unfold rowOf at hm
  cases hi : P.info? t with
  | none => rw [hi] at hm; cases hm
  | some i =>
    rw [hi] at hm
    cases hf : i.methods.find? (·.name == name) with
    | none => rw [Option.bind_some, hf] at hm; cases hm
    | some m =>
      rw [Option.bind_some, hf, Option.map_some] at hm
      injection hm with hm
      injection hm with h1 h2
      simp [method, Sem.run_bind, typeInfo, hi, hf, h1, h2, follow]
theorem run_recv {w : World} {t T : TypeId} {g : Nat} {nm : String} {cs : Array Value} (hu : P.underlying t = some (.pointer T)) (hb : Blk w g T cs) (hl : ldB P T cs.toList 0 = true) :
    (receiverAt t (.val (.pointer (some ⟨g, 0, none⟩))) false (some nm)).run P w = .ok (ldV P T cs.toList 0) w := by
  unfold receiverAt
  simp only [Sem.run_bind, run_underlying hu, Result.andThen_ok]
  exact run_var hb hl
theorem run_recvP {w : World} {t T : TypeId} {v : Value} {nm : Option String} (hu : P.underlying t = some (.pointer T)) :
    (receiverAt t (.val v) true nm).run P w = .ok v w := by
  unfold receiverAt
  simp only [Sem.run_bind, run_underlying hu, Result.andThen_ok]
  rfl
theorem run_callMethod {w : World} {t : TypeId} {v r : Value} {name : String} {args : Array Value} {f : FuncId} (h : (method (P.types.size + Made.depth) t v name).run P w = .ok (f, r) w) :
    (callMethod (.iface t v) name args).run P w = (callFunc f (#[r] ++ args)).run P w := by
  simp only [callMethod, Sem.run_bind, run_program, Result.andThen_ok, h]
/-- What a method called through an interface value does. -/
def Invk (P : Program) (w : World) (v : Value) (name : String) (args : Array Value) (Q : Ending → World → Prop) : Prop :=
  ∃ f fas, (callMethod v name args).run P w = .ok (.enter f fas) w ∧ Calls P f fas w Q
theorem Invk.mono {w : World} {v : Value} {name : String} {args : Array Value} {Q Q' : Ending → World → Prop} (h : Invk P w v name args Q) (hq : ∀ e w', Q e w' → Q' e w') : Invk P w v name args Q' := by
  obtain ⟨f, fas, h1, h2⟩ := h
  exact ⟨f, fas, h1, h2.mono hq⟩
/-- A method of the value behind the pointer. -/
theorem invk_val {w : World} {t T : TypeId} {g : Nat} {cs : Array Value} {name : String} {f : FuncId} {args : Array Value} {Q : Ending → World → Prop} (hn : 0 < Made.depth) (hm : rowOf P t name = some (#[], some (f, false))) (hu : P.underlying t = some (.pointer T)) (hl : ldB P T cs.toList 0 = true)
    (hc : ∀ (fas : Array Value) (w : World), (callFunc f fas).run P w = .ok (.enter f fas) w) (hb : Blk w g T cs) (h : Calls P f (#[ldV P T cs.toList 0] ++ args) w Q) :
    Invk P w (.iface t (.pointer (some ⟨g, 0, none⟩))) name args Q := by
  refine ⟨f, _, ?_, h⟩
  obtain ⟨n, hn⟩ : ∃ n, P.types.size + Made.depth = n + 1 := ⟨P.types.size + Made.depth - 1, by omega⟩
  rw [run_callMethod (f := f) (r := ldV P T cs.toList 0)]
  · exact hc _ _
  · rw [hn, run_method hm, run_recv hu hb hl, Result.andThen_ok]
/-- A method of the pointer. -/
theorem invk_ptr {w : World} {t T : TypeId} {v : Value} {name : String} {f : FuncId} {args : Array Value} {Q : Ending → World → Prop} (hn : 0 < Made.depth) (hm : rowOf P t name = some (#[], some (f, true))) (hu : P.underlying t = some (.pointer T))
    (hc : ∀ (fas : Array Value) (w : World), (callFunc f fas).run P w = .ok (.enter f fas) w) (h : Calls P f (#[v] ++ args) w Q) :
    Invk P w (.iface t v) name args Q := by
  refine ⟨f, _, ?_, h⟩
  obtain ⟨n, hn⟩ : ∃ n, P.types.size + Made.depth = n + 1 := ⟨P.types.size + Made.depth - 1, by omega⟩
  rw [run_callMethod (f := f) (r := v)]
  · exact hc _ _
  · rw [hn, run_method hm, run_recvP hu, Result.andThen_ok]
end

/-- Bytes that are read in one of the blocks of D. -/
def RowIn (w : World) (D : Nat → Prop) (A : Option Addr) (bs : List Int) : Prop := 0 < bs.length → ∃ ad, A = some ad ∧ D ad.block ∧ ∀ j u, (u8s bs)[j]? = some u → w.cell? (ad.add j) = some u
theorem cell_lt {w : World} {a : Addr} {v : Value} (h : w.cell? a = some v) : a.block < w.heap.size := by
  apply Classical.byContradiction
  intro hn
  have : w.heap[a.block]? = none := by simp; omega
  simp [World.cell?, this] at h
theorem RowIn.reads {w : World} {D : Nat → Prop} {A : Option Addr} {bs : List Int} (h : RowIn w D A bs) : Reads w w.heap.size 1 A bs.length (u8s bs) :=
  ⟨by simp [u8s_len], fun hn => by
    obtain ⟨ad, e, _, h3⟩ := h hn
    obtain ⟨u, hu⟩ : ∃ u, (u8s bs)[0]? = some u := ⟨(u8s bs)[0]'(by rw [u8s_len]; exact hn), by simp [u8s_len, hn]⟩
    have := cell_lt (h3 0 u hu)
    exact ⟨ad, e, by rwa [block_of_add] at this, h3⟩⟩
theorem RowIn.of_own {w : World} {base n c : Nat} {A : Option Addr} {bs : List Int} (h : w.ownsRow base 5 1 (.slice A n c) n (u8s bs)) : RowIn w (fun g => base ≤ g) A bs := fun hn => by
  have hl : n = bs.length := by have := h.1; rw [u8s_len] at this; omega
  obtain ⟨g, cap, hv, hb, hlt⟩ := h.form (by omega)
  have hA : A = some ⟨g, 0, none⟩ := by injection hv
  subst hA
  exact ⟨_, rfl, hb, h.cells (g := g) rfl⟩
theorem RowIn.wide {w : World} {D D' : Nat → Prop} {A : Option Addr} {bs : List Int} (h : RowIn w D A bs) (hD : ∀ g, D g → D' g) : RowIn w D' A bs := fun hn => by
  obtain ⟨ad, e, h2, h3⟩ := h hn
  exact ⟨ad, e, hD _ h2, h3⟩
/-- The same as a piece of memory. -/
def ckA (A : Option Addr) (bs : List Int) : Ck :=
  ⟨fun g => 0 < bs.length ∧ ∃ ad, A = some ad ∧ ad.block = g, fun w => RowIn w (fun _ => True) A bs, fun w w' hk h hn => by
    obtain ⟨ad, e, h2, h3⟩ := h hn
    exact ⟨ad, e, h2, fun j u hu => (World.cell?_of_block (by rw [block_of_add]; exact hk _ ⟨hn, ad, e, rfl⟩)).trans (h3 j u hu)⟩⟩
/-- What a packet's Marshal hands back: bytes in the packet's own blocks or in new ones. -/
def MarB (B E : Nat) (w : World) (bs : List Int) (e : Ending) (w' : World) : Prop :=
  ∃ A c, e = .returned (.tuple #[.slice A bs.length c, .nilIface]) ∧ RowIn w' (fun g => (B ≤ g ∧ g < E) ∨ w.heap.size ≤ g) A bs ∧ Below w.heap.size w w'
theorem MarOut.marB {B E : Nat} {w w' : World} {bs : List Int} {e : Ending} (h : MarOut w bs e w') : MarB B E w bs e w' := by
  obtain ⟨A, c, he, ho, hB⟩ := h
  exact ⟨A, c, he, (RowIn.of_own ho).wide fun g hg => .inr hg, hB⟩
/-- A packet of the package: its methods write these bytes, and say how many they are. -/
def Writes (B E : Nat) (w : World) (v : Value) (bs : List Int) : Prop :=
  Invk Tryz.prog w v "Marshal" #[] (MarB B E w bs) ∧ Invk Tryz.prog w v "MarshalSize" #[] fun e w' => e = .returned (.int .i64 (bs.length : Nat)) ∧ Below w.heap.size w w'
/-- The same as a piece of memory: as long as the blocks from B up to E stay. -/
def ckW (B E : Nat) (v : Value) (bs : List Int) : Ck :=
  ⟨fun g => B ≤ g ∧ g < E, fun w => ∀ w', (∀ g, B ≤ g ∧ g < E → w'.heap[g]? = w.heap[g]?) → Writes B E w' v bs, fun _ _ h hw w2 h2 => hw w2 fun g hg => (h2 g hg).trans (h g hg)⟩
theorem ckW.writes {B E : Nat} {v : Value} {bs : List Int} {w : World} (h : (ckW B E v bs).ok w) : Writes B E w v bs := h w fun _ _ => rfl

/-- What the making of a packet leaves: a packet whose methods write these bytes, in new memory. -/
def Built (w : World) (bs : List Int) (e : Ending) (w' : World) : Prop := ∃ v, e = .returned v ∧ (ckW w.heap.size w'.heap.size v bs).ok w' ∧ Below w.heap.size w w'
section
variable {P : Program} {olds : Nat → Prop} {w0 : World}
/-- A method called through an interface value, its contract shown where it is called. -/
def iv (name : String) (rd wr : List Nat) (V : Pay → Value) (W : Pay → List (Option Pc)) : Step P olds w0 where
  rd := rd
  wr := wr
  skip := false
  must := true
  V _ x := V x
  W _ x := W x
  chk i := [(.r fun w => i.sem.run P w, .r fun w => (callMethod (i.vals.headD undef) name #[]).run P w)]
  pre i := ∀ (L : PL) (w : World), i.ps = (rd ++ wr).map (lookP L) → Stp olds w0 w (restr (rd ++ wr) (lookM (den olds w0 L))) →
    Invk P w (i.vals.headD undef) name #[] fun e w' => ∃ x, e = .returned (V x) ∧ Stp (blksOf (lookM (den olds w0 L)) wr) w w' (lookM (den olds w0 (zipW wr (W x))))
  ok _ i L a w K Q hc hp hs _ hL hS hK := by
    have h1 := hc _ (List.mem_singleton.2 rfl)
    injection h1 with h1
    obtain ⟨f, fas, hr, hcl⟩ := hp rfl L w hL hS
    refine calls_op (f := f) (args := fas) (by rw [hs]; exact (congrFun h1 w).trans hr) (R := fun v w' => ∃ x, v = V x ∧ Stp (blksOf (lookM (den olds w0 L)) wr) w w' (lookM (den olds w0 (zipW wr (W x)))))
      (hcl.mono fun e w' ⟨x, he, hst⟩ => ⟨_, he, x, rfl, hst⟩) fun v w' ⟨x, hv, hst⟩ => ?_
    rw [hv]
    exact hK x w' hst
end
end Go.Proofs.YtmmfpgoodfgkbaaGreat
