/-
  THE WALK of the thin package's header of a packet. Condition: the contracts of the making of the packet and of its method.
-/
import Derived.Test.YtmmfpgoodfgkbaaGreatDoorHdrs
import Derived.Test.YtmmfpgoodfgkbaaGreatDoorRdHdr
import Derived.Test.YtmmfpgoodfgkbaaGreatDoorTry
import Derived.Test.YtmmfpgoodfgkbaaGreatDoorMPkt
namespace Go.Proofs.YtmmfpgoodfgkbaaGreatDoor
open Go Go.RowKit
set_option linter.unusedVariables false

theorem look2 {a b c : Ck} {k k' n : Nat} (h : lookM [(k, some a), (k', some b)] n = some c) : (n = k ∧ c = a) ∨ (n = k' ∧ c = b) := by
  simp only [lookM] at h
  cases h1 : Nat.beq k n with
  | true => rw [h1] at h; simp only [cond_true, Option.some.injEq] at h; exact .inl ⟨(Nat.eq_of_beq_eq_true h1).symm, h.symm⟩
  | false =>
    rw [h1] at h
    simp only [cond_false] at h
    cases h2 : Nat.beq k' n with
    | true => rw [h2] at h; simp only [cond_true, Option.some.injEq] at h; exact .inr ⟨(Nat.eq_of_beq_eq_true h2).symm, h.symm⟩
    | false => rw [h2] at h; simp at h
/-- Two old blocks as pieces. -/
theorem stp_start2 {w : World} {g g' : Nat} {t t' : TypeId} {cs cs' : Array Value} (k k' : Nat) (h : Blk w g t cs) (h' : Blk w g' t' cs') (hne : g ≠ g') : Stp (fun x => x = g ∨ x = g') w w (lookM [(k, some (ckB g t cs)), (k', some (ckB g' t' cs'))]) := by
  refine ⟨rfl, rfl, rfl, Nat.le_refl _, fun _ _ _ => rfl, fun n c hc => ?_, fun n c hc x hx => ?_, fun n n' c c' hc hc' hn x hx hx' => ?_⟩
  · rcases look2 hc with ⟨_, rfl⟩ | ⟨_, rfl⟩
    · exact h
    · exact h'
  · rcases look2 hc with ⟨_, rfl⟩ | ⟨_, rfl⟩
    · have e : x = g := hx
      subst e; exact ⟨h.lt, .inr (.inl rfl)⟩
    · have e : x = g' := hx
      subst e; exact ⟨h'.lt, .inr (.inr rfl)⟩
  · rcases look2 hc with ⟨e1, rfl⟩ | ⟨e1, rfl⟩ <;> rcases look2 hc' with ⟨e2, rfl⟩ | ⟨e2, rfl⟩
    · omega
    · have e : x = g := hx
      have e' : x = g' := hx'
      omega
    · have e : x = g' := hx
      have e' : x = g := hx'
      omega
    · omega
theorem stp_start {w : World} {g : Nat} {t : TypeId} {cs : Array Value} (k : Nat) (h : Blk w g t cs) : Stp (· = g) w w (lookM [(k, some (ckB g t cs))]) :=
  stp_blk k h (.inl (World.grownBy.refl w _)) (.inr rfl)
theorem stp_try {olds : Nat → Prop} {w wa w2 : World} {o : Obj} {L : List (Nat × Option Ck)} (h : Stp olds (w.alloc o) wa (lookM L)) (hg : wa.grownBy w2 (some w.heap.size)) (ho : ∀ g, olds g → g < w.heap.size) : Stp olds w w2 (lookM L) := by
  have hsz : (w.alloc o).heap.size = w.heap.size + 1 := by simp
  have hs := h.size
  have key : ∀ n c, lookM L n = some c → ∀ g, c.blks g → w2.heap[g]? = wa.heap[g]? := fun n c hc g hgb => by
    have hl := h.lt n c hc g hgb
    refine hg.block g hl.1 fun e => ?_
    injection e with e
    rcases hl.2 with h2 | h2
    · omega
    · have := ho g h2; omega
  refine ⟨hg.os.trans h.os, hg.tape.trans h.tape, hg.output.trans h.output, by have := hg.size; omega, fun g hlt hn => ?_, fun n c hc => c.st wa w2 (key n c hc) (h.ok n c hc), fun n c hc g hgb => ?_, h.apart⟩
  · rw [hg.block g (by omega) (fun e => by injection e with e; omega), h.kept g (by omega) hn, Below.heap_alloc w o g hlt]
  · have hl := h.lt n c hc g hgb
    exact ⟨by have := hg.size; omega, hl.2.imp (fun h2 => by omega) id⟩
def hdrZ : Array Value := #[.bool false, .int .u8 0, .int .u8 0, .int .u16 0]

set_option maxHeartbeats 2000000 in
set_option maxRecDepth 100000 in
theorem plainHeader_any (b : Bool) (c t l : Int) (w : World) :
    Calls Tryz.prog 23 #[.agg #[.bool b, .int .u8 c, .int .u8 t, .int .u16 l]] w fun e w' => e = .returned (.agg #[.bool b, .int .u8 c, .int .u8 t, .int .u16 l]) ∧ Below w.heap.size w w' := by
  refine calls_of_wp Tryz.func23 rfl ?_
  rw [Tryz.ntmps23]
  have hE0 : Env 12 [(0, .agg #[.bool b, .int .u8 c, .int .u8 t, .int .u16 l])] ⟨#[.agg #[.bool b, .int .u8 c, .int .u8 t, .int .u16 l]] ++ Array.replicate (12 - (#[.agg #[.bool b, .int .u8 c, .int .u8 t, .int .u16 l]] : Array Value).size) undef, []⟩ := Env.enter _ (by simp) ⟨by simp, trivial⟩
  generalize (⟨#[.agg #[.bool b, .int .u8 c, .int .u8 t, .int .u16 l]] ++ Array.replicate (12 - (#[.agg #[.bool b, .int .u8 c, .int .u8 t, .int .u16 l]] : Array Value).size) undef, []⟩ : Act) = a0 at hE0 ⊢
  have hS0 : Stp (fun _ => False) w w (lookM []) := Stp.refl w
  refine wp_seq_k fun K1 hK1 => ?_
  refine wp_region_lit ?_
  refine seq_new hE0 hS0 1 101 (fun g => .pointer (some ⟨g, 0, none⟩)) 83 #[.bool b, .int .u8 c, .int .u8 t, .int .u16 l] (fun w => by kernel_rfl) rfl rfl rfl rfl rfl fun a2 u1 g101 hE2 hS2 => ?_
  clear hE0 a0
  clear hS0
  refine seq_new hE2 hS2 2 102 (fun g => .pointer (some ⟨g, 0, none⟩)) 44 #[.bool false, .int .u8 0, .int .u8 0, .int .u16 0] (fun w => by kernel_rfl) rfl rfl rfl rfl rfl fun a3 u2 g102 hE3 hS3 => ?_
  clear hE2 a2
  clear hS2
  clear u1
  refine wpList_nil ?_
  refine hK1 _ _ ?_
  clear hK1
  refine wp_seq_k fun K4 hK4 => ?_
  refine wp_region_lit ?_
  refine seq_pure hE3 3 (.pointer (some ⟨g101, 0, none⟩)) (fun w => by kernel_rfl) rfl rfl rfl rfl rfl fun a5 hE5 => ?_
  clear hE3 a3
  refine seq_load hE5 hS3 4 101 0 (v := .bool b) (fun w => by kernel_rfl) rfl rfl rfl rfl rfl rfl rfl fun a6 hE6 => ?_
  clear hE5 a5
  refine seq_pure hE6 5 (.pointer (some ⟨g101, 1, none⟩)) (fun w => by kernel_rfl) rfl rfl rfl rfl rfl fun a7 hE7 => ?_
  clear hE6 a6
  refine seq_load hE7 hS3 6 101 1 (v := .int .u8 c) (fun w => by kernel_rfl) rfl rfl rfl rfl rfl rfl rfl fun a8 hE8 => ?_
  clear hE7 a7
  refine seq_pure hE8 7 (.pointer (some ⟨g101, 2, none⟩)) (fun w => by kernel_rfl) rfl rfl rfl rfl rfl fun a9 hE9 => ?_
  clear hE8 a8
  refine seq_load hE9 hS3 8 101 2 (v := .int .u8 t) (fun w => by kernel_rfl) rfl rfl rfl rfl rfl rfl rfl fun a10 hE10 => ?_
  clear hE9 a9
  refine seq_pure hE10 9 (.pointer (some ⟨g101, 3, none⟩)) (fun w => by kernel_rfl) rfl rfl rfl rfl rfl fun a11 hE11 => ?_
  clear hE10 a10
  refine seq_load hE11 hS3 10 101 3 (v := .int .u16 l) (fun w => by kernel_rfl) rfl rfl rfl rfl rfl rfl rfl fun a12 hE12 => ?_
  clear hE11 a11
  refine seq_pure hE12 11 (.agg #[.bool b, .int .u8 c, .int .u8 t, .int .u16 l]) (fun w => by kernel_rfl) rfl rfl rfl rfl rfl fun a13 hE13 => ?_
  clear hE12 a12
  refine seq_storeN hE13 hS3 102 (new := #[.bool b, .int .u8 c, .int .u8 t, .int .u16 l]) (by simp [Value.oneCell']) rfl rfl rfl rfl rfl (by kernel_rfl) rfl rfl rfl fun u3 hS14 => ?_
  clear hS3
  clear u2
  refine wpList_nil ?_
  refine hK4 _ _ ?_
  clear hK4
  refine wp_ret ?_
  refine bodyPost_ret (results_cell_row Tryz.results23 _ _ _ 44 _ (0, 0) _ (by simp [hE13.get 2 rfl]) (hS14.blk 102 rfl) Tryz.underlying44 rfl rfl) hE13.defers ⟨rfl, hS14.below⟩

set_option maxHeartbeats 2000000 in
set_option maxRecDepth 100000 in
theorem headerClo_SenderReport (q : Pkt) (g0 g1 B0 : Nat) (c t : Int) (n : Nat) (w : World) (h0 : Blk w g0 56 q.cells) (h1 : Blk w g1 44 hdrZ) (h01 : g1 ≠ g0) (hB0 : B0 ≤ g0) (hB1 : B0 ≤ g1)
    (hb : ∀ w', Below B0 w w' → Calls Tryz.prog 22 #[.agg q.cells] w' fun e w'' => ∃ g, e = .returned (.iface 79 (.pointer (some ⟨g, 0, none⟩))) ∧ Below w'.heap.size w' w'' ∧ Calls Tryz.prog 24 #[.pointer (some ⟨g, 0, none⟩)] w'' fun e w3 => e = .returned (.agg (hdrA c t n)) ∧ Below w''.heap.size w'' w3) :
    Calls Tryz.prog 21 #[.pointer (some ⟨g0, 0, none⟩), .pointer (some ⟨g1, 0, none⟩)] w fun e w' => e = .returned (.bool true) ∧ Stp (fun x => x = g1 ∨ x = g0) w w' (lookM [(102, some (ckB g1 44 (hdrA c t n))), (101, some (ckB g0 56 q.cells))]) := by
  refine calls_of_wp Tryz.func21 rfl ?_
  rw [Tryz.ntmps21]
  have hE0 : Env 92 [(0, .pointer (some ⟨g0, 0, none⟩)), (1, .pointer (some ⟨g1, 0, none⟩))] ⟨#[.pointer (some ⟨g0, 0, none⟩), .pointer (some ⟨g1, 0, none⟩)] ++ Array.replicate (92 - (#[.pointer (some ⟨g0, 0, none⟩), .pointer (some ⟨g1, 0, none⟩)] : Array Value).size) undef, []⟩ := Env.enter _ (by simp) ⟨by simp, by simp, trivial⟩
  generalize (⟨#[.pointer (some ⟨g0, 0, none⟩), .pointer (some ⟨g1, 0, none⟩)] ++ Array.replicate (92 - (#[.pointer (some ⟨g0, 0, none⟩), .pointer (some ⟨g1, 0, none⟩)] : Array Value).size) undef, []⟩ : Act) = a0 at hE0 ⊢
  have hS0 : Stp (fun x => x = g1 ∨ x = g0) w w (lookM [(102, some (ckB g1 44 #[.bool false, .int .u8 0, .int .u8 0, .int .u16 0])), (101, some (ckB g0 56 q.cells))]) := stp_start2 102 101 h1 h0 h01
  refine wp_seq_k fun K1 hK1 => ?_
  refine wp_region_lit ?_
  refine seq_pure hE0 2 (.bool false) (fun w => by kernel_rfl) rfl rfl rfl rfl rfl fun a2 hE2 => ?_
  clear hE0 a0
  refine wpList_nil ?_
  refine hK1 _ _ ?_
  clear hK1
  refine wp_seq_k fun K3 hK3 => ?_
  refine wp_seq_k fun K4 hK4 => ?_
  refine wp_region_lit ?_
  refine seq_loadN hE2 hS0 16 101 Tryz.underlying56 (by kernel_rfl) rfl rfl rfl rfl rfl rfl rfl fun a5 hE5 => ?_
  clear hE2 a2
  refine wpList_val hE5 17 rfl rfl fun K hK => ?_
  have e16 := hE5.get 16 rfl
  go_simp
  refine (hb w (hS0.old B0 (Nat.le_trans hB0 (Nat.le_of_lt h0.lt)) (fun _ e => by rcases e with rfl | rfl <;> assumption))).mono ?_
  rintro e w5 ⟨g, rfl, hB5, hC5⟩
  refine hK _ _ fun a6 hE6 => ?_
  clear hK K e16
  clear hE5 a5
  have hS7 := hS0.still hB5
  clear hB5 hS0
  refine wpList_nil ?_
  refine hK4 _ _ ?_
  clear hK4
  refine wp_block ?_
  refine wp_seq_k fun K8 hK8 => ?_
  refine wp_region_lit ?_
  refine seq_pure hE6 18 (.tuple #[.pointer (some ⟨g, 0, none⟩), .bool true]) (fun w => by kernel_rfl) rfl rfl rfl rfl rfl fun a9 hE9 => ?_
  clear hE6 a6
  refine seq_pure hE9 19 (.bool true) (fun w => by kernel_rfl) rfl rfl rfl rfl rfl fun a10 hE10 => ?_
  clear hE9 a9
  refine seq_pure hE10 20 (.pointer (some ⟨g, 0, none⟩)) (fun w => by kernel_rfl) rfl rfl rfl rfl rfl fun a11 hE11 => ?_
  clear hE10 a10
  refine wpList_nil ?_
  refine hK8 _ _ ?_
  clear hK8
  refine wp_if_t hE11 19 rfl ?_
  refine wp_seq_k fun K12 hK12 => ?_
  refine wp_region_lit ?_
  refine seq_pure hE11 3 (.pointer (some ⟨g, 0, none⟩)) (fun w => by kernel_rfl) rfl rfl rfl rfl rfl fun a13 hE13 => ?_
  clear hE11 a11
  refine wpList_nil ?_
  refine hK12 _ _ ?_
  clear hK12
  refine wp_region_lit ?_
  refine seq_pure hE13 21 (.pointer (some ⟨g, 0, none⟩)) (fun w => by kernel_rfl) rfl rfl rfl rfl rfl fun a14 hE14 => ?_
  clear hE13 a13
  refine wpList_val hE14 22 rfl rfl fun K hK => ?_
  have e21 := hE14.get 21 rfl
  go_simp
  refine hC5.mono ?_
  rintro e w6 ⟨rfl, hB6⟩
  refine hK _ _ fun a15 hE15 => ?_
  clear hK K e21
  clear hE14 a14
  have hS16 := hS7.still hB6
  clear hB6 hS7
  refine wpList_val hE15 23 rfl rfl fun K hK => ?_
  have e22 := hE15.get 22 rfl
  go_simp
  refine (plainHeader_any _ _ _ _ w6).mono ?_
  rintro e w7 ⟨rfl, hB7⟩
  refine hK _ _ fun a17 hE17 => ?_
  clear hK K e22
  clear hE15 a15
  have hS18 := hS16.still hB7
  clear hB7 hS16
  refine seq_storeN hE17 hS18 102 (new := #[.bool false, .int .u8 c, .int .u8 t, .int .u16 (((n : Int) / 4 - 1) % 65536)]) (by simp [Value.oneCell']) rfl rfl rfl rfl rfl (by kernel_rfl) rfl rfl rfl fun u1 hS19 => ?_
  clear hS18
  clear w7
  refine wpList_nil ?_
  refine hK3 _ _ ?_
  clear hK3
  refine wp_seq_k fun K20 hK20 => ?_
  refine wp_region_lit ?_
  refine seq_pure hE17 2 (.bool true) (fun w => by kernel_rfl) rfl rfl rfl rfl rfl fun a21 hE21 => ?_
  clear hE17 a17
  refine wpList_nil ?_
  refine hK20 _ _ ?_
  clear hK20
  refine wp_ret ?_
  try simp only [Exit.inBlock, Exit.then]
  refine bodyPost_ret (v := .bool true) (by simp [results, Tryz.results21, go_sem, hE21.get 2 rfl]) hE21.defers ⟨rfl, hS19.keep (L' := [(102, some (ckB (g1) 44 #[.bool false, .int .u8 c, .int .u8 t, .int .u16 (((n : Int) / 4 - 1) % 65536)])), (101, some (ckB (g0) 56 (q.cells)))]) ⟨rfl, rfl, trivial⟩⟩

set_option maxHeartbeats 2000000 in
set_option maxRecDepth 100000 in
theorem headerClo_ReceiverReport (q : Pkt) (g0 g1 B0 : Nat) (c t : Int) (n : Nat) (w : World) (h0 : Blk w g0 56 q.cells) (h1 : Blk w g1 44 hdrZ) (h01 : g1 ≠ g0) (hB0 : B0 ≤ g0) (hB1 : B0 ≤ g1)
    (hb : ∀ w', Below B0 w w' → Calls Tryz.prog 22 #[.agg q.cells] w' fun e w'' => ∃ g, e = .returned (.iface 85 (.pointer (some ⟨g, 0, none⟩))) ∧ Below w'.heap.size w' w'' ∧ Calls Tryz.prog 25 #[.pointer (some ⟨g, 0, none⟩)] w'' fun e w3 => e = .returned (.agg (hdrA c t n)) ∧ Below w''.heap.size w'' w3) :
    Calls Tryz.prog 21 #[.pointer (some ⟨g0, 0, none⟩), .pointer (some ⟨g1, 0, none⟩)] w fun e w' => e = .returned (.bool true) ∧ Stp (fun x => x = g1 ∨ x = g0) w w' (lookM [(102, some (ckB g1 44 (hdrA c t n))), (101, some (ckB g0 56 q.cells))]) := by
  refine calls_of_wp Tryz.func21 rfl ?_
  rw [Tryz.ntmps21]
  have hE0 : Env 92 [(0, .pointer (some ⟨g0, 0, none⟩)), (1, .pointer (some ⟨g1, 0, none⟩))] ⟨#[.pointer (some ⟨g0, 0, none⟩), .pointer (some ⟨g1, 0, none⟩)] ++ Array.replicate (92 - (#[.pointer (some ⟨g0, 0, none⟩), .pointer (some ⟨g1, 0, none⟩)] : Array Value).size) undef, []⟩ := Env.enter _ (by simp) ⟨by simp, by simp, trivial⟩
  generalize (⟨#[.pointer (some ⟨g0, 0, none⟩), .pointer (some ⟨g1, 0, none⟩)] ++ Array.replicate (92 - (#[.pointer (some ⟨g0, 0, none⟩), .pointer (some ⟨g1, 0, none⟩)] : Array Value).size) undef, []⟩ : Act) = a0 at hE0 ⊢
  have hS0 : Stp (fun x => x = g1 ∨ x = g0) w w (lookM [(102, some (ckB g1 44 #[.bool false, .int .u8 0, .int .u8 0, .int .u16 0])), (101, some (ckB g0 56 q.cells))]) := stp_start2 102 101 h1 h0 h01
  refine wp_seq_k fun K1 hK1 => ?_
  refine wp_region_lit ?_
  refine seq_pure hE0 2 (.bool false) (fun w => by kernel_rfl) rfl rfl rfl rfl rfl fun a2 hE2 => ?_
  clear hE0 a0
  refine wpList_nil ?_
  refine hK1 _ _ ?_
  clear hK1
  refine wp_seq_k fun K3 hK3 => ?_
  refine wp_seq_k fun K4 hK4 => ?_
  refine wp_region_lit ?_
  refine seq_loadN hE2 hS0 16 101 Tryz.underlying56 (by kernel_rfl) rfl rfl rfl rfl rfl rfl rfl fun a5 hE5 => ?_
  clear hE2 a2
  refine wpList_val hE5 17 rfl rfl fun K hK => ?_
  have e16 := hE5.get 16 rfl
  go_simp
  refine (hb w (hS0.old B0 (Nat.le_trans hB0 (Nat.le_of_lt h0.lt)) (fun _ e => by rcases e with rfl | rfl <;> assumption))).mono ?_
  rintro e w5 ⟨g, rfl, hB5, hC5⟩
  refine hK _ _ fun a6 hE6 => ?_
  clear hK K e16
  clear hE5 a5
  have hS7 := hS0.still hB5
  clear hB5 hS0
  refine wpList_nil ?_
  refine hK4 _ _ ?_
  clear hK4
  refine wp_block ?_
  refine wp_seq_k fun K8 hK8 => ?_
  refine wp_region_lit ?_
  refine seq_pure hE6 18 (.tuple #[.pointer none, .bool false]) (fun w => by kernel_rfl) rfl rfl rfl rfl rfl fun a9 hE9 => ?_
  clear hE6 a6
  refine seq_pure hE9 19 (.bool false) (fun w => by kernel_rfl) rfl rfl rfl rfl rfl fun a10 hE10 => ?_
  clear hE9 a9
  refine seq_pure hE10 20 (.pointer none) (fun w => by kernel_rfl) rfl rfl rfl rfl rfl fun a11 hE11 => ?_
  clear hE10 a10
  refine wpList_nil ?_
  refine hK8 _ _ ?_
  clear hK8
  refine wp_if_f hE11 19 rfl ?_
  refine wp_seq_k fun K12 hK12 => ?_
  refine wp_region_lit ?_
  refine seq_pure hE11 24 (.tuple #[.pointer (some ⟨g, 0, none⟩), .bool true]) (fun w => by kernel_rfl) rfl rfl rfl rfl rfl fun a13 hE13 => ?_
  clear hE11 a11
  refine seq_pure hE13 25 (.bool true) (fun w => by kernel_rfl) rfl rfl rfl rfl rfl fun a14 hE14 => ?_
  clear hE13 a13
  refine seq_pure hE14 26 (.pointer (some ⟨g, 0, none⟩)) (fun w => by kernel_rfl) rfl rfl rfl rfl rfl fun a15 hE15 => ?_
  clear hE14 a14
  refine wpList_nil ?_
  refine hK12 _ _ ?_
  clear hK12
  refine wp_if_t hE15 25 rfl ?_
  refine wp_seq_k fun K16 hK16 => ?_
  refine wp_region_lit ?_
  refine seq_pure hE15 4 (.pointer (some ⟨g, 0, none⟩)) (fun w => by kernel_rfl) rfl rfl rfl rfl rfl fun a17 hE17 => ?_
  clear hE15 a15
  refine wpList_nil ?_
  refine hK16 _ _ ?_
  clear hK16
  refine wp_region_lit ?_
  refine seq_pure hE17 27 (.pointer (some ⟨g, 0, none⟩)) (fun w => by kernel_rfl) rfl rfl rfl rfl rfl fun a18 hE18 => ?_
  clear hE17 a17
  refine wpList_val hE18 28 rfl rfl fun K hK => ?_
  have e27 := hE18.get 27 rfl
  go_simp
  refine hC5.mono ?_
  rintro e w6 ⟨rfl, hB6⟩
  refine hK _ _ fun a19 hE19 => ?_
  clear hK K e27
  clear hE18 a18
  have hS20 := hS7.still hB6
  clear hB6 hS7
  refine wpList_val hE19 29 rfl rfl fun K hK => ?_
  have e28 := hE19.get 28 rfl
  go_simp
  refine (plainHeader_any _ _ _ _ w6).mono ?_
  rintro e w7 ⟨rfl, hB7⟩
  refine hK _ _ fun a21 hE21 => ?_
  clear hK K e28
  clear hE19 a19
  have hS22 := hS20.still hB7
  clear hB7 hS20
  refine seq_storeN hE21 hS22 102 (new := #[.bool false, .int .u8 c, .int .u8 t, .int .u16 (((n : Int) / 4 - 1) % 65536)]) (by simp [Value.oneCell']) rfl rfl rfl rfl rfl (by kernel_rfl) rfl rfl rfl fun u1 hS23 => ?_
  clear hS22
  clear w7
  refine wpList_nil ?_
  refine hK3 _ _ ?_
  clear hK3
  refine wp_seq_k fun K24 hK24 => ?_
  refine wp_region_lit ?_
  refine seq_pure hE21 2 (.bool true) (fun w => by kernel_rfl) rfl rfl rfl rfl rfl fun a25 hE25 => ?_
  clear hE21 a21
  refine wpList_nil ?_
  refine hK24 _ _ ?_
  clear hK24
  refine wp_ret ?_
  try simp only [Exit.inBlock, Exit.then]
  refine bodyPost_ret (v := .bool true) (by simp [results, Tryz.results21, go_sem, hE25.get 2 rfl]) hE25.defers ⟨rfl, hS23.keep (L' := [(102, some (ckB (g1) 44 #[.bool false, .int .u8 c, .int .u8 t, .int .u16 (((n : Int) / 4 - 1) % 65536)])), (101, some (ckB (g0) 56 (q.cells)))]) ⟨rfl, rfl, trivial⟩⟩

set_option maxHeartbeats 2000000 in
set_option maxRecDepth 100000 in
theorem headerClo_SourceDescription (q : Pkt) (g0 g1 B0 : Nat) (c t : Int) (n : Nat) (w : World) (h0 : Blk w g0 56 q.cells) (h1 : Blk w g1 44 hdrZ) (h01 : g1 ≠ g0) (hB0 : B0 ≤ g0) (hB1 : B0 ≤ g1)
    (hb : ∀ w', Below B0 w w' → Calls Tryz.prog 22 #[.agg q.cells] w' fun e w'' => ∃ g, e = .returned (.iface 86 (.pointer (some ⟨g, 0, none⟩))) ∧ Below w'.heap.size w' w'' ∧ Calls Tryz.prog 26 #[.pointer (some ⟨g, 0, none⟩)] w'' fun e w3 => e = .returned (.agg (hdrA c t n)) ∧ Below w''.heap.size w'' w3) :
    Calls Tryz.prog 21 #[.pointer (some ⟨g0, 0, none⟩), .pointer (some ⟨g1, 0, none⟩)] w fun e w' => e = .returned (.bool true) ∧ Stp (fun x => x = g1 ∨ x = g0) w w' (lookM [(102, some (ckB g1 44 (hdrA c t n))), (101, some (ckB g0 56 q.cells))]) := by
  refine calls_of_wp Tryz.func21 rfl ?_
  rw [Tryz.ntmps21]
  have hE0 : Env 92 [(0, .pointer (some ⟨g0, 0, none⟩)), (1, .pointer (some ⟨g1, 0, none⟩))] ⟨#[.pointer (some ⟨g0, 0, none⟩), .pointer (some ⟨g1, 0, none⟩)] ++ Array.replicate (92 - (#[.pointer (some ⟨g0, 0, none⟩), .pointer (some ⟨g1, 0, none⟩)] : Array Value).size) undef, []⟩ := Env.enter _ (by simp) ⟨by simp, by simp, trivial⟩
  generalize (⟨#[.pointer (some ⟨g0, 0, none⟩), .pointer (some ⟨g1, 0, none⟩)] ++ Array.replicate (92 - (#[.pointer (some ⟨g0, 0, none⟩), .pointer (some ⟨g1, 0, none⟩)] : Array Value).size) undef, []⟩ : Act) = a0 at hE0 ⊢
  have hS0 : Stp (fun x => x = g1 ∨ x = g0) w w (lookM [(102, some (ckB g1 44 #[.bool false, .int .u8 0, .int .u8 0, .int .u16 0])), (101, some (ckB g0 56 q.cells))]) := stp_start2 102 101 h1 h0 h01
  refine wp_seq_k fun K1 hK1 => ?_
  refine wp_region_lit ?_
  refine seq_pure hE0 2 (.bool false) (fun w => by kernel_rfl) rfl rfl rfl rfl rfl fun a2 hE2 => ?_
  clear hE0 a0
  refine wpList_nil ?_
  refine hK1 _ _ ?_
  clear hK1
  refine wp_seq_k fun K3 hK3 => ?_
  refine wp_seq_k fun K4 hK4 => ?_
  refine wp_region_lit ?_
  refine seq_loadN hE2 hS0 16 101 Tryz.underlying56 (by kernel_rfl) rfl rfl rfl rfl rfl rfl rfl fun a5 hE5 => ?_
  clear hE2 a2
  refine wpList_val hE5 17 rfl rfl fun K hK => ?_
  have e16 := hE5.get 16 rfl
  go_simp
  refine (hb w (hS0.old B0 (Nat.le_trans hB0 (Nat.le_of_lt h0.lt)) (fun _ e => by rcases e with rfl | rfl <;> assumption))).mono ?_
  rintro e w5 ⟨g, rfl, hB5, hC5⟩
  refine hK _ _ fun a6 hE6 => ?_
  clear hK K e16
  clear hE5 a5
  have hS7 := hS0.still hB5
  clear hB5 hS0
  refine wpList_nil ?_
  refine hK4 _ _ ?_
  clear hK4
  refine wp_block ?_
  refine wp_seq_k fun K8 hK8 => ?_
  refine wp_region_lit ?_
  refine seq_pure hE6 18 (.tuple #[.pointer none, .bool false]) (fun w => by kernel_rfl) rfl rfl rfl rfl rfl fun a9 hE9 => ?_
  clear hE6 a6
  refine seq_pure hE9 19 (.bool false) (fun w => by kernel_rfl) rfl rfl rfl rfl rfl fun a10 hE10 => ?_
  clear hE9 a9
  refine seq_pure hE10 20 (.pointer none) (fun w => by kernel_rfl) rfl rfl rfl rfl rfl fun a11 hE11 => ?_
  clear hE10 a10
  refine wpList_nil ?_
  refine hK8 _ _ ?_
  clear hK8
  refine wp_if_f hE11 19 rfl ?_
  refine wp_seq_k fun K12 hK12 => ?_
  refine wp_region_lit ?_
  refine seq_pure hE11 24 (.tuple #[.pointer none, .bool false]) (fun w => by kernel_rfl) rfl rfl rfl rfl rfl fun a13 hE13 => ?_
  clear hE11 a11
  refine seq_pure hE13 25 (.bool false) (fun w => by kernel_rfl) rfl rfl rfl rfl rfl fun a14 hE14 => ?_
  clear hE13 a13
  refine seq_pure hE14 26 (.pointer none) (fun w => by kernel_rfl) rfl rfl rfl rfl rfl fun a15 hE15 => ?_
  clear hE14 a14
  refine wpList_nil ?_
  refine hK12 _ _ ?_
  clear hK12
  refine wp_if_f hE15 25 rfl ?_
  refine wp_seq_k fun K16 hK16 => ?_
  refine wp_region_lit ?_
  refine seq_pure hE15 30 (.tuple #[.pointer (some ⟨g, 0, none⟩), .bool true]) (fun w => by kernel_rfl) rfl rfl rfl rfl rfl fun a17 hE17 => ?_
  clear hE15 a15
  refine seq_pure hE17 31 (.bool true) (fun w => by kernel_rfl) rfl rfl rfl rfl rfl fun a18 hE18 => ?_
  clear hE17 a17
  refine seq_pure hE18 32 (.pointer (some ⟨g, 0, none⟩)) (fun w => by kernel_rfl) rfl rfl rfl rfl rfl fun a19 hE19 => ?_
  clear hE18 a18
  refine wpList_nil ?_
  refine hK16 _ _ ?_
  clear hK16
  refine wp_if_t hE19 31 rfl ?_
  refine wp_seq_k fun K20 hK20 => ?_
  refine wp_region_lit ?_
  refine seq_pure hE19 5 (.pointer (some ⟨g, 0, none⟩)) (fun w => by kernel_rfl) rfl rfl rfl rfl rfl fun a21 hE21 => ?_
  clear hE19 a19
  refine wpList_nil ?_
  refine hK20 _ _ ?_
  clear hK20
  refine wp_region_lit ?_
  refine seq_pure hE21 33 (.pointer (some ⟨g, 0, none⟩)) (fun w => by kernel_rfl) rfl rfl rfl rfl rfl fun a22 hE22 => ?_
  clear hE21 a21
  refine wpList_val hE22 34 rfl rfl fun K hK => ?_
  have e33 := hE22.get 33 rfl
  go_simp
  refine hC5.mono ?_
  rintro e w6 ⟨rfl, hB6⟩
  refine hK _ _ fun a23 hE23 => ?_
  clear hK K e33
  clear hE22 a22
  have hS24 := hS7.still hB6
  clear hB6 hS7
  refine wpList_val hE23 35 rfl rfl fun K hK => ?_
  have e34 := hE23.get 34 rfl
  go_simp
  refine (plainHeader_any _ _ _ _ w6).mono ?_
  rintro e w7 ⟨rfl, hB7⟩
  refine hK _ _ fun a25 hE25 => ?_
  clear hK K e34
  clear hE23 a23
  have hS26 := hS24.still hB7
  clear hB7 hS24
  refine seq_storeN hE25 hS26 102 (new := #[.bool false, .int .u8 c, .int .u8 t, .int .u16 (((n : Int) / 4 - 1) % 65536)]) (by simp [Value.oneCell']) rfl rfl rfl rfl rfl (by kernel_rfl) rfl rfl rfl fun u1 hS27 => ?_
  clear hS26
  clear w7
  refine wpList_nil ?_
  refine hK3 _ _ ?_
  clear hK3
  refine wp_seq_k fun K28 hK28 => ?_
  refine wp_region_lit ?_
  refine seq_pure hE25 2 (.bool true) (fun w => by kernel_rfl) rfl rfl rfl rfl rfl fun a29 hE29 => ?_
  clear hE25 a25
  refine wpList_nil ?_
  refine hK28 _ _ ?_
  clear hK28
  refine wp_ret ?_
  try simp only [Exit.inBlock, Exit.then]
  refine bodyPost_ret (v := .bool true) (by simp [results, Tryz.results21, go_sem, hE29.get 2 rfl]) hE29.defers ⟨rfl, hS27.keep (L' := [(102, some (ckB (g1) 44 #[.bool false, .int .u8 c, .int .u8 t, .int .u16 (((n : Int) / 4 - 1) % 65536)])), (101, some (ckB (g0) 56 (q.cells)))]) ⟨rfl, rfl, trivial⟩⟩

set_option maxHeartbeats 2000000 in
set_option maxRecDepth 100000 in
theorem headerClo_Goodbye (q : Pkt) (g0 g1 B0 : Nat) (c t : Int) (n : Nat) (w : World) (h0 : Blk w g0 56 q.cells) (h1 : Blk w g1 44 hdrZ) (h01 : g1 ≠ g0) (hB0 : B0 ≤ g0) (hB1 : B0 ≤ g1)
    (hb : ∀ w', Below B0 w w' → Calls Tryz.prog 22 #[.agg q.cells] w' fun e w'' => ∃ g, e = .returned (.iface 87 (.pointer (some ⟨g, 0, none⟩))) ∧ Below w'.heap.size w' w'' ∧ Calls Tryz.prog 27 #[.pointer (some ⟨g, 0, none⟩)] w'' fun e w3 => e = .returned (.agg (hdrA c t n)) ∧ Below w''.heap.size w'' w3) :
    Calls Tryz.prog 21 #[.pointer (some ⟨g0, 0, none⟩), .pointer (some ⟨g1, 0, none⟩)] w fun e w' => e = .returned (.bool true) ∧ Stp (fun x => x = g1 ∨ x = g0) w w' (lookM [(102, some (ckB g1 44 (hdrA c t n))), (101, some (ckB g0 56 q.cells))]) := by
  refine calls_of_wp Tryz.func21 rfl ?_
  rw [Tryz.ntmps21]
  have hE0 : Env 92 [(0, .pointer (some ⟨g0, 0, none⟩)), (1, .pointer (some ⟨g1, 0, none⟩))] ⟨#[.pointer (some ⟨g0, 0, none⟩), .pointer (some ⟨g1, 0, none⟩)] ++ Array.replicate (92 - (#[.pointer (some ⟨g0, 0, none⟩), .pointer (some ⟨g1, 0, none⟩)] : Array Value).size) undef, []⟩ := Env.enter _ (by simp) ⟨by simp, by simp, trivial⟩
  generalize (⟨#[.pointer (some ⟨g0, 0, none⟩), .pointer (some ⟨g1, 0, none⟩)] ++ Array.replicate (92 - (#[.pointer (some ⟨g0, 0, none⟩), .pointer (some ⟨g1, 0, none⟩)] : Array Value).size) undef, []⟩ : Act) = a0 at hE0 ⊢
  have hS0 : Stp (fun x => x = g1 ∨ x = g0) w w (lookM [(102, some (ckB g1 44 #[.bool false, .int .u8 0, .int .u8 0, .int .u16 0])), (101, some (ckB g0 56 q.cells))]) := stp_start2 102 101 h1 h0 h01
  refine wp_seq_k fun K1 hK1 => ?_
  refine wp_region_lit ?_
  refine seq_pure hE0 2 (.bool false) (fun w => by kernel_rfl) rfl rfl rfl rfl rfl fun a2 hE2 => ?_
  clear hE0 a0
  refine wpList_nil ?_
  refine hK1 _ _ ?_
  clear hK1
  refine wp_seq_k fun K3 hK3 => ?_
  refine wp_seq_k fun K4 hK4 => ?_
  refine wp_region_lit ?_
  refine seq_loadN hE2 hS0 16 101 Tryz.underlying56 (by kernel_rfl) rfl rfl rfl rfl rfl rfl rfl fun a5 hE5 => ?_
  clear hE2 a2
  refine wpList_val hE5 17 rfl rfl fun K hK => ?_
  have e16 := hE5.get 16 rfl
  go_simp
  refine (hb w (hS0.old B0 (Nat.le_trans hB0 (Nat.le_of_lt h0.lt)) (fun _ e => by rcases e with rfl | rfl <;> assumption))).mono ?_
  rintro e w5 ⟨g, rfl, hB5, hC5⟩
  refine hK _ _ fun a6 hE6 => ?_
  clear hK K e16
  clear hE5 a5
  have hS7 := hS0.still hB5
  clear hB5 hS0
  refine wpList_nil ?_
  refine hK4 _ _ ?_
  clear hK4
  refine wp_block ?_
  refine wp_seq_k fun K8 hK8 => ?_
  refine wp_region_lit ?_
  refine seq_pure hE6 18 (.tuple #[.pointer none, .bool false]) (fun w => by kernel_rfl) rfl rfl rfl rfl rfl fun a9 hE9 => ?_
  clear hE6 a6
  refine seq_pure hE9 19 (.bool false) (fun w => by kernel_rfl) rfl rfl rfl rfl rfl fun a10 hE10 => ?_
  clear hE9 a9
  refine seq_pure hE10 20 (.pointer none) (fun w => by kernel_rfl) rfl rfl rfl rfl rfl fun a11 hE11 => ?_
  clear hE10 a10
  refine wpList_nil ?_
  refine hK8 _ _ ?_
  clear hK8
  refine wp_if_f hE11 19 rfl ?_
  refine wp_seq_k fun K12 hK12 => ?_
  refine wp_region_lit ?_
  refine seq_pure hE11 24 (.tuple #[.pointer none, .bool false]) (fun w => by kernel_rfl) rfl rfl rfl rfl rfl fun a13 hE13 => ?_
  clear hE11 a11
  refine seq_pure hE13 25 (.bool false) (fun w => by kernel_rfl) rfl rfl rfl rfl rfl fun a14 hE14 => ?_
  clear hE13 a13
  refine seq_pure hE14 26 (.pointer none) (fun w => by kernel_rfl) rfl rfl rfl rfl rfl fun a15 hE15 => ?_
  clear hE14 a14
  refine wpList_nil ?_
  refine hK12 _ _ ?_
  clear hK12
  refine wp_if_f hE15 25 rfl ?_
  refine wp_seq_k fun K16 hK16 => ?_
  refine wp_region_lit ?_
  refine seq_pure hE15 30 (.tuple #[.pointer none, .bool false]) (fun w => by kernel_rfl) rfl rfl rfl rfl rfl fun a17 hE17 => ?_
  clear hE15 a15
  refine seq_pure hE17 31 (.bool false) (fun w => by kernel_rfl) rfl rfl rfl rfl rfl fun a18 hE18 => ?_
  clear hE17 a17
  refine seq_pure hE18 32 (.pointer none) (fun w => by kernel_rfl) rfl rfl rfl rfl rfl fun a19 hE19 => ?_
  clear hE18 a18
  refine wpList_nil ?_
  refine hK16 _ _ ?_
  clear hK16
  refine wp_if_f hE19 31 rfl ?_
  refine wp_seq_k fun K20 hK20 => ?_
  refine wp_region_lit ?_
  refine seq_pure hE19 36 (.tuple #[.pointer (some ⟨g, 0, none⟩), .bool true]) (fun w => by kernel_rfl) rfl rfl rfl rfl rfl fun a21 hE21 => ?_
  clear hE19 a19
  refine seq_pure hE21 37 (.bool true) (fun w => by kernel_rfl) rfl rfl rfl rfl rfl fun a22 hE22 => ?_
  clear hE21 a21
  refine seq_pure hE22 38 (.pointer (some ⟨g, 0, none⟩)) (fun w => by kernel_rfl) rfl rfl rfl rfl rfl fun a23 hE23 => ?_
  clear hE22 a22
  refine wpList_nil ?_
  refine hK20 _ _ ?_
  clear hK20
  refine wp_if_t hE23 37 rfl ?_
  refine wp_seq_k fun K24 hK24 => ?_
  refine wp_region_lit ?_
  refine seq_pure hE23 6 (.pointer (some ⟨g, 0, none⟩)) (fun w => by kernel_rfl) rfl rfl rfl rfl rfl fun a25 hE25 => ?_
  clear hE23 a23
  refine wpList_nil ?_
  refine hK24 _ _ ?_
  clear hK24
  refine wp_region_lit ?_
  refine seq_pure hE25 39 (.pointer (some ⟨g, 0, none⟩)) (fun w => by kernel_rfl) rfl rfl rfl rfl rfl fun a26 hE26 => ?_
  clear hE25 a25
  refine wpList_val hE26 40 rfl rfl fun K hK => ?_
  have e39 := hE26.get 39 rfl
  go_simp
  refine hC5.mono ?_
  rintro e w6 ⟨rfl, hB6⟩
  refine hK _ _ fun a27 hE27 => ?_
  clear hK K e39
  clear hE26 a26
  have hS28 := hS7.still hB6
  clear hB6 hS7
  refine wpList_val hE27 41 rfl rfl fun K hK => ?_
  have e40 := hE27.get 40 rfl
  go_simp
  refine (plainHeader_any _ _ _ _ w6).mono ?_
  rintro e w7 ⟨rfl, hB7⟩
  refine hK _ _ fun a29 hE29 => ?_
  clear hK K e40
  clear hE27 a27
  have hS30 := hS28.still hB7
  clear hB7 hS28
  refine seq_storeN hE29 hS30 102 (new := #[.bool false, .int .u8 c, .int .u8 t, .int .u16 (((n : Int) / 4 - 1) % 65536)]) (by simp [Value.oneCell']) rfl rfl rfl rfl rfl (by kernel_rfl) rfl rfl rfl fun u1 hS31 => ?_
  clear hS30
  clear w7
  refine wpList_nil ?_
  refine hK3 _ _ ?_
  clear hK3
  refine wp_seq_k fun K32 hK32 => ?_
  refine wp_region_lit ?_
  refine seq_pure hE29 2 (.bool true) (fun w => by kernel_rfl) rfl rfl rfl rfl rfl fun a33 hE33 => ?_
  clear hE29 a29
  refine wpList_nil ?_
  refine hK32 _ _ ?_
  clear hK32
  refine wp_ret ?_
  try simp only [Exit.inBlock, Exit.then]
  refine bodyPost_ret (v := .bool true) (by simp [results, Tryz.results21, go_sem, hE33.get 2 rfl]) hE33.defers ⟨rfl, hS31.keep (L' := [(102, some (ckB (g1) 44 #[.bool false, .int .u8 c, .int .u8 t, .int .u16 (((n : Int) / 4 - 1) % 65536)])), (101, some (ckB (g0) 56 (q.cells)))]) ⟨rfl, rfl, trivial⟩⟩

set_option maxHeartbeats 2000000 in
set_option maxRecDepth 100000 in
theorem headerClo_TransportLayerNack (q : Pkt) (g0 g1 B0 : Nat) (c t : Int) (n : Nat) (w : World) (h0 : Blk w g0 56 q.cells) (h1 : Blk w g1 44 hdrZ) (h01 : g1 ≠ g0) (hB0 : B0 ≤ g0) (hB1 : B0 ≤ g1)
    (hb : ∀ w', Below B0 w w' → Calls Tryz.prog 22 #[.agg q.cells] w' fun e w'' => ∃ g, e = .returned (.iface 88 (.pointer (some ⟨g, 0, none⟩))) ∧ Below w'.heap.size w' w'' ∧ Calls Tryz.prog 28 #[.pointer (some ⟨g, 0, none⟩)] w'' fun e w3 => e = .returned (.agg (hdrA c t n)) ∧ Below w''.heap.size w'' w3) :
    Calls Tryz.prog 21 #[.pointer (some ⟨g0, 0, none⟩), .pointer (some ⟨g1, 0, none⟩)] w fun e w' => e = .returned (.bool true) ∧ Stp (fun x => x = g1 ∨ x = g0) w w' (lookM [(102, some (ckB g1 44 (hdrA c t n))), (101, some (ckB g0 56 q.cells))]) := by
  refine calls_of_wp Tryz.func21 rfl ?_
  rw [Tryz.ntmps21]
  have hE0 : Env 92 [(0, .pointer (some ⟨g0, 0, none⟩)), (1, .pointer (some ⟨g1, 0, none⟩))] ⟨#[.pointer (some ⟨g0, 0, none⟩), .pointer (some ⟨g1, 0, none⟩)] ++ Array.replicate (92 - (#[.pointer (some ⟨g0, 0, none⟩), .pointer (some ⟨g1, 0, none⟩)] : Array Value).size) undef, []⟩ := Env.enter _ (by simp) ⟨by simp, by simp, trivial⟩
  generalize (⟨#[.pointer (some ⟨g0, 0, none⟩), .pointer (some ⟨g1, 0, none⟩)] ++ Array.replicate (92 - (#[.pointer (some ⟨g0, 0, none⟩), .pointer (some ⟨g1, 0, none⟩)] : Array Value).size) undef, []⟩ : Act) = a0 at hE0 ⊢
  have hS0 : Stp (fun x => x = g1 ∨ x = g0) w w (lookM [(102, some (ckB g1 44 #[.bool false, .int .u8 0, .int .u8 0, .int .u16 0])), (101, some (ckB g0 56 q.cells))]) := stp_start2 102 101 h1 h0 h01
  refine wp_seq_k fun K1 hK1 => ?_
  refine wp_region_lit ?_
  refine seq_pure hE0 2 (.bool false) (fun w => by kernel_rfl) rfl rfl rfl rfl rfl fun a2 hE2 => ?_
  clear hE0 a0
  refine wpList_nil ?_
  refine hK1 _ _ ?_
  clear hK1
  refine wp_seq_k fun K3 hK3 => ?_
  refine wp_seq_k fun K4 hK4 => ?_
  refine wp_region_lit ?_
  refine seq_loadN hE2 hS0 16 101 Tryz.underlying56 (by kernel_rfl) rfl rfl rfl rfl rfl rfl rfl fun a5 hE5 => ?_
  clear hE2 a2
  refine wpList_val hE5 17 rfl rfl fun K hK => ?_
  have e16 := hE5.get 16 rfl
  go_simp
  refine (hb w (hS0.old B0 (Nat.le_trans hB0 (Nat.le_of_lt h0.lt)) (fun _ e => by rcases e with rfl | rfl <;> assumption))).mono ?_
  rintro e w5 ⟨g, rfl, hB5, hC5⟩
  refine hK _ _ fun a6 hE6 => ?_
  clear hK K e16
  clear hE5 a5
  have hS7 := hS0.still hB5
  clear hB5 hS0
  refine wpList_nil ?_
  refine hK4 _ _ ?_
  clear hK4
  refine wp_block ?_
  refine wp_seq_k fun K8 hK8 => ?_
  refine wp_region_lit ?_
  refine seq_pure hE6 18 (.tuple #[.pointer none, .bool false]) (fun w => by kernel_rfl) rfl rfl rfl rfl rfl fun a9 hE9 => ?_
  clear hE6 a6
  refine seq_pure hE9 19 (.bool false) (fun w => by kernel_rfl) rfl rfl rfl rfl rfl fun a10 hE10 => ?_
  clear hE9 a9
  refine seq_pure hE10 20 (.pointer none) (fun w => by kernel_rfl) rfl rfl rfl rfl rfl fun a11 hE11 => ?_
  clear hE10 a10
  refine wpList_nil ?_
  refine hK8 _ _ ?_
  clear hK8
  refine wp_if_f hE11 19 rfl ?_
  refine wp_seq_k fun K12 hK12 => ?_
  refine wp_region_lit ?_
  refine seq_pure hE11 24 (.tuple #[.pointer none, .bool false]) (fun w => by kernel_rfl) rfl rfl rfl rfl rfl fun a13 hE13 => ?_
  clear hE11 a11
  refine seq_pure hE13 25 (.bool false) (fun w => by kernel_rfl) rfl rfl rfl rfl rfl fun a14 hE14 => ?_
  clear hE13 a13
  refine seq_pure hE14 26 (.pointer none) (fun w => by kernel_rfl) rfl rfl rfl rfl rfl fun a15 hE15 => ?_
  clear hE14 a14
  refine wpList_nil ?_
  refine hK12 _ _ ?_
  clear hK12
  refine wp_if_f hE15 25 rfl ?_
  refine wp_seq_k fun K16 hK16 => ?_
  refine wp_region_lit ?_
  refine seq_pure hE15 30 (.tuple #[.pointer none, .bool false]) (fun w => by kernel_rfl) rfl rfl rfl rfl rfl fun a17 hE17 => ?_
  clear hE15 a15
  refine seq_pure hE17 31 (.bool false) (fun w => by kernel_rfl) rfl rfl rfl rfl rfl fun a18 hE18 => ?_
  clear hE17 a17
  refine seq_pure hE18 32 (.pointer none) (fun w => by kernel_rfl) rfl rfl rfl rfl rfl fun a19 hE19 => ?_
  clear hE18 a18
  refine wpList_nil ?_
  refine hK16 _ _ ?_
  clear hK16
  refine wp_if_f hE19 31 rfl ?_
  refine wp_seq_k fun K20 hK20 => ?_
  refine wp_region_lit ?_
  refine seq_pure hE19 36 (.tuple #[.pointer none, .bool false]) (fun w => by kernel_rfl) rfl rfl rfl rfl rfl fun a21 hE21 => ?_
  clear hE19 a19
  refine seq_pure hE21 37 (.bool false) (fun w => by kernel_rfl) rfl rfl rfl rfl rfl fun a22 hE22 => ?_
  clear hE21 a21
  refine seq_pure hE22 38 (.pointer none) (fun w => by kernel_rfl) rfl rfl rfl rfl rfl fun a23 hE23 => ?_
  clear hE22 a22
  refine wpList_nil ?_
  refine hK20 _ _ ?_
  clear hK20
  refine wp_if_f hE23 37 rfl ?_
  refine wp_seq_k fun K24 hK24 => ?_
  refine wp_region_lit ?_
  refine seq_pure hE23 42 (.tuple #[.pointer (some ⟨g, 0, none⟩), .bool true]) (fun w => by kernel_rfl) rfl rfl rfl rfl rfl fun a25 hE25 => ?_
  clear hE23 a23
  refine seq_pure hE25 43 (.bool true) (fun w => by kernel_rfl) rfl rfl rfl rfl rfl fun a26 hE26 => ?_
  clear hE25 a25
  refine seq_pure hE26 44 (.pointer (some ⟨g, 0, none⟩)) (fun w => by kernel_rfl) rfl rfl rfl rfl rfl fun a27 hE27 => ?_
  clear hE26 a26
  refine wpList_nil ?_
  refine hK24 _ _ ?_
  clear hK24
  refine wp_if_t hE27 43 rfl ?_
  refine wp_seq_k fun K28 hK28 => ?_
  refine wp_region_lit ?_
  refine seq_pure hE27 7 (.pointer (some ⟨g, 0, none⟩)) (fun w => by kernel_rfl) rfl rfl rfl rfl rfl fun a29 hE29 => ?_
  clear hE27 a27
  refine wpList_nil ?_
  refine hK28 _ _ ?_
  clear hK28
  refine wp_region_lit ?_
  refine seq_pure hE29 45 (.pointer (some ⟨g, 0, none⟩)) (fun w => by kernel_rfl) rfl rfl rfl rfl rfl fun a30 hE30 => ?_
  clear hE29 a29
  refine wpList_val hE30 46 rfl rfl fun K hK => ?_
  have e45 := hE30.get 45 rfl
  go_simp
  refine hC5.mono ?_
  rintro e w6 ⟨rfl, hB6⟩
  refine hK _ _ fun a31 hE31 => ?_
  clear hK K e45
  clear hE30 a30
  have hS32 := hS7.still hB6
  clear hB6 hS7
  refine wpList_val hE31 47 rfl rfl fun K hK => ?_
  have e46 := hE31.get 46 rfl
  go_simp
  refine (plainHeader_any _ _ _ _ w6).mono ?_
  rintro e w7 ⟨rfl, hB7⟩
  refine hK _ _ fun a33 hE33 => ?_
  clear hK K e46
  clear hE31 a31
  have hS34 := hS32.still hB7
  clear hB7 hS32
  refine seq_storeN hE33 hS34 102 (new := #[.bool false, .int .u8 c, .int .u8 t, .int .u16 (((n : Int) / 4 - 1) % 65536)]) (by simp [Value.oneCell']) rfl rfl rfl rfl rfl (by kernel_rfl) rfl rfl rfl fun u1 hS35 => ?_
  clear hS34
  clear w7
  refine wpList_nil ?_
  refine hK3 _ _ ?_
  clear hK3
  refine wp_seq_k fun K36 hK36 => ?_
  refine wp_region_lit ?_
  refine seq_pure hE33 2 (.bool true) (fun w => by kernel_rfl) rfl rfl rfl rfl rfl fun a37 hE37 => ?_
  clear hE33 a33
  refine wpList_nil ?_
  refine hK36 _ _ ?_
  clear hK36
  refine wp_ret ?_
  try simp only [Exit.inBlock, Exit.then]
  refine bodyPost_ret (v := .bool true) (by simp [results, Tryz.results21, go_sem, hE37.get 2 rfl]) hE37.defers ⟨rfl, hS35.keep (L' := [(102, some (ckB (g1) 44 #[.bool false, .int .u8 c, .int .u8 t, .int .u16 (((n : Int) / 4 - 1) % 65536)])), (101, some (ckB (g0) 56 (q.cells)))]) ⟨rfl, rfl, trivial⟩⟩

set_option maxHeartbeats 2000000 in
set_option maxRecDepth 100000 in
theorem headerClo_RapidResynchronizationRequest (q : Pkt) (g0 g1 B0 : Nat) (c t : Int) (n : Nat) (w : World) (h0 : Blk w g0 56 q.cells) (h1 : Blk w g1 44 hdrZ) (h01 : g1 ≠ g0) (hB0 : B0 ≤ g0) (hB1 : B0 ≤ g1)
    (hb : ∀ w', Below B0 w w' → Calls Tryz.prog 22 #[.agg q.cells] w' fun e w'' => ∃ g, e = .returned (.iface 89 (.pointer (some ⟨g, 0, none⟩))) ∧ Below w'.heap.size w' w'' ∧ Calls Tryz.prog 29 #[.pointer (some ⟨g, 0, none⟩)] w'' fun e w3 => e = .returned (.agg (hdrA c t n)) ∧ Below w''.heap.size w'' w3) :
    Calls Tryz.prog 21 #[.pointer (some ⟨g0, 0, none⟩), .pointer (some ⟨g1, 0, none⟩)] w fun e w' => e = .returned (.bool true) ∧ Stp (fun x => x = g1 ∨ x = g0) w w' (lookM [(102, some (ckB g1 44 (hdrA c t n))), (101, some (ckB g0 56 q.cells))]) := by
  refine calls_of_wp Tryz.func21 rfl ?_
  rw [Tryz.ntmps21]
  have hE0 : Env 92 [(0, .pointer (some ⟨g0, 0, none⟩)), (1, .pointer (some ⟨g1, 0, none⟩))] ⟨#[.pointer (some ⟨g0, 0, none⟩), .pointer (some ⟨g1, 0, none⟩)] ++ Array.replicate (92 - (#[.pointer (some ⟨g0, 0, none⟩), .pointer (some ⟨g1, 0, none⟩)] : Array Value).size) undef, []⟩ := Env.enter _ (by simp) ⟨by simp, by simp, trivial⟩
  generalize (⟨#[.pointer (some ⟨g0, 0, none⟩), .pointer (some ⟨g1, 0, none⟩)] ++ Array.replicate (92 - (#[.pointer (some ⟨g0, 0, none⟩), .pointer (some ⟨g1, 0, none⟩)] : Array Value).size) undef, []⟩ : Act) = a0 at hE0 ⊢
  have hS0 : Stp (fun x => x = g1 ∨ x = g0) w w (lookM [(102, some (ckB g1 44 #[.bool false, .int .u8 0, .int .u8 0, .int .u16 0])), (101, some (ckB g0 56 q.cells))]) := stp_start2 102 101 h1 h0 h01
  refine wp_seq_k fun K1 hK1 => ?_
  refine wp_region_lit ?_
  refine seq_pure hE0 2 (.bool false) (fun w => by kernel_rfl) rfl rfl rfl rfl rfl fun a2 hE2 => ?_
  clear hE0 a0
  refine wpList_nil ?_
  refine hK1 _ _ ?_
  clear hK1
  refine wp_seq_k fun K3 hK3 => ?_
  refine wp_seq_k fun K4 hK4 => ?_
  refine wp_region_lit ?_
  refine seq_loadN hE2 hS0 16 101 Tryz.underlying56 (by kernel_rfl) rfl rfl rfl rfl rfl rfl rfl fun a5 hE5 => ?_
  clear hE2 a2
  refine wpList_val hE5 17 rfl rfl fun K hK => ?_
  have e16 := hE5.get 16 rfl
  go_simp
  refine (hb w (hS0.old B0 (Nat.le_trans hB0 (Nat.le_of_lt h0.lt)) (fun _ e => by rcases e with rfl | rfl <;> assumption))).mono ?_
  rintro e w5 ⟨g, rfl, hB5, hC5⟩
  refine hK _ _ fun a6 hE6 => ?_
  clear hK K e16
  clear hE5 a5
  have hS7 := hS0.still hB5
  clear hB5 hS0
  refine wpList_nil ?_
  refine hK4 _ _ ?_
  clear hK4
  refine wp_block ?_
  refine wp_seq_k fun K8 hK8 => ?_
  refine wp_region_lit ?_
  refine seq_pure hE6 18 (.tuple #[.pointer none, .bool false]) (fun w => by kernel_rfl) rfl rfl rfl rfl rfl fun a9 hE9 => ?_
  clear hE6 a6
  refine seq_pure hE9 19 (.bool false) (fun w => by kernel_rfl) rfl rfl rfl rfl rfl fun a10 hE10 => ?_
  clear hE9 a9
  refine seq_pure hE10 20 (.pointer none) (fun w => by kernel_rfl) rfl rfl rfl rfl rfl fun a11 hE11 => ?_
  clear hE10 a10
  refine wpList_nil ?_
  refine hK8 _ _ ?_
  clear hK8
  refine wp_if_f hE11 19 rfl ?_
  refine wp_seq_k fun K12 hK12 => ?_
  refine wp_region_lit ?_
  refine seq_pure hE11 24 (.tuple #[.pointer none, .bool false]) (fun w => by kernel_rfl) rfl rfl rfl rfl rfl fun a13 hE13 => ?_
  clear hE11 a11
  refine seq_pure hE13 25 (.bool false) (fun w => by kernel_rfl) rfl rfl rfl rfl rfl fun a14 hE14 => ?_
  clear hE13 a13
  refine seq_pure hE14 26 (.pointer none) (fun w => by kernel_rfl) rfl rfl rfl rfl rfl fun a15 hE15 => ?_
  clear hE14 a14
  refine wpList_nil ?_
  refine hK12 _ _ ?_
  clear hK12
  refine wp_if_f hE15 25 rfl ?_
  refine wp_seq_k fun K16 hK16 => ?_
  refine wp_region_lit ?_
  refine seq_pure hE15 30 (.tuple #[.pointer none, .bool false]) (fun w => by kernel_rfl) rfl rfl rfl rfl rfl fun a17 hE17 => ?_
  clear hE15 a15
  refine seq_pure hE17 31 (.bool false) (fun w => by kernel_rfl) rfl rfl rfl rfl rfl fun a18 hE18 => ?_
  clear hE17 a17
  refine seq_pure hE18 32 (.pointer none) (fun w => by kernel_rfl) rfl rfl rfl rfl rfl fun a19 hE19 => ?_
  clear hE18 a18
  refine wpList_nil ?_
  refine hK16 _ _ ?_
  clear hK16
  refine wp_if_f hE19 31 rfl ?_
  refine wp_seq_k fun K20 hK20 => ?_
  refine wp_region_lit ?_
  refine seq_pure hE19 36 (.tuple #[.pointer none, .bool false]) (fun w => by kernel_rfl) rfl rfl rfl rfl rfl fun a21 hE21 => ?_
  clear hE19 a19
  refine seq_pure hE21 37 (.bool false) (fun w => by kernel_rfl) rfl rfl rfl rfl rfl fun a22 hE22 => ?_
  clear hE21 a21
  refine seq_pure hE22 38 (.pointer none) (fun w => by kernel_rfl) rfl rfl rfl rfl rfl fun a23 hE23 => ?_
  clear hE22 a22
  refine wpList_nil ?_
  refine hK20 _ _ ?_
  clear hK20
  refine wp_if_f hE23 37 rfl ?_
  refine wp_seq_k fun K24 hK24 => ?_
  refine wp_region_lit ?_
  refine seq_pure hE23 42 (.tuple #[.pointer none, .bool false]) (fun w => by kernel_rfl) rfl rfl rfl rfl rfl fun a25 hE25 => ?_
  clear hE23 a23
  refine seq_pure hE25 43 (.bool false) (fun w => by kernel_rfl) rfl rfl rfl rfl rfl fun a26 hE26 => ?_
  clear hE25 a25
  refine seq_pure hE26 44 (.pointer none) (fun w => by kernel_rfl) rfl rfl rfl rfl rfl fun a27 hE27 => ?_
  clear hE26 a26
  refine wpList_nil ?_
  refine hK24 _ _ ?_
  clear hK24
  refine wp_if_f hE27 43 rfl ?_
  refine wp_seq_k fun K28 hK28 => ?_
  refine wp_region_lit ?_
  refine seq_pure hE27 48 (.tuple #[.pointer (some ⟨g, 0, none⟩), .bool true]) (fun w => by kernel_rfl) rfl rfl rfl rfl rfl fun a29 hE29 => ?_
  clear hE27 a27
  refine seq_pure hE29 49 (.bool true) (fun w => by kernel_rfl) rfl rfl rfl rfl rfl fun a30 hE30 => ?_
  clear hE29 a29
  refine seq_pure hE30 50 (.pointer (some ⟨g, 0, none⟩)) (fun w => by kernel_rfl) rfl rfl rfl rfl rfl fun a31 hE31 => ?_
  clear hE30 a30
  refine wpList_nil ?_
  refine hK28 _ _ ?_
  clear hK28
  refine wp_if_t hE31 49 rfl ?_
  refine wp_seq_k fun K32 hK32 => ?_
  refine wp_region_lit ?_
  refine seq_pure hE31 8 (.pointer (some ⟨g, 0, none⟩)) (fun w => by kernel_rfl) rfl rfl rfl rfl rfl fun a33 hE33 => ?_
  clear hE31 a31
  refine wpList_nil ?_
  refine hK32 _ _ ?_
  clear hK32
  refine wp_region_lit ?_
  refine seq_pure hE33 51 (.pointer (some ⟨g, 0, none⟩)) (fun w => by kernel_rfl) rfl rfl rfl rfl rfl fun a34 hE34 => ?_
  clear hE33 a33
  refine wpList_val hE34 52 rfl rfl fun K hK => ?_
  have e51 := hE34.get 51 rfl
  go_simp
  refine hC5.mono ?_
  rintro e w6 ⟨rfl, hB6⟩
  refine hK _ _ fun a35 hE35 => ?_
  clear hK K e51
  clear hE34 a34
  have hS36 := hS7.still hB6
  clear hB6 hS7
  refine wpList_val hE35 53 rfl rfl fun K hK => ?_
  have e52 := hE35.get 52 rfl
  go_simp
  refine (plainHeader_any _ _ _ _ w6).mono ?_
  rintro e w7 ⟨rfl, hB7⟩
  refine hK _ _ fun a37 hE37 => ?_
  clear hK K e52
  clear hE35 a35
  have hS38 := hS36.still hB7
  clear hB7 hS36
  refine seq_storeN hE37 hS38 102 (new := #[.bool false, .int .u8 c, .int .u8 t, .int .u16 (((n : Int) / 4 - 1) % 65536)]) (by simp [Value.oneCell']) rfl rfl rfl rfl rfl (by kernel_rfl) rfl rfl rfl fun u1 hS39 => ?_
  clear hS38
  clear w7
  refine wpList_nil ?_
  refine hK3 _ _ ?_
  clear hK3
  refine wp_seq_k fun K40 hK40 => ?_
  refine wp_region_lit ?_
  refine seq_pure hE37 2 (.bool true) (fun w => by kernel_rfl) rfl rfl rfl rfl rfl fun a41 hE41 => ?_
  clear hE37 a37
  refine wpList_nil ?_
  refine hK40 _ _ ?_
  clear hK40
  refine wp_ret ?_
  try simp only [Exit.inBlock, Exit.then]
  refine bodyPost_ret (v := .bool true) (by simp [results, Tryz.results21, go_sem, hE41.get 2 rfl]) hE41.defers ⟨rfl, hS39.keep (L' := [(102, some (ckB (g1) 44 #[.bool false, .int .u8 c, .int .u8 t, .int .u16 (((n : Int) / 4 - 1) % 65536)])), (101, some (ckB (g0) 56 (q.cells)))]) ⟨rfl, rfl, trivial⟩⟩

set_option maxHeartbeats 2000000 in
set_option maxRecDepth 100000 in
theorem headerClo_CCFeedbackReport (q : Pkt) (g0 g1 B0 : Nat) (c t : Int) (n : Nat) (w : World) (h0 : Blk w g0 56 q.cells) (h1 : Blk w g1 44 hdrZ) (h01 : g1 ≠ g0) (hB0 : B0 ≤ g0) (hB1 : B0 ≤ g1)
    (hb : ∀ w', Below B0 w w' → Calls Tryz.prog 22 #[.agg q.cells] w' fun e w'' => ∃ g, e = .returned (.iface 90 (.pointer (some ⟨g, 0, none⟩))) ∧ Below w'.heap.size w' w'' ∧ Calls Tryz.prog 30 #[.pointer (some ⟨g, 0, none⟩)] w'' fun e w3 => e = .returned (.agg (hdrA c t n)) ∧ Below w''.heap.size w'' w3) :
    Calls Tryz.prog 21 #[.pointer (some ⟨g0, 0, none⟩), .pointer (some ⟨g1, 0, none⟩)] w fun e w' => e = .returned (.bool true) ∧ Stp (fun x => x = g1 ∨ x = g0) w w' (lookM [(102, some (ckB g1 44 (hdrA c t n))), (101, some (ckB g0 56 q.cells))]) := by
  refine calls_of_wp Tryz.func21 rfl ?_
  rw [Tryz.ntmps21]
  have hE0 : Env 92 [(0, .pointer (some ⟨g0, 0, none⟩)), (1, .pointer (some ⟨g1, 0, none⟩))] ⟨#[.pointer (some ⟨g0, 0, none⟩), .pointer (some ⟨g1, 0, none⟩)] ++ Array.replicate (92 - (#[.pointer (some ⟨g0, 0, none⟩), .pointer (some ⟨g1, 0, none⟩)] : Array Value).size) undef, []⟩ := Env.enter _ (by simp) ⟨by simp, by simp, trivial⟩
  generalize (⟨#[.pointer (some ⟨g0, 0, none⟩), .pointer (some ⟨g1, 0, none⟩)] ++ Array.replicate (92 - (#[.pointer (some ⟨g0, 0, none⟩), .pointer (some ⟨g1, 0, none⟩)] : Array Value).size) undef, []⟩ : Act) = a0 at hE0 ⊢
  have hS0 : Stp (fun x => x = g1 ∨ x = g0) w w (lookM [(102, some (ckB g1 44 #[.bool false, .int .u8 0, .int .u8 0, .int .u16 0])), (101, some (ckB g0 56 q.cells))]) := stp_start2 102 101 h1 h0 h01
  refine wp_seq_k fun K1 hK1 => ?_
  refine wp_region_lit ?_
  refine seq_pure hE0 2 (.bool false) (fun w => by kernel_rfl) rfl rfl rfl rfl rfl fun a2 hE2 => ?_
  clear hE0 a0
  refine wpList_nil ?_
  refine hK1 _ _ ?_
  clear hK1
  refine wp_seq_k fun K3 hK3 => ?_
  refine wp_seq_k fun K4 hK4 => ?_
  refine wp_region_lit ?_
  refine seq_loadN hE2 hS0 16 101 Tryz.underlying56 (by kernel_rfl) rfl rfl rfl rfl rfl rfl rfl fun a5 hE5 => ?_
  clear hE2 a2
  refine wpList_val hE5 17 rfl rfl fun K hK => ?_
  have e16 := hE5.get 16 rfl
  go_simp
  refine (hb w (hS0.old B0 (Nat.le_trans hB0 (Nat.le_of_lt h0.lt)) (fun _ e => by rcases e with rfl | rfl <;> assumption))).mono ?_
  rintro e w5 ⟨g, rfl, hB5, hC5⟩
  refine hK _ _ fun a6 hE6 => ?_
  clear hK K e16
  clear hE5 a5
  have hS7 := hS0.still hB5
  clear hB5 hS0
  refine wpList_nil ?_
  refine hK4 _ _ ?_
  clear hK4
  refine wp_block ?_
  refine wp_seq_k fun K8 hK8 => ?_
  refine wp_region_lit ?_
  refine seq_pure hE6 18 (.tuple #[.pointer none, .bool false]) (fun w => by kernel_rfl) rfl rfl rfl rfl rfl fun a9 hE9 => ?_
  clear hE6 a6
  refine seq_pure hE9 19 (.bool false) (fun w => by kernel_rfl) rfl rfl rfl rfl rfl fun a10 hE10 => ?_
  clear hE9 a9
  refine seq_pure hE10 20 (.pointer none) (fun w => by kernel_rfl) rfl rfl rfl rfl rfl fun a11 hE11 => ?_
  clear hE10 a10
  refine wpList_nil ?_
  refine hK8 _ _ ?_
  clear hK8
  refine wp_if_f hE11 19 rfl ?_
  refine wp_seq_k fun K12 hK12 => ?_
  refine wp_region_lit ?_
  refine seq_pure hE11 24 (.tuple #[.pointer none, .bool false]) (fun w => by kernel_rfl) rfl rfl rfl rfl rfl fun a13 hE13 => ?_
  clear hE11 a11
  refine seq_pure hE13 25 (.bool false) (fun w => by kernel_rfl) rfl rfl rfl rfl rfl fun a14 hE14 => ?_
  clear hE13 a13
  refine seq_pure hE14 26 (.pointer none) (fun w => by kernel_rfl) rfl rfl rfl rfl rfl fun a15 hE15 => ?_
  clear hE14 a14
  refine wpList_nil ?_
  refine hK12 _ _ ?_
  clear hK12
  refine wp_if_f hE15 25 rfl ?_
  refine wp_seq_k fun K16 hK16 => ?_
  refine wp_region_lit ?_
  refine seq_pure hE15 30 (.tuple #[.pointer none, .bool false]) (fun w => by kernel_rfl) rfl rfl rfl rfl rfl fun a17 hE17 => ?_
  clear hE15 a15
  refine seq_pure hE17 31 (.bool false) (fun w => by kernel_rfl) rfl rfl rfl rfl rfl fun a18 hE18 => ?_
  clear hE17 a17
  refine seq_pure hE18 32 (.pointer none) (fun w => by kernel_rfl) rfl rfl rfl rfl rfl fun a19 hE19 => ?_
  clear hE18 a18
  refine wpList_nil ?_
  refine hK16 _ _ ?_
  clear hK16
  refine wp_if_f hE19 31 rfl ?_
  refine wp_seq_k fun K20 hK20 => ?_
  refine wp_region_lit ?_
  refine seq_pure hE19 36 (.tuple #[.pointer none, .bool false]) (fun w => by kernel_rfl) rfl rfl rfl rfl rfl fun a21 hE21 => ?_
  clear hE19 a19
  refine seq_pure hE21 37 (.bool false) (fun w => by kernel_rfl) rfl rfl rfl rfl rfl fun a22 hE22 => ?_
  clear hE21 a21
  refine seq_pure hE22 38 (.pointer none) (fun w => by kernel_rfl) rfl rfl rfl rfl rfl fun a23 hE23 => ?_
  clear hE22 a22
  refine wpList_nil ?_
  refine hK20 _ _ ?_
  clear hK20
  refine wp_if_f hE23 37 rfl ?_
  refine wp_seq_k fun K24 hK24 => ?_
  refine wp_region_lit ?_
  refine seq_pure hE23 42 (.tuple #[.pointer none, .bool false]) (fun w => by kernel_rfl) rfl rfl rfl rfl rfl fun a25 hE25 => ?_
  clear hE23 a23
  refine seq_pure hE25 43 (.bool false) (fun w => by kernel_rfl) rfl rfl rfl rfl rfl fun a26 hE26 => ?_
  clear hE25 a25
  refine seq_pure hE26 44 (.pointer none) (fun w => by kernel_rfl) rfl rfl rfl rfl rfl fun a27 hE27 => ?_
  clear hE26 a26
  refine wpList_nil ?_
  refine hK24 _ _ ?_
  clear hK24
  refine wp_if_f hE27 43 rfl ?_
  refine wp_seq_k fun K28 hK28 => ?_
  refine wp_region_lit ?_
  refine seq_pure hE27 48 (.tuple #[.pointer none, .bool false]) (fun w => by kernel_rfl) rfl rfl rfl rfl rfl fun a29 hE29 => ?_
  clear hE27 a27
  refine seq_pure hE29 49 (.bool false) (fun w => by kernel_rfl) rfl rfl rfl rfl rfl fun a30 hE30 => ?_
  clear hE29 a29
  refine seq_pure hE30 50 (.pointer none) (fun w => by kernel_rfl) rfl rfl rfl rfl rfl fun a31 hE31 => ?_
  clear hE30 a30
  refine wpList_nil ?_
  refine hK28 _ _ ?_
  clear hK28
  refine wp_if_f hE31 49 rfl ?_
  refine wp_seq_k fun K32 hK32 => ?_
  refine wp_region_lit ?_
  refine seq_pure hE31 54 (.tuple #[.pointer (some ⟨g, 0, none⟩), .bool true]) (fun w => by kernel_rfl) rfl rfl rfl rfl rfl fun a33 hE33 => ?_
  clear hE31 a31
  refine seq_pure hE33 55 (.bool true) (fun w => by kernel_rfl) rfl rfl rfl rfl rfl fun a34 hE34 => ?_
  clear hE33 a33
  refine seq_pure hE34 56 (.pointer (some ⟨g, 0, none⟩)) (fun w => by kernel_rfl) rfl rfl rfl rfl rfl fun a35 hE35 => ?_
  clear hE34 a34
  refine wpList_nil ?_
  refine hK32 _ _ ?_
  clear hK32
  refine wp_if_t hE35 55 rfl ?_
  refine wp_seq_k fun K36 hK36 => ?_
  refine wp_region_lit ?_
  refine seq_pure hE35 9 (.pointer (some ⟨g, 0, none⟩)) (fun w => by kernel_rfl) rfl rfl rfl rfl rfl fun a37 hE37 => ?_
  clear hE35 a35
  refine wpList_nil ?_
  refine hK36 _ _ ?_
  clear hK36
  refine wp_region_lit ?_
  refine seq_pure hE37 57 (.pointer (some ⟨g, 0, none⟩)) (fun w => by kernel_rfl) rfl rfl rfl rfl rfl fun a38 hE38 => ?_
  clear hE37 a37
  refine wpList_val hE38 58 rfl rfl fun K hK => ?_
  have e57 := hE38.get 57 rfl
  go_simp
  refine hC5.mono ?_
  rintro e w6 ⟨rfl, hB6⟩
  refine hK _ _ fun a39 hE39 => ?_
  clear hK K e57
  clear hE38 a38
  have hS40 := hS7.still hB6
  clear hB6 hS7
  refine wpList_val hE39 59 rfl rfl fun K hK => ?_
  have e58 := hE39.get 58 rfl
  go_simp
  refine (plainHeader_any _ _ _ _ w6).mono ?_
  rintro e w7 ⟨rfl, hB7⟩
  refine hK _ _ fun a41 hE41 => ?_
  clear hK K e58
  clear hE39 a39
  have hS42 := hS40.still hB7
  clear hB7 hS40
  refine seq_storeN hE41 hS42 102 (new := #[.bool false, .int .u8 c, .int .u8 t, .int .u16 (((n : Int) / 4 - 1) % 65536)]) (by simp [Value.oneCell']) rfl rfl rfl rfl rfl (by kernel_rfl) rfl rfl rfl fun u1 hS43 => ?_
  clear hS42
  clear w7
  refine wpList_nil ?_
  refine hK3 _ _ ?_
  clear hK3
  refine wp_seq_k fun K44 hK44 => ?_
  refine wp_region_lit ?_
  refine seq_pure hE41 2 (.bool true) (fun w => by kernel_rfl) rfl rfl rfl rfl rfl fun a45 hE45 => ?_
  clear hE41 a41
  refine wpList_nil ?_
  refine hK44 _ _ ?_
  clear hK44
  refine wp_ret ?_
  try simp only [Exit.inBlock, Exit.then]
  refine bodyPost_ret (v := .bool true) (by simp [results, Tryz.results21, go_sem, hE45.get 2 rfl]) hE45.defers ⟨rfl, hS43.keep (L' := [(102, some (ckB (g1) 44 #[.bool false, .int .u8 c, .int .u8 t, .int .u16 (((n : Int) / 4 - 1) % 65536)])), (101, some (ckB (g0) 56 (q.cells)))]) ⟨rfl, rfl, trivial⟩⟩

set_option maxHeartbeats 2000000 in
set_option maxRecDepth 100000 in
theorem headerClo_PictureLossIndication (q : Pkt) (g0 g1 B0 : Nat) (c t : Int) (n : Nat) (w : World) (h0 : Blk w g0 56 q.cells) (h1 : Blk w g1 44 hdrZ) (h01 : g1 ≠ g0) (hB0 : B0 ≤ g0) (hB1 : B0 ≤ g1)
    (hb : ∀ w', Below B0 w w' → Calls Tryz.prog 22 #[.agg q.cells] w' fun e w'' => ∃ g, e = .returned (.iface 91 (.pointer (some ⟨g, 0, none⟩))) ∧ Below w'.heap.size w' w'' ∧ Calls Tryz.prog 31 #[.pointer (some ⟨g, 0, none⟩)] w'' fun e w3 => e = .returned (.agg (hdrA c t n)) ∧ Below w''.heap.size w'' w3) :
    Calls Tryz.prog 21 #[.pointer (some ⟨g0, 0, none⟩), .pointer (some ⟨g1, 0, none⟩)] w fun e w' => e = .returned (.bool true) ∧ Stp (fun x => x = g1 ∨ x = g0) w w' (lookM [(102, some (ckB g1 44 (hdrA c t n))), (101, some (ckB g0 56 q.cells))]) := by
  refine calls_of_wp Tryz.func21 rfl ?_
  rw [Tryz.ntmps21]
  have hE0 : Env 92 [(0, .pointer (some ⟨g0, 0, none⟩)), (1, .pointer (some ⟨g1, 0, none⟩))] ⟨#[.pointer (some ⟨g0, 0, none⟩), .pointer (some ⟨g1, 0, none⟩)] ++ Array.replicate (92 - (#[.pointer (some ⟨g0, 0, none⟩), .pointer (some ⟨g1, 0, none⟩)] : Array Value).size) undef, []⟩ := Env.enter _ (by simp) ⟨by simp, by simp, trivial⟩
  generalize (⟨#[.pointer (some ⟨g0, 0, none⟩), .pointer (some ⟨g1, 0, none⟩)] ++ Array.replicate (92 - (#[.pointer (some ⟨g0, 0, none⟩), .pointer (some ⟨g1, 0, none⟩)] : Array Value).size) undef, []⟩ : Act) = a0 at hE0 ⊢
  have hS0 : Stp (fun x => x = g1 ∨ x = g0) w w (lookM [(102, some (ckB g1 44 #[.bool false, .int .u8 0, .int .u8 0, .int .u16 0])), (101, some (ckB g0 56 q.cells))]) := stp_start2 102 101 h1 h0 h01
  refine wp_seq_k fun K1 hK1 => ?_
  refine wp_region_lit ?_
  refine seq_pure hE0 2 (.bool false) (fun w => by kernel_rfl) rfl rfl rfl rfl rfl fun a2 hE2 => ?_
  clear hE0 a0
  refine wpList_nil ?_
  refine hK1 _ _ ?_
  clear hK1
  refine wp_seq_k fun K3 hK3 => ?_
  refine wp_seq_k fun K4 hK4 => ?_
  refine wp_region_lit ?_
  refine seq_loadN hE2 hS0 16 101 Tryz.underlying56 (by kernel_rfl) rfl rfl rfl rfl rfl rfl rfl fun a5 hE5 => ?_
  clear hE2 a2
  refine wpList_val hE5 17 rfl rfl fun K hK => ?_
  have e16 := hE5.get 16 rfl
  go_simp
  refine (hb w (hS0.old B0 (Nat.le_trans hB0 (Nat.le_of_lt h0.lt)) (fun _ e => by rcases e with rfl | rfl <;> assumption))).mono ?_
  rintro e w5 ⟨g, rfl, hB5, hC5⟩
  refine hK _ _ fun a6 hE6 => ?_
  clear hK K e16
  clear hE5 a5
  have hS7 := hS0.still hB5
  clear hB5 hS0
  refine wpList_nil ?_
  refine hK4 _ _ ?_
  clear hK4
  refine wp_block ?_
  refine wp_seq_k fun K8 hK8 => ?_
  refine wp_region_lit ?_
  refine seq_pure hE6 18 (.tuple #[.pointer none, .bool false]) (fun w => by kernel_rfl) rfl rfl rfl rfl rfl fun a9 hE9 => ?_
  clear hE6 a6
  refine seq_pure hE9 19 (.bool false) (fun w => by kernel_rfl) rfl rfl rfl rfl rfl fun a10 hE10 => ?_
  clear hE9 a9
  refine seq_pure hE10 20 (.pointer none) (fun w => by kernel_rfl) rfl rfl rfl rfl rfl fun a11 hE11 => ?_
  clear hE10 a10
  refine wpList_nil ?_
  refine hK8 _ _ ?_
  clear hK8
  refine wp_if_f hE11 19 rfl ?_
  refine wp_seq_k fun K12 hK12 => ?_
  refine wp_region_lit ?_
  refine seq_pure hE11 24 (.tuple #[.pointer none, .bool false]) (fun w => by kernel_rfl) rfl rfl rfl rfl rfl fun a13 hE13 => ?_
  clear hE11 a11
  refine seq_pure hE13 25 (.bool false) (fun w => by kernel_rfl) rfl rfl rfl rfl rfl fun a14 hE14 => ?_
  clear hE13 a13
  refine seq_pure hE14 26 (.pointer none) (fun w => by kernel_rfl) rfl rfl rfl rfl rfl fun a15 hE15 => ?_
  clear hE14 a14
  refine wpList_nil ?_
  refine hK12 _ _ ?_
  clear hK12
  refine wp_if_f hE15 25 rfl ?_
  refine wp_seq_k fun K16 hK16 => ?_
  refine wp_region_lit ?_
  refine seq_pure hE15 30 (.tuple #[.pointer none, .bool false]) (fun w => by kernel_rfl) rfl rfl rfl rfl rfl fun a17 hE17 => ?_
  clear hE15 a15
  refine seq_pure hE17 31 (.bool false) (fun w => by kernel_rfl) rfl rfl rfl rfl rfl fun a18 hE18 => ?_
  clear hE17 a17
  refine seq_pure hE18 32 (.pointer none) (fun w => by kernel_rfl) rfl rfl rfl rfl rfl fun a19 hE19 => ?_
  clear hE18 a18
  refine wpList_nil ?_
  refine hK16 _ _ ?_
  clear hK16
  refine wp_if_f hE19 31 rfl ?_
  refine wp_seq_k fun K20 hK20 => ?_
  refine wp_region_lit ?_
  refine seq_pure hE19 36 (.tuple #[.pointer none, .bool false]) (fun w => by kernel_rfl) rfl rfl rfl rfl rfl fun a21 hE21 => ?_
  clear hE19 a19
  refine seq_pure hE21 37 (.bool false) (fun w => by kernel_rfl) rfl rfl rfl rfl rfl fun a22 hE22 => ?_
  clear hE21 a21
  refine seq_pure hE22 38 (.pointer none) (fun w => by kernel_rfl) rfl rfl rfl rfl rfl fun a23 hE23 => ?_
  clear hE22 a22
  refine wpList_nil ?_
  refine hK20 _ _ ?_
  clear hK20
  refine wp_if_f hE23 37 rfl ?_
  refine wp_seq_k fun K24 hK24 => ?_
  refine wp_region_lit ?_
  refine seq_pure hE23 42 (.tuple #[.pointer none, .bool false]) (fun w => by kernel_rfl) rfl rfl rfl rfl rfl fun a25 hE25 => ?_
  clear hE23 a23
  refine seq_pure hE25 43 (.bool false) (fun w => by kernel_rfl) rfl rfl rfl rfl rfl fun a26 hE26 => ?_
  clear hE25 a25
  refine seq_pure hE26 44 (.pointer none) (fun w => by kernel_rfl) rfl rfl rfl rfl rfl fun a27 hE27 => ?_
  clear hE26 a26
  refine wpList_nil ?_
  refine hK24 _ _ ?_
  clear hK24
  refine wp_if_f hE27 43 rfl ?_
  refine wp_seq_k fun K28 hK28 => ?_
  refine wp_region_lit ?_
  refine seq_pure hE27 48 (.tuple #[.pointer none, .bool false]) (fun w => by kernel_rfl) rfl rfl rfl rfl rfl fun a29 hE29 => ?_
  clear hE27 a27
  refine seq_pure hE29 49 (.bool false) (fun w => by kernel_rfl) rfl rfl rfl rfl rfl fun a30 hE30 => ?_
  clear hE29 a29
  refine seq_pure hE30 50 (.pointer none) (fun w => by kernel_rfl) rfl rfl rfl rfl rfl fun a31 hE31 => ?_
  clear hE30 a30
  refine wpList_nil ?_
  refine hK28 _ _ ?_
  clear hK28
  refine wp_if_f hE31 49 rfl ?_
  refine wp_seq_k fun K32 hK32 => ?_
  refine wp_region_lit ?_
  refine seq_pure hE31 54 (.tuple #[.pointer none, .bool false]) (fun w => by kernel_rfl) rfl rfl rfl rfl rfl fun a33 hE33 => ?_
  clear hE31 a31
  refine seq_pure hE33 55 (.bool false) (fun w => by kernel_rfl) rfl rfl rfl rfl rfl fun a34 hE34 => ?_
  clear hE33 a33
  refine seq_pure hE34 56 (.pointer none) (fun w => by kernel_rfl) rfl rfl rfl rfl rfl fun a35 hE35 => ?_
  clear hE34 a34
  refine wpList_nil ?_
  refine hK32 _ _ ?_
  clear hK32
  refine wp_if_f hE35 55 rfl ?_
  refine wp_seq_k fun K36 hK36 => ?_
  refine wp_region_lit ?_
  refine seq_pure hE35 60 (.tuple #[.pointer (some ⟨g, 0, none⟩), .bool true]) (fun w => by kernel_rfl) rfl rfl rfl rfl rfl fun a37 hE37 => ?_
  clear hE35 a35
  refine seq_pure hE37 61 (.bool true) (fun w => by kernel_rfl) rfl rfl rfl rfl rfl fun a38 hE38 => ?_
  clear hE37 a37
  refine seq_pure hE38 62 (.pointer (some ⟨g, 0, none⟩)) (fun w => by kernel_rfl) rfl rfl rfl rfl rfl fun a39 hE39 => ?_
  clear hE38 a38
  refine wpList_nil ?_
  refine hK36 _ _ ?_
  clear hK36
  refine wp_if_t hE39 61 rfl ?_
  refine wp_seq_k fun K40 hK40 => ?_
  refine wp_region_lit ?_
  refine seq_pure hE39 10 (.pointer (some ⟨g, 0, none⟩)) (fun w => by kernel_rfl) rfl rfl rfl rfl rfl fun a41 hE41 => ?_
  clear hE39 a39
  refine wpList_nil ?_
  refine hK40 _ _ ?_
  clear hK40
  refine wp_region_lit ?_
  refine seq_pure hE41 63 (.pointer (some ⟨g, 0, none⟩)) (fun w => by kernel_rfl) rfl rfl rfl rfl rfl fun a42 hE42 => ?_
  clear hE41 a41
  refine wpList_val hE42 64 rfl rfl fun K hK => ?_
  have e63 := hE42.get 63 rfl
  go_simp
  refine hC5.mono ?_
  rintro e w6 ⟨rfl, hB6⟩
  refine hK _ _ fun a43 hE43 => ?_
  clear hK K e63
  clear hE42 a42
  have hS44 := hS7.still hB6
  clear hB6 hS7
  refine wpList_val hE43 65 rfl rfl fun K hK => ?_
  have e64 := hE43.get 64 rfl
  go_simp
  refine (plainHeader_any _ _ _ _ w6).mono ?_
  rintro e w7 ⟨rfl, hB7⟩
  refine hK _ _ fun a45 hE45 => ?_
  clear hK K e64
  clear hE43 a43
  have hS46 := hS44.still hB7
  clear hB7 hS44
  refine seq_storeN hE45 hS46 102 (new := #[.bool false, .int .u8 c, .int .u8 t, .int .u16 (((n : Int) / 4 - 1) % 65536)]) (by simp [Value.oneCell']) rfl rfl rfl rfl rfl (by kernel_rfl) rfl rfl rfl fun u1 hS47 => ?_
  clear hS46
  clear w7
  refine wpList_nil ?_
  refine hK3 _ _ ?_
  clear hK3
  refine wp_seq_k fun K48 hK48 => ?_
  refine wp_region_lit ?_
  refine seq_pure hE45 2 (.bool true) (fun w => by kernel_rfl) rfl rfl rfl rfl rfl fun a49 hE49 => ?_
  clear hE45 a45
  refine wpList_nil ?_
  refine hK48 _ _ ?_
  clear hK48
  refine wp_ret ?_
  try simp only [Exit.inBlock, Exit.then]
  refine bodyPost_ret (v := .bool true) (by simp [results, Tryz.results21, go_sem, hE49.get 2 rfl]) hE49.defers ⟨rfl, hS47.keep (L' := [(102, some (ckB (g1) 44 #[.bool false, .int .u8 c, .int .u8 t, .int .u16 (((n : Int) / 4 - 1) % 65536)])), (101, some (ckB (g0) 56 (q.cells)))]) ⟨rfl, rfl, trivial⟩⟩

set_option maxHeartbeats 2000000 in
set_option maxRecDepth 100000 in
theorem headerClo_SliceLossIndication (q : Pkt) (g0 g1 B0 : Nat) (c t : Int) (n : Nat) (w : World) (h0 : Blk w g0 56 q.cells) (h1 : Blk w g1 44 hdrZ) (h01 : g1 ≠ g0) (hB0 : B0 ≤ g0) (hB1 : B0 ≤ g1)
    (hb : ∀ w', Below B0 w w' → Calls Tryz.prog 22 #[.agg q.cells] w' fun e w'' => ∃ g, e = .returned (.iface 92 (.pointer (some ⟨g, 0, none⟩))) ∧ Below w'.heap.size w' w'' ∧ Calls Tryz.prog 32 #[.pointer (some ⟨g, 0, none⟩)] w'' fun e w3 => e = .returned (.agg (hdrA c t n)) ∧ Below w''.heap.size w'' w3) :
    Calls Tryz.prog 21 #[.pointer (some ⟨g0, 0, none⟩), .pointer (some ⟨g1, 0, none⟩)] w fun e w' => e = .returned (.bool true) ∧ Stp (fun x => x = g1 ∨ x = g0) w w' (lookM [(102, some (ckB g1 44 (hdrA c t n))), (101, some (ckB g0 56 q.cells))]) := by
  refine calls_of_wp Tryz.func21 rfl ?_
  rw [Tryz.ntmps21]
  have hE0 : Env 92 [(0, .pointer (some ⟨g0, 0, none⟩)), (1, .pointer (some ⟨g1, 0, none⟩))] ⟨#[.pointer (some ⟨g0, 0, none⟩), .pointer (some ⟨g1, 0, none⟩)] ++ Array.replicate (92 - (#[.pointer (some ⟨g0, 0, none⟩), .pointer (some ⟨g1, 0, none⟩)] : Array Value).size) undef, []⟩ := Env.enter _ (by simp) ⟨by simp, by simp, trivial⟩
  generalize (⟨#[.pointer (some ⟨g0, 0, none⟩), .pointer (some ⟨g1, 0, none⟩)] ++ Array.replicate (92 - (#[.pointer (some ⟨g0, 0, none⟩), .pointer (some ⟨g1, 0, none⟩)] : Array Value).size) undef, []⟩ : Act) = a0 at hE0 ⊢
  have hS0 : Stp (fun x => x = g1 ∨ x = g0) w w (lookM [(102, some (ckB g1 44 #[.bool false, .int .u8 0, .int .u8 0, .int .u16 0])), (101, some (ckB g0 56 q.cells))]) := stp_start2 102 101 h1 h0 h01
  refine wp_seq_k fun K1 hK1 => ?_
  refine wp_region_lit ?_
  refine seq_pure hE0 2 (.bool false) (fun w => by kernel_rfl) rfl rfl rfl rfl rfl fun a2 hE2 => ?_
  clear hE0 a0
  refine wpList_nil ?_
  refine hK1 _ _ ?_
  clear hK1
  refine wp_seq_k fun K3 hK3 => ?_
  refine wp_seq_k fun K4 hK4 => ?_
  refine wp_region_lit ?_
  refine seq_loadN hE2 hS0 16 101 Tryz.underlying56 (by kernel_rfl) rfl rfl rfl rfl rfl rfl rfl fun a5 hE5 => ?_
  clear hE2 a2
  refine wpList_val hE5 17 rfl rfl fun K hK => ?_
  have e16 := hE5.get 16 rfl
  go_simp
  refine (hb w (hS0.old B0 (Nat.le_trans hB0 (Nat.le_of_lt h0.lt)) (fun _ e => by rcases e with rfl | rfl <;> assumption))).mono ?_
  rintro e w5 ⟨g, rfl, hB5, hC5⟩
  refine hK _ _ fun a6 hE6 => ?_
  clear hK K e16
  clear hE5 a5
  have hS7 := hS0.still hB5
  clear hB5 hS0
  refine wpList_nil ?_
  refine hK4 _ _ ?_
  clear hK4
  refine wp_block ?_
  refine wp_seq_k fun K8 hK8 => ?_
  refine wp_region_lit ?_
  refine seq_pure hE6 18 (.tuple #[.pointer none, .bool false]) (fun w => by kernel_rfl) rfl rfl rfl rfl rfl fun a9 hE9 => ?_
  clear hE6 a6
  refine seq_pure hE9 19 (.bool false) (fun w => by kernel_rfl) rfl rfl rfl rfl rfl fun a10 hE10 => ?_
  clear hE9 a9
  refine seq_pure hE10 20 (.pointer none) (fun w => by kernel_rfl) rfl rfl rfl rfl rfl fun a11 hE11 => ?_
  clear hE10 a10
  refine wpList_nil ?_
  refine hK8 _ _ ?_
  clear hK8
  refine wp_if_f hE11 19 rfl ?_
  refine wp_seq_k fun K12 hK12 => ?_
  refine wp_region_lit ?_
  refine seq_pure hE11 24 (.tuple #[.pointer none, .bool false]) (fun w => by kernel_rfl) rfl rfl rfl rfl rfl fun a13 hE13 => ?_
  clear hE11 a11
  refine seq_pure hE13 25 (.bool false) (fun w => by kernel_rfl) rfl rfl rfl rfl rfl fun a14 hE14 => ?_
  clear hE13 a13
  refine seq_pure hE14 26 (.pointer none) (fun w => by kernel_rfl) rfl rfl rfl rfl rfl fun a15 hE15 => ?_
  clear hE14 a14
  refine wpList_nil ?_
  refine hK12 _ _ ?_
  clear hK12
  refine wp_if_f hE15 25 rfl ?_
  refine wp_seq_k fun K16 hK16 => ?_
  refine wp_region_lit ?_
  refine seq_pure hE15 30 (.tuple #[.pointer none, .bool false]) (fun w => by kernel_rfl) rfl rfl rfl rfl rfl fun a17 hE17 => ?_
  clear hE15 a15
  refine seq_pure hE17 31 (.bool false) (fun w => by kernel_rfl) rfl rfl rfl rfl rfl fun a18 hE18 => ?_
  clear hE17 a17
  refine seq_pure hE18 32 (.pointer none) (fun w => by kernel_rfl) rfl rfl rfl rfl rfl fun a19 hE19 => ?_
  clear hE18 a18
  refine wpList_nil ?_
  refine hK16 _ _ ?_
  clear hK16
  refine wp_if_f hE19 31 rfl ?_
  refine wp_seq_k fun K20 hK20 => ?_
  refine wp_region_lit ?_
  refine seq_pure hE19 36 (.tuple #[.pointer none, .bool false]) (fun w => by kernel_rfl) rfl rfl rfl rfl rfl fun a21 hE21 => ?_
  clear hE19 a19
  refine seq_pure hE21 37 (.bool false) (fun w => by kernel_rfl) rfl rfl rfl rfl rfl fun a22 hE22 => ?_
  clear hE21 a21
  refine seq_pure hE22 38 (.pointer none) (fun w => by kernel_rfl) rfl rfl rfl rfl rfl fun a23 hE23 => ?_
  clear hE22 a22
  refine wpList_nil ?_
  refine hK20 _ _ ?_
  clear hK20
  refine wp_if_f hE23 37 rfl ?_
  refine wp_seq_k fun K24 hK24 => ?_
  refine wp_region_lit ?_
  refine seq_pure hE23 42 (.tuple #[.pointer none, .bool false]) (fun w => by kernel_rfl) rfl rfl rfl rfl rfl fun a25 hE25 => ?_
  clear hE23 a23
  refine seq_pure hE25 43 (.bool false) (fun w => by kernel_rfl) rfl rfl rfl rfl rfl fun a26 hE26 => ?_
  clear hE25 a25
  refine seq_pure hE26 44 (.pointer none) (fun w => by kernel_rfl) rfl rfl rfl rfl rfl fun a27 hE27 => ?_
  clear hE26 a26
  refine wpList_nil ?_
  refine hK24 _ _ ?_
  clear hK24
  refine wp_if_f hE27 43 rfl ?_
  refine wp_seq_k fun K28 hK28 => ?_
  refine wp_region_lit ?_
  refine seq_pure hE27 48 (.tuple #[.pointer none, .bool false]) (fun w => by kernel_rfl) rfl rfl rfl rfl rfl fun a29 hE29 => ?_
  clear hE27 a27
  refine seq_pure hE29 49 (.bool false) (fun w => by kernel_rfl) rfl rfl rfl rfl rfl fun a30 hE30 => ?_
  clear hE29 a29
  refine seq_pure hE30 50 (.pointer none) (fun w => by kernel_rfl) rfl rfl rfl rfl rfl fun a31 hE31 => ?_
  clear hE30 a30
  refine wpList_nil ?_
  refine hK28 _ _ ?_
  clear hK28
  refine wp_if_f hE31 49 rfl ?_
  refine wp_seq_k fun K32 hK32 => ?_
  refine wp_region_lit ?_
  refine seq_pure hE31 54 (.tuple #[.pointer none, .bool false]) (fun w => by kernel_rfl) rfl rfl rfl rfl rfl fun a33 hE33 => ?_
  clear hE31 a31
  refine seq_pure hE33 55 (.bool false) (fun w => by kernel_rfl) rfl rfl rfl rfl rfl fun a34 hE34 => ?_
  clear hE33 a33
  refine seq_pure hE34 56 (.pointer none) (fun w => by kernel_rfl) rfl rfl rfl rfl rfl fun a35 hE35 => ?_
  clear hE34 a34
  refine wpList_nil ?_
  refine hK32 _ _ ?_
  clear hK32
  refine wp_if_f hE35 55 rfl ?_
  refine wp_seq_k fun K36 hK36 => ?_
  refine wp_region_lit ?_
  refine seq_pure hE35 60 (.tuple #[.pointer none, .bool false]) (fun w => by kernel_rfl) rfl rfl rfl rfl rfl fun a37 hE37 => ?_
  clear hE35 a35
  refine seq_pure hE37 61 (.bool false) (fun w => by kernel_rfl) rfl rfl rfl rfl rfl fun a38 hE38 => ?_
  clear hE37 a37
  refine seq_pure hE38 62 (.pointer none) (fun w => by kernel_rfl) rfl rfl rfl rfl rfl fun a39 hE39 => ?_
  clear hE38 a38
  refine wpList_nil ?_
  refine hK36 _ _ ?_
  clear hK36
  refine wp_if_f hE39 61 rfl ?_
  refine wp_seq_k fun K40 hK40 => ?_
  refine wp_region_lit ?_
  refine seq_pure hE39 66 (.tuple #[.pointer (some ⟨g, 0, none⟩), .bool true]) (fun w => by kernel_rfl) rfl rfl rfl rfl rfl fun a41 hE41 => ?_
  clear hE39 a39
  refine seq_pure hE41 67 (.bool true) (fun w => by kernel_rfl) rfl rfl rfl rfl rfl fun a42 hE42 => ?_
  clear hE41 a41
  refine seq_pure hE42 68 (.pointer (some ⟨g, 0, none⟩)) (fun w => by kernel_rfl) rfl rfl rfl rfl rfl fun a43 hE43 => ?_
  clear hE42 a42
  refine wpList_nil ?_
  refine hK40 _ _ ?_
  clear hK40
  refine wp_if_t hE43 67 rfl ?_
  refine wp_seq_k fun K44 hK44 => ?_
  refine wp_region_lit ?_
  refine seq_pure hE43 11 (.pointer (some ⟨g, 0, none⟩)) (fun w => by kernel_rfl) rfl rfl rfl rfl rfl fun a45 hE45 => ?_
  clear hE43 a43
  refine wpList_nil ?_
  refine hK44 _ _ ?_
  clear hK44
  refine wp_region_lit ?_
  refine seq_pure hE45 69 (.pointer (some ⟨g, 0, none⟩)) (fun w => by kernel_rfl) rfl rfl rfl rfl rfl fun a46 hE46 => ?_
  clear hE45 a45
  refine wpList_val hE46 70 rfl rfl fun K hK => ?_
  have e69 := hE46.get 69 rfl
  go_simp
  refine hC5.mono ?_
  rintro e w6 ⟨rfl, hB6⟩
  refine hK _ _ fun a47 hE47 => ?_
  clear hK K e69
  clear hE46 a46
  have hS48 := hS7.still hB6
  clear hB6 hS7
  refine wpList_val hE47 71 rfl rfl fun K hK => ?_
  have e70 := hE47.get 70 rfl
  go_simp
  refine (plainHeader_any _ _ _ _ w6).mono ?_
  rintro e w7 ⟨rfl, hB7⟩
  refine hK _ _ fun a49 hE49 => ?_
  clear hK K e70
  clear hE47 a47
  have hS50 := hS48.still hB7
  clear hB7 hS48
  refine seq_storeN hE49 hS50 102 (new := #[.bool false, .int .u8 c, .int .u8 t, .int .u16 (((n : Int) / 4 - 1) % 65536)]) (by simp [Value.oneCell']) rfl rfl rfl rfl rfl (by kernel_rfl) rfl rfl rfl fun u1 hS51 => ?_
  clear hS50
  clear w7
  refine wpList_nil ?_
  refine hK3 _ _ ?_
  clear hK3
  refine wp_seq_k fun K52 hK52 => ?_
  refine wp_region_lit ?_
  refine seq_pure hE49 2 (.bool true) (fun w => by kernel_rfl) rfl rfl rfl rfl rfl fun a53 hE53 => ?_
  clear hE49 a49
  refine wpList_nil ?_
  refine hK52 _ _ ?_
  clear hK52
  refine wp_ret ?_
  try simp only [Exit.inBlock, Exit.then]
  refine bodyPost_ret (v := .bool true) (by simp [results, Tryz.results21, go_sem, hE53.get 2 rfl]) hE53.defers ⟨rfl, hS51.keep (L' := [(102, some (ckB (g1) 44 #[.bool false, .int .u8 c, .int .u8 t, .int .u16 (((n : Int) / 4 - 1) % 65536)])), (101, some (ckB (g0) 56 (q.cells)))]) ⟨rfl, rfl, trivial⟩⟩

set_option maxHeartbeats 2000000 in
set_option maxRecDepth 100000 in
theorem headerClo_FullIntraRequest (q : Pkt) (g0 g1 B0 : Nat) (c t : Int) (n : Nat) (w : World) (h0 : Blk w g0 56 q.cells) (h1 : Blk w g1 44 hdrZ) (h01 : g1 ≠ g0) (hB0 : B0 ≤ g0) (hB1 : B0 ≤ g1)
    (hb : ∀ w', Below B0 w w' → Calls Tryz.prog 22 #[.agg q.cells] w' fun e w'' => ∃ g, e = .returned (.iface 93 (.pointer (some ⟨g, 0, none⟩))) ∧ Below w'.heap.size w' w'' ∧ Calls Tryz.prog 33 #[.pointer (some ⟨g, 0, none⟩)] w'' fun e w3 => e = .returned (.agg (hdrA c t n)) ∧ Below w''.heap.size w'' w3) :
    Calls Tryz.prog 21 #[.pointer (some ⟨g0, 0, none⟩), .pointer (some ⟨g1, 0, none⟩)] w fun e w' => e = .returned (.bool true) ∧ Stp (fun x => x = g1 ∨ x = g0) w w' (lookM [(102, some (ckB g1 44 (hdrA c t n))), (101, some (ckB g0 56 q.cells))]) := by
  refine calls_of_wp Tryz.func21 rfl ?_
  rw [Tryz.ntmps21]
  have hE0 : Env 92 [(0, .pointer (some ⟨g0, 0, none⟩)), (1, .pointer (some ⟨g1, 0, none⟩))] ⟨#[.pointer (some ⟨g0, 0, none⟩), .pointer (some ⟨g1, 0, none⟩)] ++ Array.replicate (92 - (#[.pointer (some ⟨g0, 0, none⟩), .pointer (some ⟨g1, 0, none⟩)] : Array Value).size) undef, []⟩ := Env.enter _ (by simp) ⟨by simp, by simp, trivial⟩
  generalize (⟨#[.pointer (some ⟨g0, 0, none⟩), .pointer (some ⟨g1, 0, none⟩)] ++ Array.replicate (92 - (#[.pointer (some ⟨g0, 0, none⟩), .pointer (some ⟨g1, 0, none⟩)] : Array Value).size) undef, []⟩ : Act) = a0 at hE0 ⊢
  have hS0 : Stp (fun x => x = g1 ∨ x = g0) w w (lookM [(102, some (ckB g1 44 #[.bool false, .int .u8 0, .int .u8 0, .int .u16 0])), (101, some (ckB g0 56 q.cells))]) := stp_start2 102 101 h1 h0 h01
  refine wp_seq_k fun K1 hK1 => ?_
  refine wp_region_lit ?_
  refine seq_pure hE0 2 (.bool false) (fun w => by kernel_rfl) rfl rfl rfl rfl rfl fun a2 hE2 => ?_
  clear hE0 a0
  refine wpList_nil ?_
  refine hK1 _ _ ?_
  clear hK1
  refine wp_seq_k fun K3 hK3 => ?_
  refine wp_seq_k fun K4 hK4 => ?_
  refine wp_region_lit ?_
  refine seq_loadN hE2 hS0 16 101 Tryz.underlying56 (by kernel_rfl) rfl rfl rfl rfl rfl rfl rfl fun a5 hE5 => ?_
  clear hE2 a2
  refine wpList_val hE5 17 rfl rfl fun K hK => ?_
  have e16 := hE5.get 16 rfl
  go_simp
  refine (hb w (hS0.old B0 (Nat.le_trans hB0 (Nat.le_of_lt h0.lt)) (fun _ e => by rcases e with rfl | rfl <;> assumption))).mono ?_
  rintro e w5 ⟨g, rfl, hB5, hC5⟩
  refine hK _ _ fun a6 hE6 => ?_
  clear hK K e16
  clear hE5 a5
  have hS7 := hS0.still hB5
  clear hB5 hS0
  refine wpList_nil ?_
  refine hK4 _ _ ?_
  clear hK4
  refine wp_block ?_
  refine wp_seq_k fun K8 hK8 => ?_
  refine wp_region_lit ?_
  refine seq_pure hE6 18 (.tuple #[.pointer none, .bool false]) (fun w => by kernel_rfl) rfl rfl rfl rfl rfl fun a9 hE9 => ?_
  clear hE6 a6
  refine seq_pure hE9 19 (.bool false) (fun w => by kernel_rfl) rfl rfl rfl rfl rfl fun a10 hE10 => ?_
  clear hE9 a9
  refine seq_pure hE10 20 (.pointer none) (fun w => by kernel_rfl) rfl rfl rfl rfl rfl fun a11 hE11 => ?_
  clear hE10 a10
  refine wpList_nil ?_
  refine hK8 _ _ ?_
  clear hK8
  refine wp_if_f hE11 19 rfl ?_
  refine wp_seq_k fun K12 hK12 => ?_
  refine wp_region_lit ?_
  refine seq_pure hE11 24 (.tuple #[.pointer none, .bool false]) (fun w => by kernel_rfl) rfl rfl rfl rfl rfl fun a13 hE13 => ?_
  clear hE11 a11
  refine seq_pure hE13 25 (.bool false) (fun w => by kernel_rfl) rfl rfl rfl rfl rfl fun a14 hE14 => ?_
  clear hE13 a13
  refine seq_pure hE14 26 (.pointer none) (fun w => by kernel_rfl) rfl rfl rfl rfl rfl fun a15 hE15 => ?_
  clear hE14 a14
  refine wpList_nil ?_
  refine hK12 _ _ ?_
  clear hK12
  refine wp_if_f hE15 25 rfl ?_
  refine wp_seq_k fun K16 hK16 => ?_
  refine wp_region_lit ?_
  refine seq_pure hE15 30 (.tuple #[.pointer none, .bool false]) (fun w => by kernel_rfl) rfl rfl rfl rfl rfl fun a17 hE17 => ?_
  clear hE15 a15
  refine seq_pure hE17 31 (.bool false) (fun w => by kernel_rfl) rfl rfl rfl rfl rfl fun a18 hE18 => ?_
  clear hE17 a17
  refine seq_pure hE18 32 (.pointer none) (fun w => by kernel_rfl) rfl rfl rfl rfl rfl fun a19 hE19 => ?_
  clear hE18 a18
  refine wpList_nil ?_
  refine hK16 _ _ ?_
  clear hK16
  refine wp_if_f hE19 31 rfl ?_
  refine wp_seq_k fun K20 hK20 => ?_
  refine wp_region_lit ?_
  refine seq_pure hE19 36 (.tuple #[.pointer none, .bool false]) (fun w => by kernel_rfl) rfl rfl rfl rfl rfl fun a21 hE21 => ?_
  clear hE19 a19
  refine seq_pure hE21 37 (.bool false) (fun w => by kernel_rfl) rfl rfl rfl rfl rfl fun a22 hE22 => ?_
  clear hE21 a21
  refine seq_pure hE22 38 (.pointer none) (fun w => by kernel_rfl) rfl rfl rfl rfl rfl fun a23 hE23 => ?_
  clear hE22 a22
  refine wpList_nil ?_
  refine hK20 _ _ ?_
  clear hK20
  refine wp_if_f hE23 37 rfl ?_
  refine wp_seq_k fun K24 hK24 => ?_
  refine wp_region_lit ?_
  refine seq_pure hE23 42 (.tuple #[.pointer none, .bool false]) (fun w => by kernel_rfl) rfl rfl rfl rfl rfl fun a25 hE25 => ?_
  clear hE23 a23
  refine seq_pure hE25 43 (.bool false) (fun w => by kernel_rfl) rfl rfl rfl rfl rfl fun a26 hE26 => ?_
  clear hE25 a25
  refine seq_pure hE26 44 (.pointer none) (fun w => by kernel_rfl) rfl rfl rfl rfl rfl fun a27 hE27 => ?_
  clear hE26 a26
  refine wpList_nil ?_
  refine hK24 _ _ ?_
  clear hK24
  refine wp_if_f hE27 43 rfl ?_
  refine wp_seq_k fun K28 hK28 => ?_
  refine wp_region_lit ?_
  refine seq_pure hE27 48 (.tuple #[.pointer none, .bool false]) (fun w => by kernel_rfl) rfl rfl rfl rfl rfl fun a29 hE29 => ?_
  clear hE27 a27
  refine seq_pure hE29 49 (.bool false) (fun w => by kernel_rfl) rfl rfl rfl rfl rfl fun a30 hE30 => ?_
  clear hE29 a29
  refine seq_pure hE30 50 (.pointer none) (fun w => by kernel_rfl) rfl rfl rfl rfl rfl fun a31 hE31 => ?_
  clear hE30 a30
  refine wpList_nil ?_
  refine hK28 _ _ ?_
  clear hK28
  refine wp_if_f hE31 49 rfl ?_
  refine wp_seq_k fun K32 hK32 => ?_
  refine wp_region_lit ?_
  refine seq_pure hE31 54 (.tuple #[.pointer none, .bool false]) (fun w => by kernel_rfl) rfl rfl rfl rfl rfl fun a33 hE33 => ?_
  clear hE31 a31
  refine seq_pure hE33 55 (.bool false) (fun w => by kernel_rfl) rfl rfl rfl rfl rfl fun a34 hE34 => ?_
  clear hE33 a33
  refine seq_pure hE34 56 (.pointer none) (fun w => by kernel_rfl) rfl rfl rfl rfl rfl fun a35 hE35 => ?_
  clear hE34 a34
  refine wpList_nil ?_
  refine hK32 _ _ ?_
  clear hK32
  refine wp_if_f hE35 55 rfl ?_
  refine wp_seq_k fun K36 hK36 => ?_
  refine wp_region_lit ?_
  refine seq_pure hE35 60 (.tuple #[.pointer none, .bool false]) (fun w => by kernel_rfl) rfl rfl rfl rfl rfl fun a37 hE37 => ?_
  clear hE35 a35
  refine seq_pure hE37 61 (.bool false) (fun w => by kernel_rfl) rfl rfl rfl rfl rfl fun a38 hE38 => ?_
  clear hE37 a37
  refine seq_pure hE38 62 (.pointer none) (fun w => by kernel_rfl) rfl rfl rfl rfl rfl fun a39 hE39 => ?_
  clear hE38 a38
  refine wpList_nil ?_
  refine hK36 _ _ ?_
  clear hK36
  refine wp_if_f hE39 61 rfl ?_
  refine wp_seq_k fun K40 hK40 => ?_
  refine wp_region_lit ?_
  refine seq_pure hE39 66 (.tuple #[.pointer none, .bool false]) (fun w => by kernel_rfl) rfl rfl rfl rfl rfl fun a41 hE41 => ?_
  clear hE39 a39
  refine seq_pure hE41 67 (.bool false) (fun w => by kernel_rfl) rfl rfl rfl rfl rfl fun a42 hE42 => ?_
  clear hE41 a41
  refine seq_pure hE42 68 (.pointer none) (fun w => by kernel_rfl) rfl rfl rfl rfl rfl fun a43 hE43 => ?_
  clear hE42 a42
  refine wpList_nil ?_
  refine hK40 _ _ ?_
  clear hK40
  refine wp_if_f hE43 67 rfl ?_
  refine wp_seq_k fun K44 hK44 => ?_
  refine wp_region_lit ?_
  refine seq_pure hE43 72 (.tuple #[.pointer (some ⟨g, 0, none⟩), .bool true]) (fun w => by kernel_rfl) rfl rfl rfl rfl rfl fun a45 hE45 => ?_
  clear hE43 a43
  refine seq_pure hE45 73 (.bool true) (fun w => by kernel_rfl) rfl rfl rfl rfl rfl fun a46 hE46 => ?_
  clear hE45 a45
  refine seq_pure hE46 74 (.pointer (some ⟨g, 0, none⟩)) (fun w => by kernel_rfl) rfl rfl rfl rfl rfl fun a47 hE47 => ?_
  clear hE46 a46
  refine wpList_nil ?_
  refine hK44 _ _ ?_
  clear hK44
  refine wp_if_t hE47 73 rfl ?_
  refine wp_seq_k fun K48 hK48 => ?_
  refine wp_region_lit ?_
  refine seq_pure hE47 12 (.pointer (some ⟨g, 0, none⟩)) (fun w => by kernel_rfl) rfl rfl rfl rfl rfl fun a49 hE49 => ?_
  clear hE47 a47
  refine wpList_nil ?_
  refine hK48 _ _ ?_
  clear hK48
  refine wp_region_lit ?_
  refine seq_pure hE49 75 (.pointer (some ⟨g, 0, none⟩)) (fun w => by kernel_rfl) rfl rfl rfl rfl rfl fun a50 hE50 => ?_
  clear hE49 a49
  refine wpList_val hE50 76 rfl rfl fun K hK => ?_
  have e75 := hE50.get 75 rfl
  go_simp
  refine hC5.mono ?_
  rintro e w6 ⟨rfl, hB6⟩
  refine hK _ _ fun a51 hE51 => ?_
  clear hK K e75
  clear hE50 a50
  have hS52 := hS7.still hB6
  clear hB6 hS7
  refine wpList_val hE51 77 rfl rfl fun K hK => ?_
  have e76 := hE51.get 76 rfl
  go_simp
  refine (plainHeader_any _ _ _ _ w6).mono ?_
  rintro e w7 ⟨rfl, hB7⟩
  refine hK _ _ fun a53 hE53 => ?_
  clear hK K e76
  clear hE51 a51
  have hS54 := hS52.still hB7
  clear hB7 hS52
  refine seq_storeN hE53 hS54 102 (new := #[.bool false, .int .u8 c, .int .u8 t, .int .u16 (((n : Int) / 4 - 1) % 65536)]) (by simp [Value.oneCell']) rfl rfl rfl rfl rfl (by kernel_rfl) rfl rfl rfl fun u1 hS55 => ?_
  clear hS54
  clear w7
  refine wpList_nil ?_
  refine hK3 _ _ ?_
  clear hK3
  refine wp_seq_k fun K56 hK56 => ?_
  refine wp_region_lit ?_
  refine seq_pure hE53 2 (.bool true) (fun w => by kernel_rfl) rfl rfl rfl rfl rfl fun a57 hE57 => ?_
  clear hE53 a53
  refine wpList_nil ?_
  refine hK56 _ _ ?_
  clear hK56
  refine wp_ret ?_
  try simp only [Exit.inBlock, Exit.then]
  refine bodyPost_ret (v := .bool true) (by simp [results, Tryz.results21, go_sem, hE57.get 2 rfl]) hE57.defers ⟨rfl, hS55.keep (L' := [(102, some (ckB (g1) 44 #[.bool false, .int .u8 c, .int .u8 t, .int .u16 (((n : Int) / 4 - 1) % 65536)])), (101, some (ckB (g0) 56 (q.cells)))]) ⟨rfl, rfl, trivial⟩⟩

set_option maxHeartbeats 2000000 in
set_option maxRecDepth 100000 in
theorem headerClo_ReceiverEstimatedMaximumBitrate (q : Pkt) (g0 g1 B0 : Nat) (c t : Int) (n : Nat) (w : World) (h0 : Blk w g0 56 q.cells) (h1 : Blk w g1 44 hdrZ) (h01 : g1 ≠ g0) (hB0 : B0 ≤ g0) (hB1 : B0 ≤ g1)
    (hb : ∀ w', Below B0 w w' → Calls Tryz.prog 22 #[.agg q.cells] w' fun e w'' => ∃ g, e = .returned (.iface 94 (.pointer (some ⟨g, 0, none⟩))) ∧ Below w'.heap.size w' w'' ∧ Calls Tryz.prog 34 #[.pointer (some ⟨g, 0, none⟩)] w'' fun e w3 => e = .returned (.agg (hdrA c t n)) ∧ Below w''.heap.size w'' w3) :
    Calls Tryz.prog 21 #[.pointer (some ⟨g0, 0, none⟩), .pointer (some ⟨g1, 0, none⟩)] w fun e w' => e = .returned (.bool true) ∧ Stp (fun x => x = g1 ∨ x = g0) w w' (lookM [(102, some (ckB g1 44 (hdrA c t n))), (101, some (ckB g0 56 q.cells))]) := by
  refine calls_of_wp Tryz.func21 rfl ?_
  rw [Tryz.ntmps21]
  have hE0 : Env 92 [(0, .pointer (some ⟨g0, 0, none⟩)), (1, .pointer (some ⟨g1, 0, none⟩))] ⟨#[.pointer (some ⟨g0, 0, none⟩), .pointer (some ⟨g1, 0, none⟩)] ++ Array.replicate (92 - (#[.pointer (some ⟨g0, 0, none⟩), .pointer (some ⟨g1, 0, none⟩)] : Array Value).size) undef, []⟩ := Env.enter _ (by simp) ⟨by simp, by simp, trivial⟩
  generalize (⟨#[.pointer (some ⟨g0, 0, none⟩), .pointer (some ⟨g1, 0, none⟩)] ++ Array.replicate (92 - (#[.pointer (some ⟨g0, 0, none⟩), .pointer (some ⟨g1, 0, none⟩)] : Array Value).size) undef, []⟩ : Act) = a0 at hE0 ⊢
  have hS0 : Stp (fun x => x = g1 ∨ x = g0) w w (lookM [(102, some (ckB g1 44 #[.bool false, .int .u8 0, .int .u8 0, .int .u16 0])), (101, some (ckB g0 56 q.cells))]) := stp_start2 102 101 h1 h0 h01
  refine wp_seq_k fun K1 hK1 => ?_
  refine wp_region_lit ?_
  refine seq_pure hE0 2 (.bool false) (fun w => by kernel_rfl) rfl rfl rfl rfl rfl fun a2 hE2 => ?_
  clear hE0 a0
  refine wpList_nil ?_
  refine hK1 _ _ ?_
  clear hK1
  refine wp_seq_k fun K3 hK3 => ?_
  refine wp_seq_k fun K4 hK4 => ?_
  refine wp_region_lit ?_
  refine seq_loadN hE2 hS0 16 101 Tryz.underlying56 (by kernel_rfl) rfl rfl rfl rfl rfl rfl rfl fun a5 hE5 => ?_
  clear hE2 a2
  refine wpList_val hE5 17 rfl rfl fun K hK => ?_
  have e16 := hE5.get 16 rfl
  go_simp
  refine (hb w (hS0.old B0 (Nat.le_trans hB0 (Nat.le_of_lt h0.lt)) (fun _ e => by rcases e with rfl | rfl <;> assumption))).mono ?_
  rintro e w5 ⟨g, rfl, hB5, hC5⟩
  refine hK _ _ fun a6 hE6 => ?_
  clear hK K e16
  clear hE5 a5
  have hS7 := hS0.still hB5
  clear hB5 hS0
  refine wpList_nil ?_
  refine hK4 _ _ ?_
  clear hK4
  refine wp_block ?_
  refine wp_seq_k fun K8 hK8 => ?_
  refine wp_region_lit ?_
  refine seq_pure hE6 18 (.tuple #[.pointer none, .bool false]) (fun w => by kernel_rfl) rfl rfl rfl rfl rfl fun a9 hE9 => ?_
  clear hE6 a6
  refine seq_pure hE9 19 (.bool false) (fun w => by kernel_rfl) rfl rfl rfl rfl rfl fun a10 hE10 => ?_
  clear hE9 a9
  refine seq_pure hE10 20 (.pointer none) (fun w => by kernel_rfl) rfl rfl rfl rfl rfl fun a11 hE11 => ?_
  clear hE10 a10
  refine wpList_nil ?_
  refine hK8 _ _ ?_
  clear hK8
  refine wp_if_f hE11 19 rfl ?_
  refine wp_seq_k fun K12 hK12 => ?_
  refine wp_region_lit ?_
  refine seq_pure hE11 24 (.tuple #[.pointer none, .bool false]) (fun w => by kernel_rfl) rfl rfl rfl rfl rfl fun a13 hE13 => ?_
  clear hE11 a11
  refine seq_pure hE13 25 (.bool false) (fun w => by kernel_rfl) rfl rfl rfl rfl rfl fun a14 hE14 => ?_
  clear hE13 a13
  refine seq_pure hE14 26 (.pointer none) (fun w => by kernel_rfl) rfl rfl rfl rfl rfl fun a15 hE15 => ?_
  clear hE14 a14
  refine wpList_nil ?_
  refine hK12 _ _ ?_
  clear hK12
  refine wp_if_f hE15 25 rfl ?_
  refine wp_seq_k fun K16 hK16 => ?_
  refine wp_region_lit ?_
  refine seq_pure hE15 30 (.tuple #[.pointer none, .bool false]) (fun w => by kernel_rfl) rfl rfl rfl rfl rfl fun a17 hE17 => ?_
  clear hE15 a15
  refine seq_pure hE17 31 (.bool false) (fun w => by kernel_rfl) rfl rfl rfl rfl rfl fun a18 hE18 => ?_
  clear hE17 a17
  refine seq_pure hE18 32 (.pointer none) (fun w => by kernel_rfl) rfl rfl rfl rfl rfl fun a19 hE19 => ?_
  clear hE18 a18
  refine wpList_nil ?_
  refine hK16 _ _ ?_
  clear hK16
  refine wp_if_f hE19 31 rfl ?_
  refine wp_seq_k fun K20 hK20 => ?_
  refine wp_region_lit ?_
  refine seq_pure hE19 36 (.tuple #[.pointer none, .bool false]) (fun w => by kernel_rfl) rfl rfl rfl rfl rfl fun a21 hE21 => ?_
  clear hE19 a19
  refine seq_pure hE21 37 (.bool false) (fun w => by kernel_rfl) rfl rfl rfl rfl rfl fun a22 hE22 => ?_
  clear hE21 a21
  refine seq_pure hE22 38 (.pointer none) (fun w => by kernel_rfl) rfl rfl rfl rfl rfl fun a23 hE23 => ?_
  clear hE22 a22
  refine wpList_nil ?_
  refine hK20 _ _ ?_
  clear hK20
  refine wp_if_f hE23 37 rfl ?_
  refine wp_seq_k fun K24 hK24 => ?_
  refine wp_region_lit ?_
  refine seq_pure hE23 42 (.tuple #[.pointer none, .bool false]) (fun w => by kernel_rfl) rfl rfl rfl rfl rfl fun a25 hE25 => ?_
  clear hE23 a23
  refine seq_pure hE25 43 (.bool false) (fun w => by kernel_rfl) rfl rfl rfl rfl rfl fun a26 hE26 => ?_
  clear hE25 a25
  refine seq_pure hE26 44 (.pointer none) (fun w => by kernel_rfl) rfl rfl rfl rfl rfl fun a27 hE27 => ?_
  clear hE26 a26
  refine wpList_nil ?_
  refine hK24 _ _ ?_
  clear hK24
  refine wp_if_f hE27 43 rfl ?_
  refine wp_seq_k fun K28 hK28 => ?_
  refine wp_region_lit ?_
  refine seq_pure hE27 48 (.tuple #[.pointer none, .bool false]) (fun w => by kernel_rfl) rfl rfl rfl rfl rfl fun a29 hE29 => ?_
  clear hE27 a27
  refine seq_pure hE29 49 (.bool false) (fun w => by kernel_rfl) rfl rfl rfl rfl rfl fun a30 hE30 => ?_
  clear hE29 a29
  refine seq_pure hE30 50 (.pointer none) (fun w => by kernel_rfl) rfl rfl rfl rfl rfl fun a31 hE31 => ?_
  clear hE30 a30
  refine wpList_nil ?_
  refine hK28 _ _ ?_
  clear hK28
  refine wp_if_f hE31 49 rfl ?_
  refine wp_seq_k fun K32 hK32 => ?_
  refine wp_region_lit ?_
  refine seq_pure hE31 54 (.tuple #[.pointer none, .bool false]) (fun w => by kernel_rfl) rfl rfl rfl rfl rfl fun a33 hE33 => ?_
  clear hE31 a31
  refine seq_pure hE33 55 (.bool false) (fun w => by kernel_rfl) rfl rfl rfl rfl rfl fun a34 hE34 => ?_
  clear hE33 a33
  refine seq_pure hE34 56 (.pointer none) (fun w => by kernel_rfl) rfl rfl rfl rfl rfl fun a35 hE35 => ?_
  clear hE34 a34
  refine wpList_nil ?_
  refine hK32 _ _ ?_
  clear hK32
  refine wp_if_f hE35 55 rfl ?_
  refine wp_seq_k fun K36 hK36 => ?_
  refine wp_region_lit ?_
  refine seq_pure hE35 60 (.tuple #[.pointer none, .bool false]) (fun w => by kernel_rfl) rfl rfl rfl rfl rfl fun a37 hE37 => ?_
  clear hE35 a35
  refine seq_pure hE37 61 (.bool false) (fun w => by kernel_rfl) rfl rfl rfl rfl rfl fun a38 hE38 => ?_
  clear hE37 a37
  refine seq_pure hE38 62 (.pointer none) (fun w => by kernel_rfl) rfl rfl rfl rfl rfl fun a39 hE39 => ?_
  clear hE38 a38
  refine wpList_nil ?_
  refine hK36 _ _ ?_
  clear hK36
  refine wp_if_f hE39 61 rfl ?_
  refine wp_seq_k fun K40 hK40 => ?_
  refine wp_region_lit ?_
  refine seq_pure hE39 66 (.tuple #[.pointer none, .bool false]) (fun w => by kernel_rfl) rfl rfl rfl rfl rfl fun a41 hE41 => ?_
  clear hE39 a39
  refine seq_pure hE41 67 (.bool false) (fun w => by kernel_rfl) rfl rfl rfl rfl rfl fun a42 hE42 => ?_
  clear hE41 a41
  refine seq_pure hE42 68 (.pointer none) (fun w => by kernel_rfl) rfl rfl rfl rfl rfl fun a43 hE43 => ?_
  clear hE42 a42
  refine wpList_nil ?_
  refine hK40 _ _ ?_
  clear hK40
  refine wp_if_f hE43 67 rfl ?_
  refine wp_seq_k fun K44 hK44 => ?_
  refine wp_region_lit ?_
  refine seq_pure hE43 72 (.tuple #[.pointer none, .bool false]) (fun w => by kernel_rfl) rfl rfl rfl rfl rfl fun a45 hE45 => ?_
  clear hE43 a43
  refine seq_pure hE45 73 (.bool false) (fun w => by kernel_rfl) rfl rfl rfl rfl rfl fun a46 hE46 => ?_
  clear hE45 a45
  refine seq_pure hE46 74 (.pointer none) (fun w => by kernel_rfl) rfl rfl rfl rfl rfl fun a47 hE47 => ?_
  clear hE46 a46
  refine wpList_nil ?_
  refine hK44 _ _ ?_
  clear hK44
  refine wp_if_f hE47 73 rfl ?_
  refine wp_seq_k fun K48 hK48 => ?_
  refine wp_region_lit ?_
  refine seq_pure hE47 78 (.tuple #[.pointer (some ⟨g, 0, none⟩), .bool true]) (fun w => by kernel_rfl) rfl rfl rfl rfl rfl fun a49 hE49 => ?_
  clear hE47 a47
  refine seq_pure hE49 79 (.bool true) (fun w => by kernel_rfl) rfl rfl rfl rfl rfl fun a50 hE50 => ?_
  clear hE49 a49
  refine seq_pure hE50 80 (.pointer (some ⟨g, 0, none⟩)) (fun w => by kernel_rfl) rfl rfl rfl rfl rfl fun a51 hE51 => ?_
  clear hE50 a50
  refine wpList_nil ?_
  refine hK48 _ _ ?_
  clear hK48
  refine wp_if_t hE51 79 rfl ?_
  refine wp_seq_k fun K52 hK52 => ?_
  refine wp_region_lit ?_
  refine seq_pure hE51 13 (.pointer (some ⟨g, 0, none⟩)) (fun w => by kernel_rfl) rfl rfl rfl rfl rfl fun a53 hE53 => ?_
  clear hE51 a51
  refine wpList_nil ?_
  refine hK52 _ _ ?_
  clear hK52
  refine wp_region_lit ?_
  refine seq_pure hE53 81 (.pointer (some ⟨g, 0, none⟩)) (fun w => by kernel_rfl) rfl rfl rfl rfl rfl fun a54 hE54 => ?_
  clear hE53 a53
  refine wpList_val hE54 82 rfl rfl fun K hK => ?_
  have e81 := hE54.get 81 rfl
  go_simp
  refine hC5.mono ?_
  rintro e w6 ⟨rfl, hB6⟩
  refine hK _ _ fun a55 hE55 => ?_
  clear hK K e81
  clear hE54 a54
  have hS56 := hS7.still hB6
  clear hB6 hS7
  refine wpList_val hE55 83 rfl rfl fun K hK => ?_
  have e82 := hE55.get 82 rfl
  go_simp
  refine (plainHeader_any _ _ _ _ w6).mono ?_
  rintro e w7 ⟨rfl, hB7⟩
  refine hK _ _ fun a57 hE57 => ?_
  clear hK K e82
  clear hE55 a55
  have hS58 := hS56.still hB7
  clear hB7 hS56
  refine seq_storeN hE57 hS58 102 (new := #[.bool false, .int .u8 c, .int .u8 t, .int .u16 (((n : Int) / 4 - 1) % 65536)]) (by simp [Value.oneCell']) rfl rfl rfl rfl rfl (by kernel_rfl) rfl rfl rfl fun u1 hS59 => ?_
  clear hS58
  clear w7
  refine wpList_nil ?_
  refine hK3 _ _ ?_
  clear hK3
  refine wp_seq_k fun K60 hK60 => ?_
  refine wp_region_lit ?_
  refine seq_pure hE57 2 (.bool true) (fun w => by kernel_rfl) rfl rfl rfl rfl rfl fun a61 hE61 => ?_
  clear hE57 a57
  refine wpList_nil ?_
  refine hK60 _ _ ?_
  clear hK60
  refine wp_ret ?_
  try simp only [Exit.inBlock, Exit.then]
  refine bodyPost_ret (v := .bool true) (by simp [results, Tryz.results21, go_sem, hE61.get 2 rfl]) hE61.defers ⟨rfl, hS59.keep (L' := [(102, some (ckB (g1) 44 #[.bool false, .int .u8 c, .int .u8 t, .int .u16 (((n : Int) / 4 - 1) % 65536)])), (101, some (ckB (g0) 56 (q.cells)))]) ⟨rfl, rfl, trivial⟩⟩

set_option maxHeartbeats 2000000 in
set_option maxRecDepth 100000 in
theorem headerClo_App (q : Pkt) (g0 g1 B0 : Nat) (w : World) (h0 : Blk w g0 56 q.cells) (h1 : Blk w g1 44 hdrZ) (h01 : g1 ≠ g0) (hB0 : B0 ≤ g0) (hB1 : B0 ≤ g1)
    (hb : ∀ w', Below B0 w w' → Calls Tryz.prog 22 #[.agg q.cells] w' fun e w'' => ∃ g, e = .returned (.iface 168 (.pointer (some ⟨g, 0, none⟩))) ∧ Below w'.heap.size w' w'') :
    Calls Tryz.prog 21 #[.pointer (some ⟨g0, 0, none⟩), .pointer (some ⟨g1, 0, none⟩)] w fun e w' => e = .returned (.bool false) ∧ Stp (fun x => x = g1 ∨ x = g0) w w' (lookM [(102, some (ckB g1 44 hdrZ)), (101, some (ckB g0 56 q.cells))]) := by
  refine calls_of_wp Tryz.func21 rfl ?_
  rw [Tryz.ntmps21]
  have hE0 : Env 92 [(0, .pointer (some ⟨g0, 0, none⟩)), (1, .pointer (some ⟨g1, 0, none⟩))] ⟨#[.pointer (some ⟨g0, 0, none⟩), .pointer (some ⟨g1, 0, none⟩)] ++ Array.replicate (92 - (#[.pointer (some ⟨g0, 0, none⟩), .pointer (some ⟨g1, 0, none⟩)] : Array Value).size) undef, []⟩ := Env.enter _ (by simp) ⟨by simp, by simp, trivial⟩
  generalize (⟨#[.pointer (some ⟨g0, 0, none⟩), .pointer (some ⟨g1, 0, none⟩)] ++ Array.replicate (92 - (#[.pointer (some ⟨g0, 0, none⟩), .pointer (some ⟨g1, 0, none⟩)] : Array Value).size) undef, []⟩ : Act) = a0 at hE0 ⊢
  have hS0 : Stp (fun x => x = g1 ∨ x = g0) w w (lookM [(102, some (ckB g1 44 #[.bool false, .int .u8 0, .int .u8 0, .int .u16 0])), (101, some (ckB g0 56 q.cells))]) := stp_start2 102 101 h1 h0 h01
  refine wp_seq_k fun K1 hK1 => ?_
  refine wp_region_lit ?_
  refine seq_pure hE0 2 (.bool false) (fun w => by kernel_rfl) rfl rfl rfl rfl rfl fun a2 hE2 => ?_
  clear hE0 a0
  refine wpList_nil ?_
  refine hK1 _ _ ?_
  clear hK1
  refine wp_seq_k fun K3 hK3 => ?_
  refine wp_seq_k fun K4 hK4 => ?_
  refine wp_region_lit ?_
  refine seq_loadN hE2 hS0 16 101 Tryz.underlying56 (by kernel_rfl) rfl rfl rfl rfl rfl rfl rfl fun a5 hE5 => ?_
  clear hE2 a2
  refine wpList_val hE5 17 rfl rfl fun K hK => ?_
  have e16 := hE5.get 16 rfl
  go_simp
  refine (hb w (hS0.old B0 (Nat.le_trans hB0 (Nat.le_of_lt h0.lt)) (fun _ e => by rcases e with rfl | rfl <;> assumption))).mono ?_
  rintro e w5 ⟨g, rfl, hB5⟩
  refine hK _ _ fun a6 hE6 => ?_
  clear hK K e16
  clear hE5 a5
  have hS7 := hS0.still hB5
  clear hB5 hS0
  refine wpList_nil ?_
  refine hK4 _ _ ?_
  clear hK4
  refine wp_block ?_
  refine wp_seq_k fun K8 hK8 => ?_
  refine wp_region_lit ?_
  refine seq_pure hE6 18 (.tuple #[.pointer none, .bool false]) (fun w => by kernel_rfl) rfl rfl rfl rfl rfl fun a9 hE9 => ?_
  clear hE6 a6
  refine seq_pure hE9 19 (.bool false) (fun w => by kernel_rfl) rfl rfl rfl rfl rfl fun a10 hE10 => ?_
  clear hE9 a9
  refine seq_pure hE10 20 (.pointer none) (fun w => by kernel_rfl) rfl rfl rfl rfl rfl fun a11 hE11 => ?_
  clear hE10 a10
  refine wpList_nil ?_
  refine hK8 _ _ ?_
  clear hK8
  refine wp_if_f hE11 19 rfl ?_
  refine wp_seq_k fun K12 hK12 => ?_
  refine wp_region_lit ?_
  refine seq_pure hE11 24 (.tuple #[.pointer none, .bool false]) (fun w => by kernel_rfl) rfl rfl rfl rfl rfl fun a13 hE13 => ?_
  clear hE11 a11
  refine seq_pure hE13 25 (.bool false) (fun w => by kernel_rfl) rfl rfl rfl rfl rfl fun a14 hE14 => ?_
  clear hE13 a13
  refine seq_pure hE14 26 (.pointer none) (fun w => by kernel_rfl) rfl rfl rfl rfl rfl fun a15 hE15 => ?_
  clear hE14 a14
  refine wpList_nil ?_
  refine hK12 _ _ ?_
  clear hK12
  refine wp_if_f hE15 25 rfl ?_
  refine wp_seq_k fun K16 hK16 => ?_
  refine wp_region_lit ?_
  refine seq_pure hE15 30 (.tuple #[.pointer none, .bool false]) (fun w => by kernel_rfl) rfl rfl rfl rfl rfl fun a17 hE17 => ?_
  clear hE15 a15
  refine seq_pure hE17 31 (.bool false) (fun w => by kernel_rfl) rfl rfl rfl rfl rfl fun a18 hE18 => ?_
  clear hE17 a17
  refine seq_pure hE18 32 (.pointer none) (fun w => by kernel_rfl) rfl rfl rfl rfl rfl fun a19 hE19 => ?_
  clear hE18 a18
  refine wpList_nil ?_
  refine hK16 _ _ ?_
  clear hK16
  refine wp_if_f hE19 31 rfl ?_
  refine wp_seq_k fun K20 hK20 => ?_
  refine wp_region_lit ?_
  refine seq_pure hE19 36 (.tuple #[.pointer none, .bool false]) (fun w => by kernel_rfl) rfl rfl rfl rfl rfl fun a21 hE21 => ?_
  clear hE19 a19
  refine seq_pure hE21 37 (.bool false) (fun w => by kernel_rfl) rfl rfl rfl rfl rfl fun a22 hE22 => ?_
  clear hE21 a21
  refine seq_pure hE22 38 (.pointer none) (fun w => by kernel_rfl) rfl rfl rfl rfl rfl fun a23 hE23 => ?_
  clear hE22 a22
  refine wpList_nil ?_
  refine hK20 _ _ ?_
  clear hK20
  refine wp_if_f hE23 37 rfl ?_
  refine wp_seq_k fun K24 hK24 => ?_
  refine wp_region_lit ?_
  refine seq_pure hE23 42 (.tuple #[.pointer none, .bool false]) (fun w => by kernel_rfl) rfl rfl rfl rfl rfl fun a25 hE25 => ?_
  clear hE23 a23
  refine seq_pure hE25 43 (.bool false) (fun w => by kernel_rfl) rfl rfl rfl rfl rfl fun a26 hE26 => ?_
  clear hE25 a25
  refine seq_pure hE26 44 (.pointer none) (fun w => by kernel_rfl) rfl rfl rfl rfl rfl fun a27 hE27 => ?_
  clear hE26 a26
  refine wpList_nil ?_
  refine hK24 _ _ ?_
  clear hK24
  refine wp_if_f hE27 43 rfl ?_
  refine wp_seq_k fun K28 hK28 => ?_
  refine wp_region_lit ?_
  refine seq_pure hE27 48 (.tuple #[.pointer none, .bool false]) (fun w => by kernel_rfl) rfl rfl rfl rfl rfl fun a29 hE29 => ?_
  clear hE27 a27
  refine seq_pure hE29 49 (.bool false) (fun w => by kernel_rfl) rfl rfl rfl rfl rfl fun a30 hE30 => ?_
  clear hE29 a29
  refine seq_pure hE30 50 (.pointer none) (fun w => by kernel_rfl) rfl rfl rfl rfl rfl fun a31 hE31 => ?_
  clear hE30 a30
  refine wpList_nil ?_
  refine hK28 _ _ ?_
  clear hK28
  refine wp_if_f hE31 49 rfl ?_
  refine wp_seq_k fun K32 hK32 => ?_
  refine wp_region_lit ?_
  refine seq_pure hE31 54 (.tuple #[.pointer none, .bool false]) (fun w => by kernel_rfl) rfl rfl rfl rfl rfl fun a33 hE33 => ?_
  clear hE31 a31
  refine seq_pure hE33 55 (.bool false) (fun w => by kernel_rfl) rfl rfl rfl rfl rfl fun a34 hE34 => ?_
  clear hE33 a33
  refine seq_pure hE34 56 (.pointer none) (fun w => by kernel_rfl) rfl rfl rfl rfl rfl fun a35 hE35 => ?_
  clear hE34 a34
  refine wpList_nil ?_
  refine hK32 _ _ ?_
  clear hK32
  refine wp_if_f hE35 55 rfl ?_
  refine wp_seq_k fun K36 hK36 => ?_
  refine wp_region_lit ?_
  refine seq_pure hE35 60 (.tuple #[.pointer none, .bool false]) (fun w => by kernel_rfl) rfl rfl rfl rfl rfl fun a37 hE37 => ?_
  clear hE35 a35
  refine seq_pure hE37 61 (.bool false) (fun w => by kernel_rfl) rfl rfl rfl rfl rfl fun a38 hE38 => ?_
  clear hE37 a37
  refine seq_pure hE38 62 (.pointer none) (fun w => by kernel_rfl) rfl rfl rfl rfl rfl fun a39 hE39 => ?_
  clear hE38 a38
  refine wpList_nil ?_
  refine hK36 _ _ ?_
  clear hK36
  refine wp_if_f hE39 61 rfl ?_
  refine wp_seq_k fun K40 hK40 => ?_
  refine wp_region_lit ?_
  refine seq_pure hE39 66 (.tuple #[.pointer none, .bool false]) (fun w => by kernel_rfl) rfl rfl rfl rfl rfl fun a41 hE41 => ?_
  clear hE39 a39
  refine seq_pure hE41 67 (.bool false) (fun w => by kernel_rfl) rfl rfl rfl rfl rfl fun a42 hE42 => ?_
  clear hE41 a41
  refine seq_pure hE42 68 (.pointer none) (fun w => by kernel_rfl) rfl rfl rfl rfl rfl fun a43 hE43 => ?_
  clear hE42 a42
  refine wpList_nil ?_
  refine hK40 _ _ ?_
  clear hK40
  refine wp_if_f hE43 67 rfl ?_
  refine wp_seq_k fun K44 hK44 => ?_
  refine wp_region_lit ?_
  refine seq_pure hE43 72 (.tuple #[.pointer none, .bool false]) (fun w => by kernel_rfl) rfl rfl rfl rfl rfl fun a45 hE45 => ?_
  clear hE43 a43
  refine seq_pure hE45 73 (.bool false) (fun w => by kernel_rfl) rfl rfl rfl rfl rfl fun a46 hE46 => ?_
  clear hE45 a45
  refine seq_pure hE46 74 (.pointer none) (fun w => by kernel_rfl) rfl rfl rfl rfl rfl fun a47 hE47 => ?_
  clear hE46 a46
  refine wpList_nil ?_
  refine hK44 _ _ ?_
  clear hK44
  refine wp_if_f hE47 73 rfl ?_
  refine wp_seq_k fun K48 hK48 => ?_
  refine wp_region_lit ?_
  refine seq_pure hE47 78 (.tuple #[.pointer none, .bool false]) (fun w => by kernel_rfl) rfl rfl rfl rfl rfl fun a49 hE49 => ?_
  clear hE47 a47
  refine seq_pure hE49 79 (.bool false) (fun w => by kernel_rfl) rfl rfl rfl rfl rfl fun a50 hE50 => ?_
  clear hE49 a49
  refine seq_pure hE50 80 (.pointer none) (fun w => by kernel_rfl) rfl rfl rfl rfl rfl fun a51 hE51 => ?_
  clear hE50 a50
  refine wpList_nil ?_
  refine hK48 _ _ ?_
  clear hK48
  refine wp_if_f hE51 79 rfl ?_
  refine wp_seq_k fun K52 hK52 => ?_
  refine wp_region_lit ?_
  refine seq_pure hE51 84 (.tuple #[.pointer none, .bool false]) (fun w => by kernel_rfl) rfl rfl rfl rfl rfl fun a53 hE53 => ?_
  clear hE51 a51
  refine seq_pure hE53 85 (.bool false) (fun w => by kernel_rfl) rfl rfl rfl rfl rfl fun a54 hE54 => ?_
  clear hE53 a53
  refine seq_pure hE54 86 (.pointer none) (fun w => by kernel_rfl) rfl rfl rfl rfl rfl fun a55 hE55 => ?_
  clear hE54 a54
  refine wpList_nil ?_
  refine hK52 _ _ ?_
  clear hK52
  refine wp_if_f hE55 85 rfl ?_
  refine wp_seq_k fun K56 hK56 => ?_
  refine wp_region_lit ?_
  refine seq_pure hE55 15 (.iface 168 (.pointer (some ⟨g, 0, none⟩))) (fun w => by kernel_rfl) rfl rfl rfl rfl rfl fun a57 hE57 => ?_
  clear hE55 a55
  refine wpList_nil ?_
  refine hK56 _ _ ?_
  clear hK56
  refine wp_seq_k fun K58 hK58 => ?_
  refine wp_region_lit ?_
  refine seq_pure hE57 2 (.bool false) (fun w => by kernel_rfl) rfl rfl rfl rfl rfl fun a59 hE59 => ?_
  clear hE57 a57
  refine wpList_nil ?_
  refine hK58 _ _ ?_
  clear hK58
  refine wp_ret ?_
  try simp only [Exit.inBlock, Exit.then]
  refine bodyPost_ret (v := .bool false) (by simp [results, Tryz.results21, go_sem, hE59.get 2 rfl]) hE59.defers ⟨rfl, hS7.keep (L' := [(102, some (ckB (g1) 44 #[.bool false, .int .u8 0, .int .u8 0, .int .u16 0])), (101, some (ckB (g0) 56 (q.cells)))]) ⟨rfl, rfl, trivial⟩⟩

end Go.Proofs.YtmmfpgoodfgkbaaGreatDoor
