/-
  THE WALK of the law on the header of a packet. Condition: the contracts of the reference's writing and of the thin package's header.
-/
import Derived.Test.YtmmfpgoodfgkbaaGreatDoorHdrK
import Derived.Test.YtmmfpgoodfgkbaaGreatDoorLegalRaw
import Derived.Test.YtmmfpgoodfgkbaaGreatDoorGivenA
import Derived.Test.YtmmfpgoodfgkbaaGreatDoorFits1
namespace Go.Proofs.YtmmfpgoodfgkbaaGreatDoor
open Go Go.RowKit
set_option linter.unusedVariables false

theorem bits_hdr : ∀ c : Fin 32, bits .and .u8 (128 + (c.val : Int)) 32 = 0 ∧ bits .and .u8 (128 + (c.val : Int)) 31 = (c.val : Int) := by decide
theorem hdr_back (count type : Int) (bs : List Int) (h0 : 0 ≤ count) (h1 : count ≤ 31) (hl : bs.length ≤ 131068) : hdrR (hdrB count type (((bs.length : Nat) : Int) / 4) ++ bs) = hdrA count type (4 + bs.length) := by
  obtain ⟨c, rfl⟩ := Int.eq_ofNat_of_zero_le h0
  have hb := bits_hdr ⟨c, by omega⟩
  have e0 : gi (hdrB (c : Int) type (((bs.length : Nat) : Int) / 4) ++ bs) 0 = 128 + (c : Int) := rfl
  have e1 : gi (hdrB (c : Int) type (((bs.length : Nat) : Int) / 4) ++ bs) 1 = type := rfl
  have e2 : rd16 (hdrB (c : Int) type (((bs.length : Nat) : Int) / 4) ++ bs) 2 = ((bs.length : Nat) : Int) / 4 / 256 * 256 + ((bs.length : Nat) : Int) / 4 % 256 := rfl
  unfold hdrR hdrA
  rw [e0, e1, e2, hb.1, hb.2]
  have e3 : ((bs.length : Nat) : Int) / 4 / 256 * 256 + ((bs.length : Nat) : Int) / 4 % 256 = (((4 + bs.length : Nat) : Int) / 4 - 1) % 65536 := by omega
  rw [e3]
  rfl
theorem own_cap {w : World} {base size n cap : Nat} {e : TypeId} {a : Addr} {xs : List Value} (h : w.ownsRow base e size (.slice (some a) n cap) n xs) : n ≤ cap := by
  rcases h.2 with ⟨hv, _⟩ | ⟨g', cap', cur, hv, _, _, hle, _⟩
  · cases hv
  · injection hv with _ _ h3
    rw [h3]; exact hle
def pli : Pkt := { Pkt.zero with kind := 9 }
theorem pli_lies (w : World) (B : Nat) : pli.Lies w B :=
  ⟨Reads.none_, Reads.none_, Reads.none_, (fun x hx => by cases hx), Reads.none_, Reads.none_, Reads.none_, Reads.none_, Reads.none_, Reads.none_, (fun x hx => by cases hx), Reads.none_, (fun x hx => by cases hx), Reads.none_⟩
theorem pli_small : pli.Small := by
  refine ⟨⟨?_, ?_, ?_, ?_, ?_, ?_, ?_, ?_, ?_, (fun x hx => by cases hx), (fun x hx => by cases hx)⟩, ?_, (fun x hx => by cases hx), ?_, ?_, ?_, ?_, ?_⟩ <;> decide

set_option maxHeartbeats 4000000 in
set_option maxRecDepth 100000 in
theorem law_kind (p c : Pkt) (count type : Int) (bs : List Int) (ok : Bool) (w : World) (h : p.Lies w w.heap.size) (hcl : c.Lies w w.heap.size) (hcs : c.Short) (hck : (c.kind == 0) = false) (hc0 : 0 ≤ count) (hc1 : count ≤ 31) (ht : 0 ≤ type ∧ type < 256) (hleg : ∀ w', Below w.heap.size w w' → Calls Tryz.prog 6 #[.agg p.cells] w' (Legal w' p c count type bs ok))
    (hhdr : ok = true → ∀ q w', Pkt.Same c q → q.Lies w' w'.heap.size → Calls Tryz.prog 8 #[.agg q.cells] w' fun e w'' => e = .returned (.tuple #[.agg (hdrA count type (4 + bs.length)), .bool true]) ∧ Below w'.heap.size w' w'') :
    Calls Tryz.prog 3 #[.agg p.cells] w fun e w' => e = .returned (.bool true) ∧ Below w.heap.size w w' := by
  have Hck := Lib.hid hck
  clear hck
  refine calls_of_wp Tryz.func3 rfl ?_
  rw [Tryz.ntmps3]
  have hE0 : Env 59 [(0, .agg p.cells)] ⟨#[.agg p.cells] ++ Array.replicate (59 - (#[.agg p.cells] : Array Value).size) undef, []⟩ := Env.enter _ (by simp) ⟨by simp, trivial⟩
  generalize (⟨#[.agg p.cells] ++ Array.replicate (59 - (#[.agg p.cells] : Array Value).size) undef, []⟩ : Act) = a0 at hE0 ⊢
  have hS0 : Stp (fun _ => False) w w (lookM []) := Stp.refl w
  refine wp_seq_k fun K1 hK1 => ?_
  refine wp_region_lit ?_
  refine seq_new hE0 hS0 1 101 (fun g => .pointer (some ⟨g, 0, none⟩)) 38 (p.cells) (fun w => by kernel_rfl) rfl rfl rfl rfl rfl fun a2 u1 g101 hE2 hS2 => ?_
  clear hE0 a0
  clear hS0
  refine seq_pure hE2 2 (.bool false) (fun w => by kernel_rfl) rfl rfl rfl rfl rfl fun a3 hE3 => ?_
  clear hE2 a2
  refine wpList_nil ?_
  refine hK1 _ _ ?_
  clear hK1
  refine wp_seq_k fun K4 hK4 => ?_
  refine wp_seq_k fun K5 hK5 => ?_
  refine wp_region_lit ?_
  refine seq_loadN hE3 hS2 12 101 Tryz.underlying38 (by kernel_rfl) rfl rfl rfl rfl rfl rfl rfl fun a6 hE6 => ?_
  clear hE3 a3
  refine wpList_val hE6 13 rfl rfl fun K hK => ?_
  have e12 := hE6.get 12 rfl
  go_simp
  refine (zzFits1_any p u1 ((h.below (hS2.old _ (Nat.le_refl _) (fun _ h => h.elim))).more hS2.size)).mono ?_
  rintro e w5 ⟨b, rfl, hfit, hB5⟩
  refine hK _ _ fun a7 hE7 => ?_
  clear hK K e12
  clear hE6 a6
  have hS8 := hS2.still hB5
  clear hB5 hS2
  cases b with
  | false =>
    refine wpList_val hE7 14 rfl rfl fun K hK => ?_
    have e13 := hE7.get 13 rfl
    go_simp
    refine hK _ _ fun a9 hE9 => ?_
    clear hK K e13
    clear hE7 a7
    refine wpList_nil ?_
    refine hK5 _ _ ?_
    clear hK5
    refine wp_if_t hE9 14 rfl ?_
    refine wp_seq_k fun K10 hK10 => ?_
    refine wp_region_lit ?_
    refine seq_pure hE9 2 (.bool true) (fun w => by kernel_rfl) rfl rfl rfl rfl rfl fun a11 hE11 => ?_
    clear hE9 a9
    refine wpList_nil ?_
    refine hK10 _ _ ?_
    clear hK10
    refine wp_ret ?_
    try simp only [Exit.then]
    refine bodyPost_ret (v := .bool true) (by simp [results, Tryz.results3, go_sem, hE11.get 2 rfl]) hE11.defers ⟨rfl, hS8.below⟩
  | true =>
    refine wpList_val hE7 14 rfl rfl fun K hK => ?_
    have e13 := hE7.get 13 rfl
    go_simp
    refine hK _ _ fun a9 hE9 => ?_
    clear hK K e13
    clear hE7 a7
    refine wpList_nil ?_
    refine hK5 _ _ ?_
    clear hK5
    refine wp_if_f hE9 14 rfl ?_
    refine wp_skip ?_
    refine hK4 _ _ ?_
    clear hK4
    refine wp_seq_k fun K10 hK10 => ?_
    refine wp_region_lit ?_
    refine seq_loadN hE9 hS8 16 101 Tryz.underlying38 (by kernel_rfl) rfl rfl rfl rfl rfl rfl rfl fun a11 hE11 => ?_
    clear hE9 a9
    refine wpList_val hE11 17 rfl rfl fun K hK => ?_
    have e16 := hE11.get 16 rfl
    go_simp
    refine (hleg w5 (hS8.old _ (Nat.le_refl _) (fun _ h => h.elim))).mono ?_
    intro e w6 hL
    rcases hL with hL | hL
    case inl =>
      obtain ⟨hok, hle, g, cap, rfl, hown, hB6⟩ := hL
      refine hK _ _ fun a12 hE12 => ?_
      clear hK K e16
      clear hE11 a11
      have hS13 := hS8.newR 50 hB6 hown (Nat.le_refl _)
      clear hB6 hown hS8
      refine seq_pure hE12 15 (.tuple #[.agg c.cells, .slice (some ⟨g, 0, none⟩) (4 + bs.length) cap, .bool true]) (fun w => by kernel_rfl) rfl rfl rfl rfl rfl fun a14 hE14 => ?_
      clear hE12 a12
      refine seq_pure hE14 18 (.agg c.cells) (fun w => by kernel_rfl) rfl rfl rfl rfl rfl fun a15 hE15 => ?_
      clear hE14 a14
      refine seq_pure hE15 19 (.slice (some ⟨g, 0, none⟩) (4 + bs.length) cap) (fun w => by kernel_rfl) rfl rfl rfl rfl rfl fun a16 hE16 => ?_
      clear hE15 a15
      refine seq_pure hE16 20 (.bool true) (fun w => by kernel_rfl) rfl rfl rfl rfl rfl fun a17 hE17 => ?_
      clear hE16 a16
      refine seq_new hE17 hS13 3 102 (fun g => .pointer (some ⟨g, 0, none⟩)) 38 #[.int .i64 0, .int .u32 0, .int .u32 0, .int .u64 0, .int .u32 0, .int .u32 0, .int .u32 0, .slice none 0 0, .slice none 0 0, .slice none 0 0, .slice none 0 0, .string ByteArray.empty, .int .u8 0, .slice none 0 0, .slice none 0 0, .slice none 0 0, .slice none 0 0, .int .u32 0, .slice none 0 0, .int .u32 0, .int .u16 0, .int .u16 0, .int .u32 0, .int .u8 0, .slice none 0 0, .slice none 0 0, .bool false, .int .u8 0, .int .u8 0, .int .u16 0] (fun w => by kernel_rfl) rfl rfl rfl rfl rfl fun a18 u2 g102 hE18 hS18 => ?_
      clear hE17 a17
      clear hS13
      clear w6
      refine seq_storeN hE18 hS18 102 (new := c.cells) (by simp [Pkt.cells, Sl.val, Value.oneCell']) rfl rfl rfl rfl rfl (by kernel_rfl) rfl rfl rfl fun u3 hS19 => ?_
      clear hS18
      clear u2
      refine seq_pure hE18 4 (.slice (some ⟨g, 0, none⟩) (4 + bs.length) cap) (fun w => by kernel_rfl) rfl rfl rfl rfl rfl fun a20 hE20 => ?_
      clear hE18 a18
      refine seq_pure hE20 5 (.bool true) (fun w => by kernel_rfl) rfl rfl rfl rfl rfl fun a21 hE21 => ?_
      clear hE20 a20
      refine wpList_nil ?_
      refine hK10 _ _ ?_
      clear hK10
      refine wp_seq_k fun K22 hK22 => ?_
      refine wp_seq_k fun K23 hK23 => ?_
      refine wp_region_lit ?_
      refine seq_pure hE21 21 (.bool true) (fun w => by kernel_rfl) rfl rfl rfl rfl rfl fun a24 hE24 => ?_
      clear hE21 a21
      refine wpList_val hE24 22 rfl rfl fun K hK => ?_
      have e21 := hE24.get 21 rfl
      go_simp
      refine hK _ _ fun a25 hE25 => ?_
      clear hK K e21
      clear hE24 a24
      refine seq_pure hE25 23 (.bool false) (fun w => by kernel_rfl) rfl rfl rfl rfl rfl fun a26 hE26 => ?_
      clear hE25 a25
      refine wpList_gval hE26 24 2 false 23 rfl rfl rfl rfl fun K hK => ?_
      have e3 := hE26.get 3 rfl
      go_simp
      refine hK _ _ fun a27 hE27 => ?_
      clear hK K e3
      clear hE26 a26
      refine wpList_gval hE27 25 2 false 23 rfl rfl rfl rfl fun K hK => ?_
      have e24 := hE27.get 24 rfl
      have cc : u3.cell? ⟨g102, 0, none⟩ = some (.int .i64 c.kind) := (hS19.blk 102 rfl).cell 0
      have cz : g102 < u3.heap.size := (hS19.blk 102 rfl).lt
      go_simp
      refine hK _ _ fun a28 hE28 => ?_
      clear hK K e24
      clear hE27 a27
      clear cc cz
      refine wpList_gval hE28 26 2 false 23 rfl rfl rfl rfl fun K hK => ?_
      have e25 := hE28.get 25 rfl
      have hk0 := Hck.out
      go_simp
      try rw [hk0]
      refine hK _ _ fun a29 hE29 => ?_
      clear hK K e25
      clear hE28 a28
      clear hk0
      refine wpList_val hE29 27 rfl rfl fun K hK => ?_
      have e23 := hE29.get 23 rfl
      have e26 := hE29.get 26 rfl
      go_simp
      refine hK _ _ fun a30 hE30 => ?_
      clear hK K e23 e26
      clear hE29 a29
      refine wpList_nil ?_
      refine hK23 _ _ ?_
      clear hK23
      refine wp_if_f hE30 27 rfl ?_
      refine wp_skip ?_
      refine hK22 _ _ ?_
      clear hK22
      refine wp_seq_k fun K31 hK31 => ?_
      refine wp_region_lit ?_
      refine seq_pure hE30 29 (.slice (some ⟨g, 0, none⟩) (4 + bs.length) cap) (fun w => by kernel_rfl) rfl rfl rfl rfl rfl fun a32 hE32 => ?_
      clear hE30 a30
      refine wpList_val hE32 30 rfl rfl fun K hK => ?_
      have e29 := hE32.get 29 rfl
      have hcap : 4 + bs.length ≤ cap := own_cap (hS19.row 50 rfl)
      go_simp
      refine (readHeader_ok (reads_of_own (hS19.row 50 rfl)) (Nat.le_refl _) (show 0 ≤ 128 + count ∧ 128 + count < 256 by omega) (show 0 ≤ type ∧ type < 256 from ht) (show 0 ≤ ((bs.length : Nat) : Int) / 4 / 256 ∧ ((bs.length : Nat) : Int) / 4 / 256 < 256 by omega) (show 0 ≤ ((bs.length : Nat) : Int) / 4 % 256 ∧ ((bs.length : Nat) : Int) / 4 % 256 < 256 by omega) (by omega) hcap (show (128 + count) / 64 = 2 by omega)).mono ?_
      rintro e w7 ⟨rfl, hB7⟩
      rw [hdr_back count type bs hc0 hc1 (by omega)]
      refine hK _ _ fun a33 hE33 => ?_
      clear hK K e29
      clear hE32 a32
      have hS34 := hS19.still hB7
      clear hB7 hS19
      refine seq_pure hE33 28 (.tuple #[.agg #[.bool false, .int .u8 count, .int .u8 type, .int .u16 (((((4 + bs.length) : Nat) : Int) / 4 - 1) % 65536)], .bool true]) (fun w => by kernel_rfl) rfl rfl rfl rfl rfl fun a35 hE35 => ?_
      clear hE33 a33
      refine wpList_val hE35 31 rfl rfl fun K hK => ?_
      have e28 := hE35.get 28 rfl
      go_simp
      refine hK _ _ fun a36 hE36 => ?_
      clear hK K e28
      clear hE35 a35
      refine wpList_val hE36 32 rfl rfl fun K hK => ?_
      have e28 := hE36.get 28 rfl
      go_simp
      refine hK _ _ fun a37 hE37 => ?_
      clear hK K e28
      clear hE36 a36
      refine seq_new hE37 hS34 6 103 (fun g => .pointer (some ⟨g, 0, none⟩)) 36 #[.bool false, .int .u8 0, .int .u8 0, .int .u16 0] (fun w => by kernel_rfl) rfl rfl rfl rfl rfl fun a38 u4 g103 hE38 hS38 => ?_
      clear hE37 a37
      clear hS34
      clear w7
      refine seq_storeN hE38 hS38 103 (new := #[.bool false, .int .u8 count, .int .u8 type, .int .u16 (((((4 + bs.length) : Nat) : Int) / 4 - 1) % 65536)]) (by simp [Value.oneCell']) rfl rfl rfl rfl rfl (by kernel_rfl) rfl rfl rfl fun u5 hS39 => ?_
      clear hS38
      clear u4
      refine seq_pure hE38 7 (.bool true) (fun w => by kernel_rfl) rfl rfl rfl rfl rfl fun a40 hE40 => ?_
      clear hE38 a38
      refine wpList_nil ?_
      refine hK31 _ _ ?_
      clear hK31
      refine wp_seq_k fun K41 hK41 => ?_
      refine wp_region_lit ?_
      refine seq_loadN hE40 hS39 34 102 Tryz.underlying38 (by kernel_rfl) rfl rfl rfl rfl rfl rfl rfl fun a42 hE42 => ?_
      clear hE40 a40
      refine wpList_val hE42 35 rfl rfl fun K hK => ?_
      have e34 := hE42.get 34 rfl
      go_simp
      refine (given_any c u5 ((hcl.below (hS39.old _ (Nat.le_refl _) (fun _ h => h.elim))).more hS39.size) hcs).mono ?_
      rintro e w8 ⟨q, hsame, rfl, hql, hB8⟩
      refine hK _ _ fun a43 hE43 => ?_
      clear hK K e34
      clear hE42 a42
      have hS44 := hS39.still hB8
      clear hB8 hS39
      refine wpList_val hE43 36 rfl rfl fun K hK => ?_
      have e35 := hE43.get 35 rfl
      go_simp
      refine (hhdr hok q w8 hsame hql).mono ?_
      rintro e w9 ⟨rfl, hB9⟩
      refine hK _ _ fun a45 hE45 => ?_
      clear hK K e35
      clear hE43 a43
      have hS46 := hS44.still hB9
      clear hB9 hS44
      refine seq_pure hE45 33 (.tuple #[.agg #[.bool false, .int .u8 count, .int .u8 type, .int .u16 (((((4 + bs.length) : Nat) : Int) / 4 - 1) % 65536)], .bool true]) (fun w => by kernel_rfl) rfl rfl rfl rfl rfl fun a47 hE47 => ?_
      clear hE45 a45
      refine wpList_val hE47 37 rfl rfl fun K hK => ?_
      have e33 := hE47.get 33 rfl
      go_simp
      refine hK _ _ fun a48 hE48 => ?_
      clear hK K e33
      clear hE47 a47
      refine wpList_val hE48 38 rfl rfl fun K hK => ?_
      have e33 := hE48.get 33 rfl
      go_simp
      refine hK _ _ fun a49 hE49 => ?_
      clear hK K e33
      clear hE48 a48
      refine seq_new hE49 hS46 8 104 (fun g => .pointer (some ⟨g, 0, none⟩)) 44 #[.bool false, .int .u8 0, .int .u8 0, .int .u16 0] (fun w => by kernel_rfl) rfl rfl rfl rfl rfl fun a50 u6 g104 hE50 hS50 => ?_
      clear hE49 a49
      clear hS46
      clear w9
      refine seq_storeN hE50 hS50 104 (new := #[.bool false, .int .u8 count, .int .u8 type, .int .u16 (((((4 + bs.length) : Nat) : Int) / 4 - 1) % 65536)]) (by simp [Value.oneCell']) rfl rfl rfl rfl rfl (by kernel_rfl) rfl rfl rfl fun u7 hS51 => ?_
      clear hS50
      clear u6
      refine seq_pure hE50 9 (.bool true) (fun w => by kernel_rfl) rfl rfl rfl rfl rfl fun a52 hE52 => ?_
      clear hE50 a50
      refine wpList_nil ?_
      refine hK41 _ _ ?_
      clear hK41
      refine wp_seq_k fun K53 hK53 => ?_
      refine wp_region_lit ?_
      refine seq_pure hE52 40 (.agg #[.int .i64 9, .int .u32 0, .int .u32 0, .int .u64 0, .int .u32 0, .int .u32 0, .int .u32 0, .slice none 0 0, .slice none 0 0, .slice none 0 0, .slice none 0 0, .string ByteArray.empty, .int .u8 0, .slice none 0 0, .slice none 0 0, .slice none 0 0, .slice none 0 0, .int .u32 0, .slice none 0 0, .int .u32 0, .int .u16 0, .int .u16 0, .int .u32 0, .int .u8 0, .slice none 0 0, .slice none 0 0, .bool false, .int .u8 0, .int .u8 0, .int .u16 0]) (fun w => by kernel_rfl) rfl rfl rfl rfl rfl fun a54 hE54 => ?_
      clear hE52 a52
      refine wpList_val hE54 41 rfl rfl fun K hK => ?_
      have e40 := hE54.get 40 rfl
      go_simp
      refine (headerOf_9 pli u7 rfl (pli_lies _ _) pli_small).mono ?_
      rintro e w10 ⟨rfl, hB10⟩
      refine hK _ _ fun a55 hE55 => ?_
      clear hK K e40
      clear hE54 a54
      have hS56 := hS51.still hB10
      clear hB10 hS51
      refine seq_pure hE55 39 (.tuple #[.agg #[.bool false, .int .u8 1, .int .u8 206, .int .u16 (((((12) : Nat) : Int) / 4 - 1) % 65536)], .bool true]) (fun w => by kernel_rfl) rfl rfl rfl rfl rfl fun a57 hE57 => ?_
      clear hE55 a55
      refine wpList_val hE57 42 rfl rfl fun K hK => ?_
      have e39 := hE57.get 39 rfl
      go_simp
      refine hK _ _ fun a58 hE58 => ?_
      clear hK K e39
      clear hE57 a57
      refine wpList_val hE58 43 rfl rfl fun K hK => ?_
      have e39 := hE58.get 39 rfl
      go_simp
      refine hK _ _ fun a59 hE59 => ?_
      clear hK K e39
      clear hE58 a58
      refine seq_new hE59 hS56 10 105 (fun g => .pointer (some ⟨g, 0, none⟩)) 44 #[.bool false, .int .u8 0, .int .u8 0, .int .u16 0] (fun w => by kernel_rfl) rfl rfl rfl rfl rfl fun a60 u8 g105 hE60 hS60 => ?_
      clear hE59 a59
      clear hS56
      clear w10
      refine seq_storeN hE60 hS60 105 (new := #[.bool false, .int .u8 1, .int .u8 206, .int .u16 (((((12) : Nat) : Int) / 4 - 1) % 65536)]) (by simp [Value.oneCell']) rfl rfl rfl rfl rfl (by kernel_rfl) rfl rfl rfl fun u9 hS61 => ?_
      clear hS60
      clear u8
      refine seq_pure hE60 11 (.bool true) (fun w => by kernel_rfl) rfl rfl rfl rfl rfl fun a62 hE62 => ?_
      clear hE60 a60
      refine wpList_nil ?_
      refine hK53 _ _ ?_
      clear hK53
      refine wp_seq_k fun K63 hK63 => ?_
      refine wp_region_lit ?_
      refine seq_pure hE62 44 (.bool true) (fun w => by kernel_rfl) rfl rfl rfl rfl rfl fun a64 hE64 => ?_
      clear hE62 a62
      refine wpList_val hE64 45 rfl rfl fun K hK => ?_
      have e44 := hE64.get 44 rfl
      go_simp
      refine hK _ _ fun a65 hE65 => ?_
      clear hK K e44
      clear hE64 a64
      refine seq_pure hE65 46 (.bool false) (fun w => by kernel_rfl) rfl rfl rfl rfl rfl fun a66 hE66 => ?_
      clear hE65 a65
      refine wpList_gval hE66 47 2 false 46 rfl rfl rfl rfl fun K hK => ?_
      have e8 := hE66.get 8 rfl
      refine exec_wp (v := .agg #[.bool false, .int .u8 count, .int .u8 type, .int .u16 (((((4 + bs.length) : Nat) : Int) / 4 - 1) % 65536)]) (w' := u9) (by simp [execOp, Act.eval, e8, run_loadN _ _ _ _ _ (hS61.blk 104 rfl) Tryz.underlying44 rfl (by kernel_rfl)]) ?_
      refine hK _ _ fun a67 hE67 => ?_
      clear hK K e8
      clear hE66 a66
      refine wpList_gval hE67 48 2 false 46 rfl rfl rfl rfl fun K hK => ?_
      have e6 := hE67.get 6 rfl
      refine exec_wp (v := .agg #[.bool false, .int .u8 count, .int .u8 type, .int .u16 (((((4 + bs.length) : Nat) : Int) / 4 - 1) % 65536)]) (w' := u9) (by simp [execOp, Act.eval, e6, run_loadN _ _ _ _ _ (hS61.blk 103 rfl) Tryz.underlying36 rfl (by kernel_rfl)]) ?_
      refine hK _ _ fun a68 hE68 => ?_
      clear hK K e6
      clear hE67 a67
      refine wpList_gval hE68 49 2 false 46 rfl rfl rfl rfl fun K hK => ?_
      have e47 := hE68.get 47 rfl
      have e48 := hE68.get 48 rfl
      go_simp
      refine hK _ _ fun a69 hE69 => ?_
      clear hK K e47 e48
      clear hE68 a68
      refine wpList_val hE69 50 rfl rfl fun K hK => ?_
      have e46 := hE69.get 46 rfl
      have e49 := hE69.get 49 rfl
      go_simp
      refine hK _ _ fun a70 hE70 => ?_
      clear hK K e46 e49
      clear hE69 a69
      refine seq_pure hE70 51 (.bool true) (fun w => by kernel_rfl) rfl rfl rfl rfl rfl fun a71 hE71 => ?_
      clear hE70 a70
      refine wpList_gval hE71 52 7 true 51 rfl rfl rfl rfl fun K hK => ?_
      have e11 := hE71.get 11 rfl
      go_simp
      refine hK _ _ fun a72 hE72 => ?_
      clear hK K e11
      clear hE71 a71
      refine wpList_val hE72 53 rfl rfl fun K hK => ?_
      have e51 := hE72.get 51 rfl
      have e52 := hE72.get 52 rfl
      go_simp
      refine hK _ _ fun a73 hE73 => ?_
      clear hK K e51 e52
      clear hE72 a72
      refine seq_pure hE73 54 (.bool true) (fun w => by kernel_rfl) rfl rfl rfl rfl rfl fun a74 hE74 => ?_
      clear hE73 a73
      refine wpList_gval hE74 55 10 true 54 rfl rfl rfl rfl fun K hK => ?_
      have e10 := hE74.get 10 rfl
      go_simp
      refine hK _ _ fun a75 hE75 => ?_
      clear hK K e10
      clear hE74 a74
      refine wpList_gval hE75 56 10 true 54 rfl rfl rfl rfl fun K hK => ?_
      have e55 := hE75.get 55 rfl
      have cc : u9.cell? ⟨g105, 2, none⟩ = some (.int .u8 206) := (hS61.blk 105 rfl).cell 2
      have cz : g105 < u9.heap.size := (hS61.blk 105 rfl).lt
      go_simp
      refine hK _ _ fun a76 hE76 => ?_
      clear hK K e55
      clear hE75 a75
      clear cc cz
      refine wpList_gval hE76 57 10 true 54 rfl rfl rfl rfl fun K hK => ?_
      have e56 := hE76.get 56 rfl
      go_simp
      refine hK _ _ fun a77 hE77 => ?_
      clear hK K e56
      clear hE76 a76
      refine wpList_val hE77 58 rfl rfl fun K hK => ?_
      have e54 := hE77.get 54 rfl
      have e57 := hE77.get 57 rfl
      go_simp
      refine hK _ _ fun a78 hE78 => ?_
      clear hK K e54 e57
      clear hE77 a77
      refine seq_pure hE78 2 (.bool true) (fun w => by kernel_rfl) rfl rfl rfl rfl rfl fun a79 hE79 => ?_
      clear hE78 a78
      refine wpList_nil ?_
      refine hK63 _ _ ?_
      clear hK63
      refine wp_ret ?_
      try simp only [Exit.then]
      refine bodyPost_ret (v := .bool true) (by simp [results, Tryz.results3, go_sem, hE79.get 2 rfl]) hE79.defers ⟨rfl, hS61.below⟩
    case inr =>
      obtain ⟨-, rfl, hB6⟩ := hL
      refine hK _ _ fun a12 hE12 => ?_
      clear hK K e16
      clear hE11 a11
      have hS13 := hS8.still hB6
      clear hB6 hS8
      refine seq_pure hE12 15 (.tuple #[.agg p.cells, .slice none 0 0, .bool false]) (fun w => by kernel_rfl) rfl rfl rfl rfl rfl fun a14 hE14 => ?_
      clear hE12 a12
      refine seq_pure hE14 18 (.agg p.cells) (fun w => by kernel_rfl) rfl rfl rfl rfl rfl fun a15 hE15 => ?_
      clear hE14 a14
      refine seq_pure hE15 19 (.slice none 0 0) (fun w => by kernel_rfl) rfl rfl rfl rfl rfl fun a16 hE16 => ?_
      clear hE15 a15
      refine seq_pure hE16 20 (.bool false) (fun w => by kernel_rfl) rfl rfl rfl rfl rfl fun a17 hE17 => ?_
      clear hE16 a16
      refine seq_new hE17 hS13 3 102 (fun g => .pointer (some ⟨g, 0, none⟩)) 38 #[.int .i64 0, .int .u32 0, .int .u32 0, .int .u64 0, .int .u32 0, .int .u32 0, .int .u32 0, .slice none 0 0, .slice none 0 0, .slice none 0 0, .slice none 0 0, .string ByteArray.empty, .int .u8 0, .slice none 0 0, .slice none 0 0, .slice none 0 0, .slice none 0 0, .int .u32 0, .slice none 0 0, .int .u32 0, .int .u16 0, .int .u16 0, .int .u32 0, .int .u8 0, .slice none 0 0, .slice none 0 0, .bool false, .int .u8 0, .int .u8 0, .int .u16 0] (fun w => by kernel_rfl) rfl rfl rfl rfl rfl fun a18 u2 g102 hE18 hS18 => ?_
      clear hE17 a17
      clear hS13
      clear w6
      refine seq_storeN hE18 hS18 102 (new := p.cells) (by simp [Pkt.cells, Sl.val, Value.oneCell']) rfl rfl rfl rfl rfl (by kernel_rfl) rfl rfl rfl fun u3 hS19 => ?_
      clear hS18
      clear u2
      refine seq_pure hE18 4 (.slice none 0 0) (fun w => by kernel_rfl) rfl rfl rfl rfl rfl fun a20 hE20 => ?_
      clear hE18 a18
      refine seq_pure hE20 5 (.bool false) (fun w => by kernel_rfl) rfl rfl rfl rfl rfl fun a21 hE21 => ?_
      clear hE20 a20
      refine wpList_nil ?_
      refine hK10 _ _ ?_
      clear hK10
      refine wp_seq_k fun K22 hK22 => ?_
      refine wp_seq_k fun K23 hK23 => ?_
      refine wp_region_lit ?_
      refine seq_pure hE21 21 (.bool false) (fun w => by kernel_rfl) rfl rfl rfl rfl rfl fun a24 hE24 => ?_
      clear hE21 a21
      refine wpList_val hE24 22 rfl rfl fun K hK => ?_
      have e21 := hE24.get 21 rfl
      go_simp
      refine hK _ _ fun a25 hE25 => ?_
      clear hK K e21
      clear hE24 a24
      refine seq_pure hE25 23 (.bool true) (fun w => by kernel_rfl) rfl rfl rfl rfl rfl fun a26 hE26 => ?_
      clear hE25 a25
      refine wpList_gskip hE26 24 2 false 23 rfl rfl rfl rfl rfl fun a27 hE27 => ?_
      clear hE26 a26
      refine wpList_gskip hE27 25 2 false 23 rfl rfl rfl rfl rfl fun a28 hE28 => ?_
      clear hE27 a27
      refine wpList_gskip hE28 26 2 false 23 rfl rfl rfl rfl rfl fun a29 hE29 => ?_
      clear hE28 a28
      refine wpList_val hE29 27 rfl rfl fun K hK => ?_
      have e23 := hE29.get 23 rfl
      have e26 := hE29.get 26 rfl
      go_simp
      refine hK _ _ fun a30 hE30 => ?_
      clear hK K e23 e26
      clear hE29 a29
      refine wpList_nil ?_
      refine hK23 _ _ ?_
      clear hK23
      refine wp_if_t hE30 27 rfl ?_
      refine wp_seq_k fun K31 hK31 => ?_
      refine wp_region_lit ?_
      refine seq_pure hE30 2 (.bool true) (fun w => by kernel_rfl) rfl rfl rfl rfl rfl fun a32 hE32 => ?_
      clear hE30 a30
      refine wpList_nil ?_
      refine hK31 _ _ ?_
      clear hK31
      refine wp_ret ?_
      try simp only [Exit.then]
      refine bodyPost_ret (v := .bool true) (by simp [results, Tryz.results3, go_sem, hE32.get 2 rfl]) hE32.defers ⟨rfl, hS19.below⟩

set_option maxHeartbeats 4000000 in
set_option maxRecDepth 100000 in
theorem law_app (p c : Pkt) (count type : Int) (bs : List Int) (ok : Bool) (w : World) (h : p.Lies w w.heap.size) (hcl : c.Lies w w.heap.size) (hcs : c.Short) (hck : (c.kind == 0) = false) (hc0 : 0 ≤ count) (hc1 : count ≤ 31) (ht : 0 ≤ type ∧ type < 256) (hleg : ∀ w', Below w.heap.size w w' → Calls Tryz.prog 6 #[.agg p.cells] w' (Legal w' p c count type bs ok))
    (hhdr : ok = true → ∀ q w', Pkt.Same c q → q.Lies w' w'.heap.size → Calls Tryz.prog 8 #[.agg q.cells] w' fun e w'' => e = .returned (.tuple #[.agg hdrZ, .bool false]) ∧ Below w'.heap.size w' w'') :
    Calls Tryz.prog 3 #[.agg p.cells] w fun e w' => e = .returned (.bool true) ∧ Below w.heap.size w w' := by
  have Hck := Lib.hid hck
  clear hck
  refine calls_of_wp Tryz.func3 rfl ?_
  rw [Tryz.ntmps3]
  have hE0 : Env 59 [(0, .agg p.cells)] ⟨#[.agg p.cells] ++ Array.replicate (59 - (#[.agg p.cells] : Array Value).size) undef, []⟩ := Env.enter _ (by simp) ⟨by simp, trivial⟩
  generalize (⟨#[.agg p.cells] ++ Array.replicate (59 - (#[.agg p.cells] : Array Value).size) undef, []⟩ : Act) = a0 at hE0 ⊢
  have hS0 : Stp (fun _ => False) w w (lookM []) := Stp.refl w
  refine wp_seq_k fun K1 hK1 => ?_
  refine wp_region_lit ?_
  refine seq_new hE0 hS0 1 101 (fun g => .pointer (some ⟨g, 0, none⟩)) 38 (p.cells) (fun w => by kernel_rfl) rfl rfl rfl rfl rfl fun a2 u1 g101 hE2 hS2 => ?_
  clear hE0 a0
  clear hS0
  refine seq_pure hE2 2 (.bool false) (fun w => by kernel_rfl) rfl rfl rfl rfl rfl fun a3 hE3 => ?_
  clear hE2 a2
  refine wpList_nil ?_
  refine hK1 _ _ ?_
  clear hK1
  refine wp_seq_k fun K4 hK4 => ?_
  refine wp_seq_k fun K5 hK5 => ?_
  refine wp_region_lit ?_
  refine seq_loadN hE3 hS2 12 101 Tryz.underlying38 (by kernel_rfl) rfl rfl rfl rfl rfl rfl rfl fun a6 hE6 => ?_
  clear hE3 a3
  refine wpList_val hE6 13 rfl rfl fun K hK => ?_
  have e12 := hE6.get 12 rfl
  go_simp
  refine (zzFits1_any p u1 ((h.below (hS2.old _ (Nat.le_refl _) (fun _ h => h.elim))).more hS2.size)).mono ?_
  rintro e w5 ⟨b, rfl, hfit, hB5⟩
  refine hK _ _ fun a7 hE7 => ?_
  clear hK K e12
  clear hE6 a6
  have hS8 := hS2.still hB5
  clear hB5 hS2
  cases b with
  | false =>
    refine wpList_val hE7 14 rfl rfl fun K hK => ?_
    have e13 := hE7.get 13 rfl
    go_simp
    refine hK _ _ fun a9 hE9 => ?_
    clear hK K e13
    clear hE7 a7
    refine wpList_nil ?_
    refine hK5 _ _ ?_
    clear hK5
    refine wp_if_t hE9 14 rfl ?_
    refine wp_seq_k fun K10 hK10 => ?_
    refine wp_region_lit ?_
    refine seq_pure hE9 2 (.bool true) (fun w => by kernel_rfl) rfl rfl rfl rfl rfl fun a11 hE11 => ?_
    clear hE9 a9
    refine wpList_nil ?_
    refine hK10 _ _ ?_
    clear hK10
    refine wp_ret ?_
    try simp only [Exit.then]
    refine bodyPost_ret (v := .bool true) (by simp [results, Tryz.results3, go_sem, hE11.get 2 rfl]) hE11.defers ⟨rfl, hS8.below⟩
  | true =>
    refine wpList_val hE7 14 rfl rfl fun K hK => ?_
    have e13 := hE7.get 13 rfl
    go_simp
    refine hK _ _ fun a9 hE9 => ?_
    clear hK K e13
    clear hE7 a7
    refine wpList_nil ?_
    refine hK5 _ _ ?_
    clear hK5
    refine wp_if_f hE9 14 rfl ?_
    refine wp_skip ?_
    refine hK4 _ _ ?_
    clear hK4
    refine wp_seq_k fun K10 hK10 => ?_
    refine wp_region_lit ?_
    refine seq_loadN hE9 hS8 16 101 Tryz.underlying38 (by kernel_rfl) rfl rfl rfl rfl rfl rfl rfl fun a11 hE11 => ?_
    clear hE9 a9
    refine wpList_val hE11 17 rfl rfl fun K hK => ?_
    have e16 := hE11.get 16 rfl
    go_simp
    refine (hleg w5 (hS8.old _ (Nat.le_refl _) (fun _ h => h.elim))).mono ?_
    intro e w6 hL
    rcases hL with hL | hL
    case inl =>
      obtain ⟨hok, hle, g, cap, rfl, hown, hB6⟩ := hL
      refine hK _ _ fun a12 hE12 => ?_
      clear hK K e16
      clear hE11 a11
      have hS13 := hS8.newR 50 hB6 hown (Nat.le_refl _)
      clear hB6 hown hS8
      refine seq_pure hE12 15 (.tuple #[.agg c.cells, .slice (some ⟨g, 0, none⟩) (4 + bs.length) cap, .bool true]) (fun w => by kernel_rfl) rfl rfl rfl rfl rfl fun a14 hE14 => ?_
      clear hE12 a12
      refine seq_pure hE14 18 (.agg c.cells) (fun w => by kernel_rfl) rfl rfl rfl rfl rfl fun a15 hE15 => ?_
      clear hE14 a14
      refine seq_pure hE15 19 (.slice (some ⟨g, 0, none⟩) (4 + bs.length) cap) (fun w => by kernel_rfl) rfl rfl rfl rfl rfl fun a16 hE16 => ?_
      clear hE15 a15
      refine seq_pure hE16 20 (.bool true) (fun w => by kernel_rfl) rfl rfl rfl rfl rfl fun a17 hE17 => ?_
      clear hE16 a16
      refine seq_new hE17 hS13 3 102 (fun g => .pointer (some ⟨g, 0, none⟩)) 38 #[.int .i64 0, .int .u32 0, .int .u32 0, .int .u64 0, .int .u32 0, .int .u32 0, .int .u32 0, .slice none 0 0, .slice none 0 0, .slice none 0 0, .slice none 0 0, .string ByteArray.empty, .int .u8 0, .slice none 0 0, .slice none 0 0, .slice none 0 0, .slice none 0 0, .int .u32 0, .slice none 0 0, .int .u32 0, .int .u16 0, .int .u16 0, .int .u32 0, .int .u8 0, .slice none 0 0, .slice none 0 0, .bool false, .int .u8 0, .int .u8 0, .int .u16 0] (fun w => by kernel_rfl) rfl rfl rfl rfl rfl fun a18 u2 g102 hE18 hS18 => ?_
      clear hE17 a17
      clear hS13
      clear w6
      refine seq_storeN hE18 hS18 102 (new := c.cells) (by simp [Pkt.cells, Sl.val, Value.oneCell']) rfl rfl rfl rfl rfl (by kernel_rfl) rfl rfl rfl fun u3 hS19 => ?_
      clear hS18
      clear u2
      refine seq_pure hE18 4 (.slice (some ⟨g, 0, none⟩) (4 + bs.length) cap) (fun w => by kernel_rfl) rfl rfl rfl rfl rfl fun a20 hE20 => ?_
      clear hE18 a18
      refine seq_pure hE20 5 (.bool true) (fun w => by kernel_rfl) rfl rfl rfl rfl rfl fun a21 hE21 => ?_
      clear hE20 a20
      refine wpList_nil ?_
      refine hK10 _ _ ?_
      clear hK10
      refine wp_seq_k fun K22 hK22 => ?_
      refine wp_seq_k fun K23 hK23 => ?_
      refine wp_region_lit ?_
      refine seq_pure hE21 21 (.bool true) (fun w => by kernel_rfl) rfl rfl rfl rfl rfl fun a24 hE24 => ?_
      clear hE21 a21
      refine wpList_val hE24 22 rfl rfl fun K hK => ?_
      have e21 := hE24.get 21 rfl
      go_simp
      refine hK _ _ fun a25 hE25 => ?_
      clear hK K e21
      clear hE24 a24
      refine seq_pure hE25 23 (.bool false) (fun w => by kernel_rfl) rfl rfl rfl rfl rfl fun a26 hE26 => ?_
      clear hE25 a25
      refine wpList_gval hE26 24 2 false 23 rfl rfl rfl rfl fun K hK => ?_
      have e3 := hE26.get 3 rfl
      go_simp
      refine hK _ _ fun a27 hE27 => ?_
      clear hK K e3
      clear hE26 a26
      refine wpList_gval hE27 25 2 false 23 rfl rfl rfl rfl fun K hK => ?_
      have e24 := hE27.get 24 rfl
      have cc : u3.cell? ⟨g102, 0, none⟩ = some (.int .i64 c.kind) := (hS19.blk 102 rfl).cell 0
      have cz : g102 < u3.heap.size := (hS19.blk 102 rfl).lt
      go_simp
      refine hK _ _ fun a28 hE28 => ?_
      clear hK K e24
      clear hE27 a27
      clear cc cz
      refine wpList_gval hE28 26 2 false 23 rfl rfl rfl rfl fun K hK => ?_
      have e25 := hE28.get 25 rfl
      have hk0 := Hck.out
      go_simp
      try rw [hk0]
      refine hK _ _ fun a29 hE29 => ?_
      clear hK K e25
      clear hE28 a28
      clear hk0
      refine wpList_val hE29 27 rfl rfl fun K hK => ?_
      have e23 := hE29.get 23 rfl
      have e26 := hE29.get 26 rfl
      go_simp
      refine hK _ _ fun a30 hE30 => ?_
      clear hK K e23 e26
      clear hE29 a29
      refine wpList_nil ?_
      refine hK23 _ _ ?_
      clear hK23
      refine wp_if_f hE30 27 rfl ?_
      refine wp_skip ?_
      refine hK22 _ _ ?_
      clear hK22
      refine wp_seq_k fun K31 hK31 => ?_
      refine wp_region_lit ?_
      refine seq_pure hE30 29 (.slice (some ⟨g, 0, none⟩) (4 + bs.length) cap) (fun w => by kernel_rfl) rfl rfl rfl rfl rfl fun a32 hE32 => ?_
      clear hE30 a30
      refine wpList_val hE32 30 rfl rfl fun K hK => ?_
      have e29 := hE32.get 29 rfl
      have hcap : 4 + bs.length ≤ cap := own_cap (hS19.row 50 rfl)
      go_simp
      refine (readHeader_ok (reads_of_own (hS19.row 50 rfl)) (Nat.le_refl _) (show 0 ≤ 128 + count ∧ 128 + count < 256 by omega) (show 0 ≤ type ∧ type < 256 from ht) (show 0 ≤ ((bs.length : Nat) : Int) / 4 / 256 ∧ ((bs.length : Nat) : Int) / 4 / 256 < 256 by omega) (show 0 ≤ ((bs.length : Nat) : Int) / 4 % 256 ∧ ((bs.length : Nat) : Int) / 4 % 256 < 256 by omega) (by omega) hcap (show (128 + count) / 64 = 2 by omega)).mono ?_
      rintro e w7 ⟨rfl, hB7⟩
      rw [hdr_back count type bs hc0 hc1 (by omega)]
      refine hK _ _ fun a33 hE33 => ?_
      clear hK K e29
      clear hE32 a32
      have hS34 := hS19.still hB7
      clear hB7 hS19
      refine seq_pure hE33 28 (.tuple #[.agg #[.bool false, .int .u8 count, .int .u8 type, .int .u16 (((((4 + bs.length) : Nat) : Int) / 4 - 1) % 65536)], .bool true]) (fun w => by kernel_rfl) rfl rfl rfl rfl rfl fun a35 hE35 => ?_
      clear hE33 a33
      refine wpList_val hE35 31 rfl rfl fun K hK => ?_
      have e28 := hE35.get 28 rfl
      go_simp
      refine hK _ _ fun a36 hE36 => ?_
      clear hK K e28
      clear hE35 a35
      refine wpList_val hE36 32 rfl rfl fun K hK => ?_
      have e28 := hE36.get 28 rfl
      go_simp
      refine hK _ _ fun a37 hE37 => ?_
      clear hK K e28
      clear hE36 a36
      refine seq_new hE37 hS34 6 103 (fun g => .pointer (some ⟨g, 0, none⟩)) 36 #[.bool false, .int .u8 0, .int .u8 0, .int .u16 0] (fun w => by kernel_rfl) rfl rfl rfl rfl rfl fun a38 u4 g103 hE38 hS38 => ?_
      clear hE37 a37
      clear hS34
      clear w7
      refine seq_storeN hE38 hS38 103 (new := #[.bool false, .int .u8 count, .int .u8 type, .int .u16 (((((4 + bs.length) : Nat) : Int) / 4 - 1) % 65536)]) (by simp [Value.oneCell']) rfl rfl rfl rfl rfl (by kernel_rfl) rfl rfl rfl fun u5 hS39 => ?_
      clear hS38
      clear u4
      refine seq_pure hE38 7 (.bool true) (fun w => by kernel_rfl) rfl rfl rfl rfl rfl fun a40 hE40 => ?_
      clear hE38 a38
      refine wpList_nil ?_
      refine hK31 _ _ ?_
      clear hK31
      refine wp_seq_k fun K41 hK41 => ?_
      refine wp_region_lit ?_
      refine seq_loadN hE40 hS39 34 102 Tryz.underlying38 (by kernel_rfl) rfl rfl rfl rfl rfl rfl rfl fun a42 hE42 => ?_
      clear hE40 a40
      refine wpList_val hE42 35 rfl rfl fun K hK => ?_
      have e34 := hE42.get 34 rfl
      go_simp
      refine (given_any c u5 ((hcl.below (hS39.old _ (Nat.le_refl _) (fun _ h => h.elim))).more hS39.size) hcs).mono ?_
      rintro e w8 ⟨q, hsame, rfl, hql, hB8⟩
      refine hK _ _ fun a43 hE43 => ?_
      clear hK K e34
      clear hE42 a42
      have hS44 := hS39.still hB8
      clear hB8 hS39
      refine wpList_val hE43 36 rfl rfl fun K hK => ?_
      have e35 := hE43.get 35 rfl
      go_simp
      refine (hhdr hok q w8 hsame hql).mono ?_
      rintro e w9 ⟨rfl, hB9⟩
      refine hK _ _ fun a45 hE45 => ?_
      clear hK K e35
      clear hE43 a43
      have hS46 := hS44.still hB9
      clear hB9 hS44
      refine seq_pure hE45 33 (.tuple #[.agg #[.bool false, .int .u8 0, .int .u8 0, .int .u16 0], .bool false]) (fun w => by kernel_rfl) rfl rfl rfl rfl rfl fun a47 hE47 => ?_
      clear hE45 a45
      refine wpList_val hE47 37 rfl rfl fun K hK => ?_
      have e33 := hE47.get 33 rfl
      go_simp
      refine hK _ _ fun a48 hE48 => ?_
      clear hK K e33
      clear hE47 a47
      refine wpList_val hE48 38 rfl rfl fun K hK => ?_
      have e33 := hE48.get 33 rfl
      go_simp
      refine hK _ _ fun a49 hE49 => ?_
      clear hK K e33
      clear hE48 a48
      refine seq_new hE49 hS46 8 104 (fun g => .pointer (some ⟨g, 0, none⟩)) 44 #[.bool false, .int .u8 0, .int .u8 0, .int .u16 0] (fun w => by kernel_rfl) rfl rfl rfl rfl rfl fun a50 u6 g104 hE50 hS50 => ?_
      clear hE49 a49
      clear hS46
      clear w9
      refine seq_storeN hE50 hS50 104 (new := #[.bool false, .int .u8 0, .int .u8 0, .int .u16 0]) (by simp [Value.oneCell']) rfl rfl rfl rfl rfl (by kernel_rfl) rfl rfl rfl fun u7 hS51 => ?_
      clear hS50
      clear u6
      refine seq_pure hE50 9 (.bool false) (fun w => by kernel_rfl) rfl rfl rfl rfl rfl fun a52 hE52 => ?_
      clear hE50 a50
      refine wpList_nil ?_
      refine hK41 _ _ ?_
      clear hK41
      refine wp_seq_k fun K53 hK53 => ?_
      refine wp_region_lit ?_
      refine seq_pure hE52 40 (.agg #[.int .i64 9, .int .u32 0, .int .u32 0, .int .u64 0, .int .u32 0, .int .u32 0, .int .u32 0, .slice none 0 0, .slice none 0 0, .slice none 0 0, .slice none 0 0, .string ByteArray.empty, .int .u8 0, .slice none 0 0, .slice none 0 0, .slice none 0 0, .slice none 0 0, .int .u32 0, .slice none 0 0, .int .u32 0, .int .u16 0, .int .u16 0, .int .u32 0, .int .u8 0, .slice none 0 0, .slice none 0 0, .bool false, .int .u8 0, .int .u8 0, .int .u16 0]) (fun w => by kernel_rfl) rfl rfl rfl rfl rfl fun a54 hE54 => ?_
      clear hE52 a52
      refine wpList_val hE54 41 rfl rfl fun K hK => ?_
      have e40 := hE54.get 40 rfl
      go_simp
      refine (headerOf_9 pli u7 rfl (pli_lies _ _) pli_small).mono ?_
      rintro e w10 ⟨rfl, hB10⟩
      refine hK _ _ fun a55 hE55 => ?_
      clear hK K e40
      clear hE54 a54
      have hS56 := hS51.still hB10
      clear hB10 hS51
      refine seq_pure hE55 39 (.tuple #[.agg #[.bool false, .int .u8 1, .int .u8 206, .int .u16 (((((12) : Nat) : Int) / 4 - 1) % 65536)], .bool true]) (fun w => by kernel_rfl) rfl rfl rfl rfl rfl fun a57 hE57 => ?_
      clear hE55 a55
      refine wpList_val hE57 42 rfl rfl fun K hK => ?_
      have e39 := hE57.get 39 rfl
      go_simp
      refine hK _ _ fun a58 hE58 => ?_
      clear hK K e39
      clear hE57 a57
      refine wpList_val hE58 43 rfl rfl fun K hK => ?_
      have e39 := hE58.get 39 rfl
      go_simp
      refine hK _ _ fun a59 hE59 => ?_
      clear hK K e39
      clear hE58 a58
      refine seq_new hE59 hS56 10 105 (fun g => .pointer (some ⟨g, 0, none⟩)) 44 #[.bool false, .int .u8 0, .int .u8 0, .int .u16 0] (fun w => by kernel_rfl) rfl rfl rfl rfl rfl fun a60 u8 g105 hE60 hS60 => ?_
      clear hE59 a59
      clear hS56
      clear w10
      refine seq_storeN hE60 hS60 105 (new := #[.bool false, .int .u8 1, .int .u8 206, .int .u16 (((((12) : Nat) : Int) / 4 - 1) % 65536)]) (by simp [Value.oneCell']) rfl rfl rfl rfl rfl (by kernel_rfl) rfl rfl rfl fun u9 hS61 => ?_
      clear hS60
      clear u8
      refine seq_pure hE60 11 (.bool true) (fun w => by kernel_rfl) rfl rfl rfl rfl rfl fun a62 hE62 => ?_
      clear hE60 a60
      refine wpList_nil ?_
      refine hK53 _ _ ?_
      clear hK53
      refine wp_seq_k fun K63 hK63 => ?_
      refine wp_region_lit ?_
      refine seq_pure hE62 44 (.bool false) (fun w => by kernel_rfl) rfl rfl rfl rfl rfl fun a64 hE64 => ?_
      clear hE62 a62
      refine wpList_val hE64 45 rfl rfl fun K hK => ?_
      have e44 := hE64.get 44 rfl
      go_simp
      refine hK _ _ fun a65 hE65 => ?_
      clear hK K e44
      clear hE64 a64
      refine seq_pure hE65 46 (.bool true) (fun w => by kernel_rfl) rfl rfl rfl rfl rfl fun a66 hE66 => ?_
      clear hE65 a65
      refine wpList_gskip hE66 47 2 false 46 rfl rfl rfl rfl rfl fun a67 hE67 => ?_
      clear hE66 a66
      refine wpList_gskip hE67 48 2 false 46 rfl rfl rfl rfl rfl fun a68 hE68 => ?_
      clear hE67 a67
      refine wpList_gskip hE68 49 2 false 46 rfl rfl rfl rfl rfl fun a69 hE69 => ?_
      clear hE68 a68
      refine wpList_val hE69 50 rfl rfl fun K hK => ?_
      have e46 := hE69.get 46 rfl
      have e49 := hE69.get 49 rfl
      go_simp
      refine hK _ _ fun a70 hE70 => ?_
      clear hK K e46 e49
      clear hE69 a69
      refine seq_pure hE70 51 (.bool true) (fun w => by kernel_rfl) rfl rfl rfl rfl rfl fun a71 hE71 => ?_
      clear hE70 a70
      refine wpList_gval hE71 52 7 true 51 rfl rfl rfl rfl fun K hK => ?_
      have e11 := hE71.get 11 rfl
      go_simp
      refine hK _ _ fun a72 hE72 => ?_
      clear hK K e11
      clear hE71 a71
      refine wpList_val hE72 53 rfl rfl fun K hK => ?_
      have e51 := hE72.get 51 rfl
      have e52 := hE72.get 52 rfl
      go_simp
      refine hK _ _ fun a73 hE73 => ?_
      clear hK K e51 e52
      clear hE72 a72
      refine seq_pure hE73 54 (.bool true) (fun w => by kernel_rfl) rfl rfl rfl rfl rfl fun a74 hE74 => ?_
      clear hE73 a73
      refine wpList_gval hE74 55 10 true 54 rfl rfl rfl rfl fun K hK => ?_
      have e10 := hE74.get 10 rfl
      go_simp
      refine hK _ _ fun a75 hE75 => ?_
      clear hK K e10
      clear hE74 a74
      refine wpList_gval hE75 56 10 true 54 rfl rfl rfl rfl fun K hK => ?_
      have e55 := hE75.get 55 rfl
      have cc : u9.cell? ⟨g105, 2, none⟩ = some (.int .u8 206) := (hS61.blk 105 rfl).cell 2
      have cz : g105 < u9.heap.size := (hS61.blk 105 rfl).lt
      go_simp
      refine hK _ _ fun a76 hE76 => ?_
      clear hK K e55
      clear hE75 a75
      clear cc cz
      refine wpList_gval hE76 57 10 true 54 rfl rfl rfl rfl fun K hK => ?_
      have e56 := hE76.get 56 rfl
      go_simp
      refine hK _ _ fun a77 hE77 => ?_
      clear hK K e56
      clear hE76 a76
      refine wpList_val hE77 58 rfl rfl fun K hK => ?_
      have e54 := hE77.get 54 rfl
      have e57 := hE77.get 57 rfl
      go_simp
      refine hK _ _ fun a78 hE78 => ?_
      clear hK K e54 e57
      clear hE77 a77
      refine seq_pure hE78 2 (.bool true) (fun w => by kernel_rfl) rfl rfl rfl rfl rfl fun a79 hE79 => ?_
      clear hE78 a78
      refine wpList_nil ?_
      refine hK63 _ _ ?_
      clear hK63
      refine wp_ret ?_
      try simp only [Exit.then]
      refine bodyPost_ret (v := .bool true) (by simp [results, Tryz.results3, go_sem, hE79.get 2 rfl]) hE79.defers ⟨rfl, hS61.below⟩
    case inr =>
      obtain ⟨-, rfl, hB6⟩ := hL
      refine hK _ _ fun a12 hE12 => ?_
      clear hK K e16
      clear hE11 a11
      have hS13 := hS8.still hB6
      clear hB6 hS8
      refine seq_pure hE12 15 (.tuple #[.agg p.cells, .slice none 0 0, .bool false]) (fun w => by kernel_rfl) rfl rfl rfl rfl rfl fun a14 hE14 => ?_
      clear hE12 a12
      refine seq_pure hE14 18 (.agg p.cells) (fun w => by kernel_rfl) rfl rfl rfl rfl rfl fun a15 hE15 => ?_
      clear hE14 a14
      refine seq_pure hE15 19 (.slice none 0 0) (fun w => by kernel_rfl) rfl rfl rfl rfl rfl fun a16 hE16 => ?_
      clear hE15 a15
      refine seq_pure hE16 20 (.bool false) (fun w => by kernel_rfl) rfl rfl rfl rfl rfl fun a17 hE17 => ?_
      clear hE16 a16
      refine seq_new hE17 hS13 3 102 (fun g => .pointer (some ⟨g, 0, none⟩)) 38 #[.int .i64 0, .int .u32 0, .int .u32 0, .int .u64 0, .int .u32 0, .int .u32 0, .int .u32 0, .slice none 0 0, .slice none 0 0, .slice none 0 0, .slice none 0 0, .string ByteArray.empty, .int .u8 0, .slice none 0 0, .slice none 0 0, .slice none 0 0, .slice none 0 0, .int .u32 0, .slice none 0 0, .int .u32 0, .int .u16 0, .int .u16 0, .int .u32 0, .int .u8 0, .slice none 0 0, .slice none 0 0, .bool false, .int .u8 0, .int .u8 0, .int .u16 0] (fun w => by kernel_rfl) rfl rfl rfl rfl rfl fun a18 u2 g102 hE18 hS18 => ?_
      clear hE17 a17
      clear hS13
      clear w6
      refine seq_storeN hE18 hS18 102 (new := p.cells) (by simp [Pkt.cells, Sl.val, Value.oneCell']) rfl rfl rfl rfl rfl (by kernel_rfl) rfl rfl rfl fun u3 hS19 => ?_
      clear hS18
      clear u2
      refine seq_pure hE18 4 (.slice none 0 0) (fun w => by kernel_rfl) rfl rfl rfl rfl rfl fun a20 hE20 => ?_
      clear hE18 a18
      refine seq_pure hE20 5 (.bool false) (fun w => by kernel_rfl) rfl rfl rfl rfl rfl fun a21 hE21 => ?_
      clear hE20 a20
      refine wpList_nil ?_
      refine hK10 _ _ ?_
      clear hK10
      refine wp_seq_k fun K22 hK22 => ?_
      refine wp_seq_k fun K23 hK23 => ?_
      refine wp_region_lit ?_
      refine seq_pure hE21 21 (.bool false) (fun w => by kernel_rfl) rfl rfl rfl rfl rfl fun a24 hE24 => ?_
      clear hE21 a21
      refine wpList_val hE24 22 rfl rfl fun K hK => ?_
      have e21 := hE24.get 21 rfl
      go_simp
      refine hK _ _ fun a25 hE25 => ?_
      clear hK K e21
      clear hE24 a24
      refine seq_pure hE25 23 (.bool true) (fun w => by kernel_rfl) rfl rfl rfl rfl rfl fun a26 hE26 => ?_
      clear hE25 a25
      refine wpList_gskip hE26 24 2 false 23 rfl rfl rfl rfl rfl fun a27 hE27 => ?_
      clear hE26 a26
      refine wpList_gskip hE27 25 2 false 23 rfl rfl rfl rfl rfl fun a28 hE28 => ?_
      clear hE27 a27
      refine wpList_gskip hE28 26 2 false 23 rfl rfl rfl rfl rfl fun a29 hE29 => ?_
      clear hE28 a28
      refine wpList_val hE29 27 rfl rfl fun K hK => ?_
      have e23 := hE29.get 23 rfl
      have e26 := hE29.get 26 rfl
      go_simp
      refine hK _ _ fun a30 hE30 => ?_
      clear hK K e23 e26
      clear hE29 a29
      refine wpList_nil ?_
      refine hK23 _ _ ?_
      clear hK23
      refine wp_if_t hE30 27 rfl ?_
      refine wp_seq_k fun K31 hK31 => ?_
      refine wp_region_lit ?_
      refine seq_pure hE30 2 (.bool true) (fun w => by kernel_rfl) rfl rfl rfl rfl rfl fun a32 hE32 => ?_
      clear hE30 a30
      refine wpList_nil ?_
      refine hK31 _ _ ?_
      clear hK31
      refine wp_ret ?_
      try simp only [Exit.then]
      refine bodyPost_ret (v := .bool true) (by simp [results, Tryz.results3, go_sem, hE32.get 2 rfl]) hE32.defers ⟨rfl, hS19.below⟩

set_option maxHeartbeats 4000000 in
set_option maxRecDepth 100000 in
theorem law_none (p : Pkt) (w : World) (h : p.Lies w w.heap.size) (hleg : ∀ w', Below w.heap.size w w' → Calls Tryz.prog 6 #[.agg p.cells] w' fun e w'' => ∃ x A n c b, e = .returned (.tuple #[.agg (Pkt.cells x), .slice A n c, .bool b]) ∧ (b = true → (x.kind == 0) = true) ∧ Below w'.heap.size w' w'') :
    Calls Tryz.prog 3 #[.agg p.cells] w fun e w' => e = .returned (.bool true) ∧ Below w.heap.size w w' := by
  refine calls_of_wp Tryz.func3 rfl ?_
  rw [Tryz.ntmps3]
  have hE0 : Env 59 [(0, .agg p.cells)] ⟨#[.agg p.cells] ++ Array.replicate (59 - (#[.agg p.cells] : Array Value).size) undef, []⟩ := Env.enter _ (by simp) ⟨by simp, trivial⟩
  generalize (⟨#[.agg p.cells] ++ Array.replicate (59 - (#[.agg p.cells] : Array Value).size) undef, []⟩ : Act) = a0 at hE0 ⊢
  have hS0 : Stp (fun _ => False) w w (lookM []) := Stp.refl w
  refine wp_seq_k fun K1 hK1 => ?_
  refine wp_region_lit ?_
  refine seq_new hE0 hS0 1 101 (fun g => .pointer (some ⟨g, 0, none⟩)) 38 (p.cells) (fun w => by kernel_rfl) rfl rfl rfl rfl rfl fun a2 u1 g101 hE2 hS2 => ?_
  clear hE0 a0
  clear hS0
  refine seq_pure hE2 2 (.bool false) (fun w => by kernel_rfl) rfl rfl rfl rfl rfl fun a3 hE3 => ?_
  clear hE2 a2
  refine wpList_nil ?_
  refine hK1 _ _ ?_
  clear hK1
  refine wp_seq_k fun K4 hK4 => ?_
  refine wp_seq_k fun K5 hK5 => ?_
  refine wp_region_lit ?_
  refine seq_loadN hE3 hS2 12 101 Tryz.underlying38 (by kernel_rfl) rfl rfl rfl rfl rfl rfl rfl fun a6 hE6 => ?_
  clear hE3 a3
  refine wpList_val hE6 13 rfl rfl fun K hK => ?_
  have e12 := hE6.get 12 rfl
  go_simp
  refine (zzFits1_any p u1 ((h.below (hS2.old _ (Nat.le_refl _) (fun _ h => h.elim))).more hS2.size)).mono ?_
  rintro e w5 ⟨b, rfl, hfit, hB5⟩
  refine hK _ _ fun a7 hE7 => ?_
  clear hK K e12
  clear hE6 a6
  have hS8 := hS2.still hB5
  clear hB5 hS2
  cases b with
  | false =>
    refine wpList_val hE7 14 rfl rfl fun K hK => ?_
    have e13 := hE7.get 13 rfl
    go_simp
    refine hK _ _ fun a9 hE9 => ?_
    clear hK K e13
    clear hE7 a7
    refine wpList_nil ?_
    refine hK5 _ _ ?_
    clear hK5
    refine wp_if_t hE9 14 rfl ?_
    refine wp_seq_k fun K10 hK10 => ?_
    refine wp_region_lit ?_
    refine seq_pure hE9 2 (.bool true) (fun w => by kernel_rfl) rfl rfl rfl rfl rfl fun a11 hE11 => ?_
    clear hE9 a9
    refine wpList_nil ?_
    refine hK10 _ _ ?_
    clear hK10
    refine wp_ret ?_
    try simp only [Exit.then]
    refine bodyPost_ret (v := .bool true) (by simp [results, Tryz.results3, go_sem, hE11.get 2 rfl]) hE11.defers ⟨rfl, hS8.below⟩
  | true =>
    refine wpList_val hE7 14 rfl rfl fun K hK => ?_
    have e13 := hE7.get 13 rfl
    go_simp
    refine hK _ _ fun a9 hE9 => ?_
    clear hK K e13
    clear hE7 a7
    refine wpList_nil ?_
    refine hK5 _ _ ?_
    clear hK5
    refine wp_if_f hE9 14 rfl ?_
    refine wp_skip ?_
    refine hK4 _ _ ?_
    clear hK4
    refine wp_seq_k fun K10 hK10 => ?_
    refine wp_region_lit ?_
    refine seq_loadN hE9 hS8 16 101 Tryz.underlying38 (by kernel_rfl) rfl rfl rfl rfl rfl rfl rfl fun a11 hE11 => ?_
    clear hE9 a9
    refine wpList_val hE11 17 rfl rfl fun K hK => ?_
    have e16 := hE11.get 16 rfl
    go_simp
    refine (hleg w5 (hS8.old _ (Nat.le_refl _) (fun _ h => h.elim))).mono ?_
    rintro e w6 ⟨x, A0, n0, c0, b2, rfl, hx, hB6⟩
    refine hK _ _ fun a12 hE12 => ?_
    clear hK K e16
    clear hE11 a11
    have hS13 := hS8.still hB6
    clear hB6 hS8
    refine seq_pure hE12 15 (.tuple #[.agg x.cells, .slice A0 n0 c0, .bool b2]) (fun w => by kernel_rfl) rfl rfl rfl rfl rfl fun a14 hE14 => ?_
    clear hE12 a12
    refine seq_pure hE14 18 (.agg x.cells) (fun w => by kernel_rfl) rfl rfl rfl rfl rfl fun a15 hE15 => ?_
    clear hE14 a14
    refine seq_pure hE15 19 (.slice A0 n0 c0) (fun w => by kernel_rfl) rfl rfl rfl rfl rfl fun a16 hE16 => ?_
    clear hE15 a15
    refine seq_pure hE16 20 (.bool b2) (fun w => by kernel_rfl) rfl rfl rfl rfl rfl fun a17 hE17 => ?_
    clear hE16 a16
    refine seq_new hE17 hS13 3 102 (fun g => .pointer (some ⟨g, 0, none⟩)) 38 #[.int .i64 0, .int .u32 0, .int .u32 0, .int .u64 0, .int .u32 0, .int .u32 0, .int .u32 0, .slice none 0 0, .slice none 0 0, .slice none 0 0, .slice none 0 0, .string ByteArray.empty, .int .u8 0, .slice none 0 0, .slice none 0 0, .slice none 0 0, .slice none 0 0, .int .u32 0, .slice none 0 0, .int .u32 0, .int .u16 0, .int .u16 0, .int .u32 0, .int .u8 0, .slice none 0 0, .slice none 0 0, .bool false, .int .u8 0, .int .u8 0, .int .u16 0] (fun w => by kernel_rfl) rfl rfl rfl rfl rfl fun a18 u2 g102 hE18 hS18 => ?_
    clear hE17 a17
    clear hS13
    clear w6
    refine seq_storeN hE18 hS18 102 (new := x.cells) (by simp [Pkt.cells, Sl.val, Value.oneCell']) rfl rfl rfl rfl rfl (by kernel_rfl) rfl rfl rfl fun u3 hS19 => ?_
    clear hS18
    clear u2
    refine seq_pure hE18 4 (.slice A0 n0 c0) (fun w => by kernel_rfl) rfl rfl rfl rfl rfl fun a20 hE20 => ?_
    clear hE18 a18
    refine seq_pure hE20 5 (.bool b2) (fun w => by kernel_rfl) rfl rfl rfl rfl rfl fun a21 hE21 => ?_
    clear hE20 a20
    refine wpList_nil ?_
    cases b2 with
    | false =>
      refine hK10 _ _ ?_
      clear hK10
      refine wp_seq_k fun K22 hK22 => ?_
      refine wp_seq_k fun K23 hK23 => ?_
      refine wp_region_lit ?_
      refine seq_pure hE21 21 (.bool false) (fun w => by kernel_rfl) rfl rfl rfl rfl rfl fun a24 hE24 => ?_
      clear hE21 a21
      refine wpList_val hE24 22 rfl rfl fun K hK => ?_
      have e21 := hE24.get 21 rfl
      go_simp
      refine hK _ _ fun a25 hE25 => ?_
      clear hK K e21
      clear hE24 a24
      refine seq_pure hE25 23 (.bool true) (fun w => by kernel_rfl) rfl rfl rfl rfl rfl fun a26 hE26 => ?_
      clear hE25 a25
      refine wpList_gskip hE26 24 2 false 23 rfl rfl rfl rfl rfl fun a27 hE27 => ?_
      clear hE26 a26
      refine wpList_gskip hE27 25 2 false 23 rfl rfl rfl rfl rfl fun a28 hE28 => ?_
      clear hE27 a27
      refine wpList_gskip hE28 26 2 false 23 rfl rfl rfl rfl rfl fun a29 hE29 => ?_
      clear hE28 a28
      refine wpList_val hE29 27 rfl rfl fun K hK => ?_
      have e23 := hE29.get 23 rfl
      have e26 := hE29.get 26 rfl
      go_simp
      refine hK _ _ fun a30 hE30 => ?_
      clear hK K e23 e26
      clear hE29 a29
      refine wpList_nil ?_
      refine hK23 _ _ ?_
      clear hK23
      refine wp_if_t hE30 27 rfl ?_
      refine wp_seq_k fun K31 hK31 => ?_
      refine wp_region_lit ?_
      refine seq_pure hE30 2 (.bool true) (fun w => by kernel_rfl) rfl rfl rfl rfl rfl fun a32 hE32 => ?_
      clear hE30 a30
      refine wpList_nil ?_
      refine hK31 _ _ ?_
      clear hK31
      refine wp_ret ?_
      try simp only [Exit.then]
      refine bodyPost_ret (v := .bool true) (by simp [results, Tryz.results3, go_sem, hE32.get 2 rfl]) hE32.defers ⟨rfl, hS19.below⟩
    | true =>
      have Hck := Lib.hid (hx rfl)
      refine hK10 _ _ ?_
      clear hK10
      refine wp_seq_k fun K22 hK22 => ?_
      refine wp_seq_k fun K23 hK23 => ?_
      refine wp_region_lit ?_
      refine seq_pure hE21 21 (.bool true) (fun w => by kernel_rfl) rfl rfl rfl rfl rfl fun a24 hE24 => ?_
      clear hE21 a21
      refine wpList_val hE24 22 rfl rfl fun K hK => ?_
      have e21 := hE24.get 21 rfl
      go_simp
      refine hK _ _ fun a25 hE25 => ?_
      clear hK K e21
      clear hE24 a24
      refine seq_pure hE25 23 (.bool false) (fun w => by kernel_rfl) rfl rfl rfl rfl rfl fun a26 hE26 => ?_
      clear hE25 a25
      refine wpList_gval hE26 24 2 false 23 rfl rfl rfl rfl fun K hK => ?_
      have e3 := hE26.get 3 rfl
      go_simp
      refine hK _ _ fun a27 hE27 => ?_
      clear hK K e3
      clear hE26 a26
      refine wpList_gval hE27 25 2 false 23 rfl rfl rfl rfl fun K hK => ?_
      have e24 := hE27.get 24 rfl
      have cc : u3.cell? ⟨g102, 0, none⟩ = some (.int .i64 x.kind) := (hS19.blk 102 rfl).cell 0
      have cz : g102 < u3.heap.size := (hS19.blk 102 rfl).lt
      go_simp
      refine hK _ _ fun a28 hE28 => ?_
      clear hK K e24
      clear hE27 a27
      clear cc cz
      refine wpList_gval hE28 26 2 false 23 rfl rfl rfl rfl fun K hK => ?_
      have e25 := hE28.get 25 rfl
      have hk0 := Hck.out
      go_simp
      try rw [hk0]
      refine hK _ _ fun a29 hE29 => ?_
      clear hK K e25
      clear hE28 a28
      clear hk0
      refine wpList_val hE29 27 rfl rfl fun K hK => ?_
      have e23 := hE29.get 23 rfl
      have e26 := hE29.get 26 rfl
      go_simp
      refine hK _ _ fun a30 hE30 => ?_
      clear hK K e23 e26
      clear hE29 a29
      refine wpList_nil ?_
      refine hK23 _ _ ?_
      clear hK23
      refine wp_if_t hE30 27 rfl ?_
      refine wp_seq_k fun K31 hK31 => ?_
      refine wp_region_lit ?_
      refine seq_pure hE30 2 (.bool true) (fun w => by kernel_rfl) rfl rfl rfl rfl rfl fun a32 hE32 => ?_
      clear hE30 a30
      refine wpList_nil ?_
      refine hK31 _ _ ?_
      clear hK31
      refine wp_ret ?_
      try simp only [Exit.then]
      refine bodyPost_ret (v := .bool true) (by simp [results, Tryz.results3, go_sem, hE32.get 2 rfl]) hE32.defers ⟨rfl, hS19.below⟩

end Go.Proofs.YtmmfpgoodfgkbaaGreatDoor
