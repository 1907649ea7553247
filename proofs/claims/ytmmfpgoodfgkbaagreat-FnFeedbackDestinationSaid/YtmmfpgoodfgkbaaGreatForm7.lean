/-
  THE WALK of the reference's body of a packet: requests for resynchronization, and lost pictures. Condition: the kind; the two sources fit their kinds.
-/
import Derived.Test.YtmmfpgoodfgkbaaGreatForm2
namespace Go.Proofs.YtmmfpgoodfgkbaaGreat
open Go Go.RowKit
set_option linter.unusedVariables false

set_option maxHeartbeats 4000000 in
set_option maxRecDepth 100000 in
theorem form_7 (p : Pkt) (w : World) (hk : p.kind = 7) (hs0 : 0 ≤ p.sender) (hs1 : p.sender < 4294967296) (hm0 : 0 ≤ p.media) (hm1 : p.media < 4294967296) :
    Calls Tryz.prog 52 #[.agg p.cells] w (Formed w 5 205 (be32 p.sender ++ be32 p.media) true) := by
  refine form_start p w 7 _ (by rw [hk]; rfl) (by decide) hs0 hs1 hm0 hm1 fun a1 w1 g cap hE1 hH1 hown => ?_
  conv => arg 2; whnf
  replace hH1 : Head p w 5 205 true w1 := hH1
  refine wp_seq_k fun K101 hK101 => ?_
  refine wp_seq_k fun K102 hK102 => ?_
  refine wp_region_lit ?_
  refine wpList_val hE1 50 rfl rfl fun K hK => ?_
  have e1 := hE1.get 1 rfl
  go_simp
  refine hK _ _ fun a103 hE103 => ?_
  clear hK K e1
  clear hE1 a1
  refine wpList_val hE103 51 rfl rfl fun K hK => ?_
  have e50 := hE103.get 50 rfl
  have c0 : w1.cell? ⟨w.heap.size, 0, none⟩ = some (.int .i64 7) := (hH1.pk.cell 0).trans (by rw [← hk]; rfl)
  have hz0 : w.heap.size < w1.heap.size := by have := hH1.lt; omega
  go_simp
  refine hK _ _ fun a104 hE104 => ?_
  clear hK K e50
  clear hE103 a103
  clear c0 hz0
  refine wpList_nil ?_
  refine hK102 _ _ ?_
  clear hK102 K102
  refine wp_block ?_
  refine wp_seq_k fun K105 hK105 => ?_
  refine wp_seq_k fun K106 hK106 => ?_
  refine wp_region_lit ?_
  refine wpList_val hE104 53 rfl rfl fun K hK => ?_
  have e51 := hE104.get 51 rfl
  go_simp
  refine hK _ _ fun a107 hE107 => ?_
  clear hK K e51
  clear hE104 a104
  refine wpList_val hE107 52 rfl rfl fun K hK => ?_
  have e53 := hE107.get 53 rfl
  go_simp
  refine hK _ _ fun a108 hE108 => ?_
  clear hK K e53
  clear hE107 a107
  refine wpList_nil ?_
  refine hK106 _ _ ?_
  clear hK106 K106
  refine wp_if_f hE108 52 rfl ?_
  refine wp_region_lit ?_
  refine wpList_val hE108 54 rfl rfl fun K hK => ?_
  have e51 := hE108.get 51 rfl
  go_simp
  refine hK _ _ fun a109 hE109 => ?_
  clear hK K e51
  clear hE108 a108
  refine wpList_val hE109 52 rfl rfl fun K hK => ?_
  have e54 := hE109.get 54 rfl
  go_simp
  refine hK _ _ fun a110 hE110 => ?_
  clear hK K e54
  clear hE109 a109
  refine wpList_nil ?_
  refine hK105 _ _ ?_
  clear hK105 K105
  refine wp_if_f hE110 52 rfl ?_
  refine wp_seq_k fun K111 hK111 => ?_
  refine wp_region_lit ?_
  refine wpList_val hE110 118 rfl rfl fun K hK => ?_
  have e51 := hE110.get 51 rfl
  go_simp
  refine hK _ _ fun a112 hE112 => ?_
  clear hK K e51
  clear hE110 a110
  refine wpList_val hE112 117 rfl rfl fun K hK => ?_
  have e118 := hE112.get 118 rfl
  go_simp
  refine hK _ _ fun a113 hE113 => ?_
  clear hK K e118
  clear hE112 a112
  refine wpList_nil ?_
  refine hK111 _ _ ?_
  clear hK111 K111
  refine wp_if_f hE113 117 rfl ?_
  refine wp_seq_k fun K114 hK114 => ?_
  refine wp_region_lit ?_
  refine wpList_val hE113 173 rfl rfl fun K hK => ?_
  have e51 := hE113.get 51 rfl
  go_simp
  refine hK _ _ fun a115 hE115 => ?_
  clear hK K e51
  clear hE113 a113
  refine wpList_val hE115 172 rfl rfl fun K hK => ?_
  have e173 := hE115.get 173 rfl
  go_simp
  refine hK _ _ fun a116 hE116 => ?_
  clear hK K e173
  clear hE115 a115
  refine wpList_nil ?_
  refine hK114 _ _ ?_
  clear hK114 K114
  refine wp_if_f hE116 172 rfl ?_
  refine wp_seq_k fun K117 hK117 => ?_
  refine wp_region_lit ?_
  refine wpList_val hE116 212 rfl rfl fun K hK => ?_
  have e51 := hE116.get 51 rfl
  go_simp
  refine hK _ _ fun a118 hE118 => ?_
  clear hK K e51
  clear hE116 a116
  refine wpList_val hE118 211 rfl rfl fun K hK => ?_
  have e212 := hE118.get 212 rfl
  go_simp
  refine hK _ _ fun a119 hE119 => ?_
  clear hK K e212
  clear hE118 a118
  refine wpList_nil ?_
  refine hK117 _ _ ?_
  clear hK117 K117
  refine wp_if_f hE119 211 rfl ?_
  refine wp_seq_k fun K120 hK120 => ?_
  refine wp_region_lit ?_
  refine wpList_val hE119 248 rfl rfl fun K hK => ?_
  have e51 := hE119.get 51 rfl
  go_simp
  refine hK _ _ fun a121 hE121 => ?_
  clear hK K e51
  clear hE119 a119
  refine wpList_val hE121 247 rfl rfl fun K hK => ?_
  have e248 := hE121.get 248 rfl
  go_simp
  refine hK _ _ fun a122 hE122 => ?_
  clear hK K e248
  clear hE121 a121
  refine wpList_nil ?_
  refine hK120 _ _ ?_
  clear hK120 K120
  refine wp_if_f hE122 247 rfl ?_
  refine wp_seq_k fun K123 hK123 => ?_
  refine wp_seq_k fun K124 hK124 => ?_
  refine wp_region_lit ?_
  refine wpList_val hE122 276 rfl rfl fun K hK => ?_
  have e51 := hE122.get 51 rfl
  go_simp
  refine hK _ _ fun a125 hE125 => ?_
  clear hK K e51
  clear hE122 a122
  refine wpList_val hE125 275 rfl rfl fun K hK => ?_
  have e276 := hE125.get 276 rfl
  go_simp
  refine hK _ _ fun a126 hE126 => ?_
  clear hK K e276
  clear hE125 a125
  refine wpList_nil ?_
  refine hK124 _ _ ?_
  clear hK124 K124
  refine wp_if_t hE126 275 rfl ?_
  refine wp_skip ?_
  refine hK123 _ _ ?_
  clear hK123 K123
  refine wp_if_t hE126 275 rfl ?_
  refine wp_region_lit ?_
  refine wpList_val hE126 278 rfl rfl fun K hK => ?_
  have e6 := hE126.get 6 rfl
  go_simp
  refine hK _ _ fun a127 hE127 => ?_
  clear hK K e6
  clear hE126 a126
  refine wpList_val hE127 3 rfl rfl fun K hK => ?_
  have e278 := hE127.get 278 rfl
  go_simp
  refine hK _ _ fun a128 hE128 => ?_
  clear hK K e278
  clear hE127 a127
  refine wpList_nil ?_
  refine hK101 _ _ ?_
  exact form_finish p w w1 a128 5 205 true (w.heap.size + 3) 8 _ _ _ (hE128.keep ⟨hE128.get 2 rfl, hE128.get 3 rfl, hE128.get 4 rfl, trivial⟩) hH1 hown (Nat.le_refl _) rfl fun _ _ h => h

set_option maxHeartbeats 4000000 in
set_option maxRecDepth 100000 in
theorem form_9 (p : Pkt) (w : World) (hk : p.kind = 9) (hs0 : 0 ≤ p.sender) (hs1 : p.sender < 4294967296) (hm0 : 0 ≤ p.media) (hm1 : p.media < 4294967296) :
    Calls Tryz.prog 52 #[.agg p.cells] w (Formed w 1 206 (be32 p.sender ++ be32 p.media) true) := by
  refine form_start p w 9 _ (by rw [hk]; rfl) (by decide) hs0 hs1 hm0 hm1 fun a1 w1 g cap hE1 hH1 hown => ?_
  conv => arg 2; whnf
  replace hH1 : Head p w 1 206 true w1 := hH1
  refine wp_seq_k fun K101 hK101 => ?_
  refine wp_seq_k fun K102 hK102 => ?_
  refine wp_region_lit ?_
  refine wpList_val hE1 50 rfl rfl fun K hK => ?_
  have e1 := hE1.get 1 rfl
  go_simp
  refine hK _ _ fun a103 hE103 => ?_
  clear hK K e1
  clear hE1 a1
  refine wpList_val hE103 51 rfl rfl fun K hK => ?_
  have e50 := hE103.get 50 rfl
  have c0 : w1.cell? ⟨w.heap.size, 0, none⟩ = some (.int .i64 9) := (hH1.pk.cell 0).trans (by rw [← hk]; rfl)
  have hz0 : w.heap.size < w1.heap.size := by have := hH1.lt; omega
  go_simp
  refine hK _ _ fun a104 hE104 => ?_
  clear hK K e50
  clear hE103 a103
  clear c0 hz0
  refine wpList_nil ?_
  refine hK102 _ _ ?_
  clear hK102 K102
  refine wp_block ?_
  refine wp_seq_k fun K105 hK105 => ?_
  refine wp_seq_k fun K106 hK106 => ?_
  refine wp_region_lit ?_
  refine wpList_val hE104 53 rfl rfl fun K hK => ?_
  have e51 := hE104.get 51 rfl
  go_simp
  refine hK _ _ fun a107 hE107 => ?_
  clear hK K e51
  clear hE104 a104
  refine wpList_val hE107 52 rfl rfl fun K hK => ?_
  have e53 := hE107.get 53 rfl
  go_simp
  refine hK _ _ fun a108 hE108 => ?_
  clear hK K e53
  clear hE107 a107
  refine wpList_nil ?_
  refine hK106 _ _ ?_
  clear hK106 K106
  refine wp_if_f hE108 52 rfl ?_
  refine wp_region_lit ?_
  refine wpList_val hE108 54 rfl rfl fun K hK => ?_
  have e51 := hE108.get 51 rfl
  go_simp
  refine hK _ _ fun a109 hE109 => ?_
  clear hK K e51
  clear hE108 a108
  refine wpList_val hE109 52 rfl rfl fun K hK => ?_
  have e54 := hE109.get 54 rfl
  go_simp
  refine hK _ _ fun a110 hE110 => ?_
  clear hK K e54
  clear hE109 a109
  refine wpList_nil ?_
  refine hK105 _ _ ?_
  clear hK105 K105
  refine wp_if_f hE110 52 rfl ?_
  refine wp_seq_k fun K111 hK111 => ?_
  refine wp_region_lit ?_
  refine wpList_val hE110 118 rfl rfl fun K hK => ?_
  have e51 := hE110.get 51 rfl
  go_simp
  refine hK _ _ fun a112 hE112 => ?_
  clear hK K e51
  clear hE110 a110
  refine wpList_val hE112 117 rfl rfl fun K hK => ?_
  have e118 := hE112.get 118 rfl
  go_simp
  refine hK _ _ fun a113 hE113 => ?_
  clear hK K e118
  clear hE112 a112
  refine wpList_nil ?_
  refine hK111 _ _ ?_
  clear hK111 K111
  refine wp_if_f hE113 117 rfl ?_
  refine wp_seq_k fun K114 hK114 => ?_
  refine wp_region_lit ?_
  refine wpList_val hE113 173 rfl rfl fun K hK => ?_
  have e51 := hE113.get 51 rfl
  go_simp
  refine hK _ _ fun a115 hE115 => ?_
  clear hK K e51
  clear hE113 a113
  refine wpList_val hE115 172 rfl rfl fun K hK => ?_
  have e173 := hE115.get 173 rfl
  go_simp
  refine hK _ _ fun a116 hE116 => ?_
  clear hK K e173
  clear hE115 a115
  refine wpList_nil ?_
  refine hK114 _ _ ?_
  clear hK114 K114
  refine wp_if_f hE116 172 rfl ?_
  refine wp_seq_k fun K117 hK117 => ?_
  refine wp_region_lit ?_
  refine wpList_val hE116 212 rfl rfl fun K hK => ?_
  have e51 := hE116.get 51 rfl
  go_simp
  refine hK _ _ fun a118 hE118 => ?_
  clear hK K e51
  clear hE116 a116
  refine wpList_val hE118 211 rfl rfl fun K hK => ?_
  have e212 := hE118.get 212 rfl
  go_simp
  refine hK _ _ fun a119 hE119 => ?_
  clear hK K e212
  clear hE118 a118
  refine wpList_nil ?_
  refine hK117 _ _ ?_
  clear hK117 K117
  refine wp_if_f hE119 211 rfl ?_
  refine wp_seq_k fun K120 hK120 => ?_
  refine wp_region_lit ?_
  refine wpList_val hE119 248 rfl rfl fun K hK => ?_
  have e51 := hE119.get 51 rfl
  go_simp
  refine hK _ _ fun a121 hE121 => ?_
  clear hK K e51
  clear hE119 a119
  refine wpList_val hE121 247 rfl rfl fun K hK => ?_
  have e248 := hE121.get 248 rfl
  go_simp
  refine hK _ _ fun a122 hE122 => ?_
  clear hK K e248
  clear hE121 a121
  refine wpList_nil ?_
  refine hK120 _ _ ?_
  clear hK120 K120
  refine wp_if_f hE122 247 rfl ?_
  refine wp_seq_k fun K123 hK123 => ?_
  refine wp_seq_k fun K124 hK124 => ?_
  refine wp_region_lit ?_
  refine wpList_val hE122 276 rfl rfl fun K hK => ?_
  have e51 := hE122.get 51 rfl
  go_simp
  refine hK _ _ fun a125 hE125 => ?_
  clear hK K e51
  clear hE122 a122
  refine wpList_val hE125 275 rfl rfl fun K hK => ?_
  have e276 := hE125.get 276 rfl
  go_simp
  refine hK _ _ fun a126 hE126 => ?_
  clear hK K e276
  clear hE125 a125
  refine wpList_nil ?_
  refine hK124 _ _ ?_
  clear hK124 K124
  refine wp_if_f hE126 275 rfl ?_
  refine wp_region_lit ?_
  refine wpList_val hE126 277 rfl rfl fun K hK => ?_
  have e51 := hE126.get 51 rfl
  go_simp
  refine hK _ _ fun a127 hE127 => ?_
  clear hK K e51
  clear hE126 a126
  refine wpList_val hE127 275 rfl rfl fun K hK => ?_
  have e277 := hE127.get 277 rfl
  go_simp
  refine hK _ _ fun a128 hE128 => ?_
  clear hK K e277
  clear hE127 a127
  refine wpList_nil ?_
  refine hK123 _ _ ?_
  clear hK123 K123
  refine wp_if_t hE128 275 rfl ?_
  refine wp_region_lit ?_
  refine wpList_val hE128 278 rfl rfl fun K hK => ?_
  have e6 := hE128.get 6 rfl
  go_simp
  refine hK _ _ fun a129 hE129 => ?_
  clear hK K e6
  clear hE128 a128
  refine wpList_val hE129 3 rfl rfl fun K hK => ?_
  have e278 := hE129.get 278 rfl
  go_simp
  refine hK _ _ fun a130 hE130 => ?_
  clear hK K e278
  clear hE129 a129
  refine wpList_nil ?_
  refine hK101 _ _ ?_
  exact form_finish p w w1 a130 1 206 true (w.heap.size + 3) 8 _ _ _ (hE130.keep ⟨hE130.get 2 rfl, hE130.get 3 rfl, hE130.get 4 rfl, trivial⟩) hH1 hown (Nat.le_refl _) rfl fun _ _ h => h

end Go.Proofs.YtmmfpgoodfgkbaaGreat
