/-
  THE WALK of the reference's writing of a report block. Condition: the numbers fit their kinds.
-/
import Derived.Test.YtmmfpgoodfgkbaaGreatMPkt
namespace Go.Proofs.YtmmfpgoodfgkbaaGreat
open Go Go.RowKit
set_option linter.unusedVariables false

set_option maxRecDepth 100000 in
set_option maxHeartbeats 2000000 in
theorem specFormat_any (r : Rep) (w : World) (h : r.Ok) (hl : r.lost < 16777216) :
    Calls Tryz.prog 74 #[.agg #[.int .u32 r.ssrc, .int .u8 r.frac, .int .u32 r.lost, .int .u32 r.seq, .int .u32 r.jit, .int .u32 r.last, .int .u32 r.dly]] w fun e w' =>
      ∃ g cap, e = .returned (.tuple #[.slice (some ⟨g, 0, none⟩) 24 cap, .bool true]) ∧ w'.ownsRow w.heap.size 5 1 (.slice (some ⟨g, 0, none⟩) 24 cap) 24 (u8s r.bytes) ∧ Below w.heap.size w w' := by
  obtain ⟨x0, x1, x2, x3, x4, x5, x6⟩ := r
  obtain ⟨a0, a1, b0, b1, c0, c1, d0, d1, e0, e1, f0, f1, g0, g1⟩ := h
  simp only at a0 a1 b0 b1 c0 c1 d0 d1 e0 e1 f0 f1 g0 g1 hl
  have hsm : ¬ (16777216 : Int) ≤ x2 := by omega
  go_enter Tryz.func74, Tryz.ntmps74
  go_upto_region 3 with fail
  go_cut [4] (fun v wx => ∃ g cap, v = .slice (some ⟨g, 0, none⟩) 8 cap ∧ wx.ownsRow (w.heap.size + 1) 5 1 (.slice (some ⟨g, 0, none⟩) 8 cap) 8 (u8s (be32 x0 ++ [x1, x2 / 65536, x2 / 256 % 256, x2 % 256])) ∧ Below (w.heap.size + 1) (w.alloc (.cells #[.int .u32 x0, .int .u8 x1, .int .u32 x2, .int .u32 x3, .int .u32 x4, .int .u32 x5, .int .u32 x6] 85)) wx)
  case first =>
    have w1 : IntKind.u8.wrap (x2 / 65536) = x2 / 65536 := by rw [IntKind.wrap_u8']; omega
    have w2 : IntKind.u8.wrap (x2 / 256) = x2 / 256 % 256 := by rw [IntKind.wrap_u8']
    have w3 : IntKind.u8.wrap x2 = x2 % 256 := by rw [IntKind.wrap_u8']
    go_region_held3 (fun w' => w'.cell? ⟨w.heap.size, 0, none⟩ = some (.int .u32 x0) ∧ w'.cell? ⟨w.heap.size, 1, none⟩ = some (.int .u8 x1) ∧ w'.cell? ⟨w.heap.size, 2, none⟩ = some (.int .u32 x2)) (go_keep)
      (first
        | (go_at_call 73; refine (p32_any _ (.slice none 0 0) 0 [] x0 _ (World.ownsRow_nil _ _ _ _) (Nat.le_refl _) ?_ a0 a1).mono ?_; (omega); rintro e wq ⟨g1, cap1, rfl, hown1, hg1, hat1⟩; have hz1 : w.heap.size + 1 ≤ wq.heap.size := Nat.le_trans (by simp) hg1.size; have hc1 := grown_cells (B := w.heap.size + 1) hg1 (by simp) row_nil; have hkb := fun g t cs (h : Blk _ g t cs) => Blk.grown h hg1 (by simp [Value.ownBlock]))
        | (refine step_app_one _ rfl _ _ _ rfl elem8 _ _ _ _ _ _ 4 _ hown1 rfl rfl rfl rfl (by omega) ?_ ?_ ?_ ?_; (intro u hu; simp at hu; rcases hu with rfl | rfl | rfl | rfl <;> rfl); (omega); (exact hg1.size); intro g2 cap2 wz hown2 hg2 hat2; have hc2 := grown_cells (B := w.heap.size + 1) hg2 hz1 (fun k hk => Nat.le_trans (by simp) (hown1.lt k hk).1))
        | (refine step_app_src _ rfl _ _ _ rfl elem8 _ _ _ _ wq.heap.size _ 4 _ #[.int .u8 x1, .int .u8 (x2 / 65536), .int .u8 (x2 / 256 % 256), .int .u8 (x2 % 256)].toList hown1 rfl rfl ?_ ?_ ?_ ?_ ?_ ?_; (exact blk_reads (hkb _ _ _ (blk_new _ _ _ (by simp))) 1 4 rfl); (intro u hu; simp at hu; rcases hu with rfl | rfl | rfl | rfl <;> rfl); (omega); (exact hg1.size); (omega); intro g2 cap2 wz hown2 hg2 hat2; have hc2 := grown_cells (B := w.heap.size + 1) hg2 hz1 (fun k hk => Nat.le_trans (by simp) (hown1.lt k hk).1)))
    all_goals go_wp2_with fail
    all_goals go_meet
    all_goals refine ⟨g2, cap2, rfl, own_base (own_eq hown2 rfl (by rw [u8s_append]; rfl)) (by simp), ?_⟩
    · exact (Below.refl _ _).drew |>.grown hg1 (by simp) row_nil |>.grown hg2 hz1 (fun k hk => Nat.le_trans (by simp) (hown1.lt k hk).1)
    · exact (Below.refl _ _).alloc (by simp) _ |>.drew |>.grown hg1 (by simp) row_nil |>.grown hg2 hz1 (fun k hk => Nat.le_trans (by simp) (hown1.lt k hk).1)
  case rest =>
    obtain ⟨g, cap, rfl, hown, hb⟩ := hcut
    have hz0 : w.heap.size + 1 ≤ wc.heap.size := by have := hb.size; simpa using this
    have hx : Blk wc w.heap.size 85 #[.int .u32 x0, .int .u8 x1, .int .u32 x2, .int .u32 x3, .int .u32 x4, .int .u32 x5, .int .u32 x6] := (blk_new w _ _ rfl).below hb (by omega)
    have q3 : wc.cell? ⟨w.heap.size, 3, none⟩ = some (.int .u32 x3) := hx.cell 3
    have q4 : wc.cell? ⟨w.heap.size, 4, none⟩ = some (.int .u32 x4) := hx.cell 4
    have q5 : wc.cell? ⟨w.heap.size, 5, none⟩ = some (.int .u32 x5) := hx.cell 5
    have q6 : wc.cell? ⟨w.heap.size, 6, none⟩ = some (.int .u32 x6) := hx.cell 6
    go_wp2_with fail
    go_region_held3 (fun w' => w'.cell? ⟨w.heap.size, 3, none⟩ = some (.int .u32 x3) ∧ w'.cell? ⟨w.heap.size, 4, none⟩ = some (.int .u32 x4) ∧ w'.cell? ⟨w.heap.size, 5, none⟩ = some (.int .u32 x5) ∧ w'.cell? ⟨w.heap.size, 6, none⟩ = some (.int .u32 x6)) (go_keep)
      (first
        | (go_at_call_of 73 (Value.int IntKind.u32 x3); refine (p32_any (w.heap.size + 1) _ 8 (be32 x0 ++ [x1, x2 / 65536, x2 / 256 % 256, x2 % 256]) x3 _ ?_ ?_ ?_ d0 d1).mono ?_; exact hown; exact hz0; (omega); rintro e wa ⟨ga, capa, rfl, howna, hga, hata⟩; have hza : w.heap.size + 1 ≤ wa.heap.size := Nat.le_trans hz0 hga.size; have hca := grown_cells (B := w.heap.size + 1) hga hz0 (fun k hk => (hown.lt k hk).1))
        | (go_at_call_of 73 (Value.int IntKind.u32 x4); refine (p32_any (w.heap.size + 1) _ 12 ((be32 x0 ++ [x1, x2 / 65536, x2 / 256 % 256, x2 % 256]) ++ be32 x3) x4 _ ?_ ?_ ?_ e0 e1).mono ?_; exact howna; exact hza; (omega); rintro e wb ⟨gb, capb, rfl, hownb, hgb, hatb⟩; have hzb : w.heap.size + 1 ≤ wb.heap.size := Nat.le_trans hza hgb.size; have hcb := grown_cells (B := w.heap.size + 1) hgb hza (fun k hk => (howna.lt k hk).1))
        | (go_at_call_of 73 (Value.int IntKind.u32 x5); refine (p32_any (w.heap.size + 1) _ 16 (((be32 x0 ++ [x1, x2 / 65536, x2 / 256 % 256, x2 % 256]) ++ be32 x3) ++ be32 x4) x5 _ ?_ ?_ ?_ f0 f1).mono ?_; exact hownb; exact hzb; (omega); rintro e wc ⟨gc, capc, rfl, hownc, hgc, hatc⟩; have hzc : w.heap.size + 1 ≤ wc.heap.size := Nat.le_trans hzb hgc.size; have hcc := grown_cells (B := w.heap.size + 1) hgc hzb (fun k hk => (hownb.lt k hk).1))
        | (go_at_call_of 73 (Value.int IntKind.u32 x6); refine (p32_any (w.heap.size + 1) _ 20 ((((be32 x0 ++ [x1, x2 / 65536, x2 / 256 % 256, x2 % 256]) ++ be32 x3) ++ be32 x4) ++ be32 x5) x6 _ ?_ ?_ ?_ g0 g1).mono ?_; exact hownc; exact hzc; (omega); rintro e wd ⟨gd, capd, rfl, hownd, hgd, hatd⟩; have hzd : w.heap.size + 1 ≤ wd.heap.size := Nat.le_trans hzc hgd.size; have hcd := grown_cells (B := w.heap.size + 1) hgd hzc (fun k hk => (hownc.lt k hk).1)))
    go_wp2_with fail
    go_ret2
    refine ⟨gd, capd, rfl, own_base (own_eq hownd rfl (by rfl)) (by omega), ?_⟩
    exact (((Below.refl _ _).alloc (Nat.le_refl _) _).trans ((((hb.drew.grown hga hz0 (fun k hk => (hown.lt k hk).1)).grown hgb hza (fun k hk => (howna.lt k hk).1)).grown hgc hzb (fun k hk => (hownb.lt k hk).1)).grown hgd hzc (fun k hk => (hownc.lt k hk).1) |>.mono (by omega)))
end Go.Proofs.YtmmfpgoodfgkbaaGreat
