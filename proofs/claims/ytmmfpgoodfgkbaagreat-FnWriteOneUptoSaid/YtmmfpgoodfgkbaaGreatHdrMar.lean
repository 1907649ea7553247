/-
  THE WALK of the writing of a header. Condition: its count has five bits.
-/
import Derived.Test.YtmmfpgoodfgkbaaGreatCtPut
import Derived.Test.YtmmfpgoodfgkbaaGreatMStep
import Derived.Test.YtmmfpgoodfgkbaaGreatFormatHeader
namespace Go.Proofs.YtmmfpgoodfgkbaaGreat
open Go Go.RowKit
set_option linter.unusedVariables false

set_option maxRecDepth 100000 in
theorem hdrMar_any (c t l : Int) (w : World) (h0 : 0 ≤ c) (h1 : c ≤ 31) (l0 : 0 ≤ l) (l1 : l < 65536) :
    Calls Tryz.prog 106 #[.agg #[.bool false, .int .u8 c, .int .u8 t, .int .u16 l]] w fun e w' => ∃ g, e = .returned (.tuple #[.slice (some ⟨g, 0, none⟩) 4 4, .nilIface]) ∧ Buf w' g (hdrB c t l) ∧ w.heap.size ≤ g ∧ Below w.heap.size w w' := by
  have ho : bits .or .u8 128 c = 128 + c := u8_or128 c h0 (by omega)
  have hg : decide (c > 31) = false := decide_eq_false (by omega)
  have hs : IntKind.u8.wrap (c * 1) = c := by rw [IntKind.wrap_u8]; omega
  refine go_in Tryz.func106 rfl Tryz.ntmps106 [.agg #[.bool false, .int .u8 c, .int .u8 t, .int .u16 l]] fun a hE => ?_
  have hS := stp_in w
  refine rg hE hS [nw 101, pu, pu] (fun p1 => kp [(1, pt (p1 0).g 0), (2, .slice none 0 0), (3, .nilIface)]) (fun p1 => kP [(101, some (.blk (p1 0).g 239 #[.bool false, .int .u8 c, .int .u8 t, .int .u16 l]))]) fun p1 a u hE hS => ?_
  refine rgp hE hS [mk 1, pu] (fun p2 => kp [(4, sv (p2 0).g 0 4 4)]) (fun p2 => kP [(1, some (.buf (p2 0).g (List.replicate 4 0)))]) (fun _ => ⟨kr (show 4 ≤ 140737488355328 by omega), trivial⟩) fun p2 a u hE hS => ?_
  refine rgp hE hS [pu, ix, lb 1, pu, ix, sbt 1] (fun _ => kp []) (fun _ => kP [(1, some (.buf (p2 0).g ((List.replicate 4 0).set 0 128)))]) (fun _ => ⟨kr (show 0 < 4 by omega), kr (show 0 < 4 by omega), kr (show 0 < 4 by omega), kr (show 0 < 4 by omega), trivial⟩) fun _ a u hE hS => ?_
  refine wp_seq ?_
  refine rg hE hS [pu, ld 101] (fun _ => kp [(12, .bool false)]) (fun _ => kP []) fun _ a u hE hS => ?_
  refine iff hE ?_
  refine wp_skip ?_
  refine wp_seq ?_
  refine rgp hE hS [pu, ld 101, pe (.bool false)] (fun _ => kp [(20, .bool false)]) (fun _ => kP []) (fun _ => ⟨kr (congrArg Value.bool hg), trivial⟩) fun _ a u hE hS => ?_
  refine iff hE ?_
  refine wp_skip ?_
  refine dgp hE hS [pu, ix, lb 1, pu, ld 101, pe (.int .u8 c), pe (.int .u8 (128 + c)), ix, sbt 1] (fun _ => kp []) (fun _ => kP [(1, some (.buf (p2 0).g (((List.replicate 4 0).set 0 128).set 0 (128 + c))))]) (fun _ => ⟨kr (show 0 < 4 by omega), kr (show 0 < 4 by omega), kr (congrArg (Value.int .u8) hs), kr (congrArg (Value.int .u8) ho), kr (show 0 < 4 by omega), kr (show 0 < 4 by omega), trivial⟩) fun _ a u hE hS => ?_
  refine rgp hE hS [pu, pu, ld 101, ix, sbt 1] (fun _ => kp []) (fun _ => kP [(1, some (.buf (p2 0).g ((((List.replicate 4 0).set 0 128).set 0 (128 + c)).set 1 t)))]) (fun _ => ⟨kr (show 1 < 4 by omega), kr (show 1 < 4 by omega), trivial⟩) fun _ a u hE hS => ?_
  refine dgp hE hS [pu, sc, pu, ld 101, cl put16c [] [1]] (fun _ => kp []) (fun _ => kP [(1, some (.buf (p2 0).g (put ((((List.replicate 4 0).set 0 128).set 0 (128 + c)).set 1 t) 2 (be16 l))))]) (fun _ => ⟨kr (show 2 ≤ 4 ∧ 4 ≤ 4 ∧ (2 < 4 ∨ 2 = 0) by omega), kr (show 2 ≤ 4 - 2 ∧ 2 + 2 ≤ 4 ∧ 0 ≤ l ∧ l < 65536 by omega), trivial⟩) fun _ a u hE hS => ?_
  refine rg hE hS [pu, pu, pu] (fun _ => kn [(2, sv (p2 0).g 0 4 4)] [3]) (fun _ => kN [] [1]) fun _ a u hE hS => ?_
  refine wp_ret ?_
  exact ret2 hE Tryz.results106 (sv (p2 0).g 0 4 4) .nilIface ⟨_, rfl, pcF (bs := hdrB c t l) hS 1, pcG (g := (p2 0).g) (bs := hdrB c t l) hS 1, hS.below⟩
end Go.Proofs.YtmmfpgoodfgkbaaGreat
