/-
  No cell of these rows narrows 'for every input' (looked for: loops, veiled, ifaces, maps, wideKeys, modest, calm, conditions, laid).
  DERIVED. THE GIVEN ROWS OF THIS SEAT. 4 by the template 'for every input the law returns true; each argument reads behind the call as it read before'; 0 by the template 'total and deterministic' (their statements: YtmmfpgoodfgkbaaGreatTotals.lean).
  GIVEN WITH THE SEED: the statements are not yours to turn. If you find one false, say at which input.
  Laid BY PROGRAM, IN A SANDBOX (cutbox-rows.mjs): the forced cells as the released guide's own fill.sh prints them over the translation 6f8f1d25851f0c6e… (all of the seat's roots in one cut). By AI agents, Wed Nov 11 2026. No macro, syntax, notation, axiom, sorry.
-/
import Derived.Test.YtmmfpgoodfgkbaaGreatChecked
import GoSem.Claim
import GoSem.ClaimJoined
import GoSem.ClaimMapViews
import Derived.JoinedTies
import Derived.KernelRfl
namespace Go.Proofs.YtmmfpgoodfgkbaaGreat
/- THE CELL 'sum', in the pinned program and in every row, IS THE sha256 OF THE DUMP (.gsa) THAT YtmmfpgoodfgkbaaGreatProg.lean LOADS. Nothing in Lean hashes anything: it is a label: what it is worth is what the hold of that sum in a sandbox is worth. -/
noncomputable def Tryz.pinned : Pinned := { name := "ytmmfpgoodfgkbaagreat", sum := "6f8f1d25851f0c6ef2b041684004b21e7c10f109dca60ecb7bbe7be8d4fb8963", checked := Tryz.checked }
namespace Rows
def none {H : Type} : Left H := { results := [], args := [] }

/-- 'laws.FnFeedbackDestination': WHATEVER THE INPUT: true; the input reads as it did. -/
def fnFeedbackDestinationSpec : ChangeSpec := { name := "fnFeedbackDestination", fn := fun _ => fun
  | [d] => { results := [.lit (.bool true)], args := [d] }
  | _ => none }
def fnFeedbackDestinationRow : OpenClaim := { program := "ytmmfpgoodfgkbaagreat", sum := "6f8f1d25851f0c6ef2b041684004b21e7c10f109dca60ecb7bbe7be8d4fb8963", func := "rtcppackets/laws.FnFeedbackDestination", spec := "fnFeedbackDestination", inPlace := ["math.Float32frombits"], unfollowed := true, recurses := true, apart := false }
def FnFeedbackDestinationSaid : Prop := fnFeedbackDestinationRow.holds Tryz.pinned (OpenSpec.ofChange fnFeedbackDestinationSpec)

/-- ITS FALSE NEIGHBOUR: 'it returns false'. Refute it at one input. -/
def fnFeedbackDestinationWrong : ChangeSpec := { name := "fnFeedbackDestination", fn := fun _ => fun
  | [d] => { results := [.lit (.bool false)], args := [d] }
  | _ => none }
def FnFeedbackDestinationWrongFalsely : Prop := fnFeedbackDestinationRow.holds Tryz.pinned (OpenSpec.ofChange fnFeedbackDestinationWrong)

/-- 'laws.FnWrite': WHATEVER THE INPUT: true; the input reads as it did. -/
def fnWriteSpec : ChangeSpec := { name := "fnWrite", fn := fun _ => fun
  | [d] => { results := [.lit (.bool true)], args := [d] }
  | _ => none }
def fnWriteRow : OpenClaim := { program := "ytmmfpgoodfgkbaagreat", sum := "6f8f1d25851f0c6ef2b041684004b21e7c10f109dca60ecb7bbe7be8d4fb8963", func := "rtcppackets/laws.FnWrite", spec := "fnWrite", inPlace := ["math.Float32frombits"], unfollowed := true, recurses := true, apart := false }
def FnWriteSaid : Prop := fnWriteRow.holds Tryz.pinned (OpenSpec.ofChange fnWriteSpec)

/-- ITS FALSE NEIGHBOUR: 'it returns false'. Refute it at one input. -/
def fnWriteWrong : ChangeSpec := { name := "fnWrite", fn := fun _ => fun
  | [d] => { results := [.lit (.bool false)], args := [d] }
  | _ => none }
def FnWriteWrongFalsely : Prop := fnWriteRow.holds Tryz.pinned (OpenSpec.ofChange fnWriteWrong)

/-- 'laws.FnWriteOne': WHATEVER THE INPUT: true; the input reads as it did. -/
def fnWriteOneSpec : ChangeSpec := { name := "fnWriteOne", fn := fun _ => fun
  | [d] => { results := [.lit (.bool true)], args := [d] }
  | _ => none }
def fnWriteOneRow : OpenClaim := { program := "ytmmfpgoodfgkbaagreat", sum := "6f8f1d25851f0c6ef2b041684004b21e7c10f109dca60ecb7bbe7be8d4fb8963", func := "rtcppackets/laws.FnWriteOne", spec := "fnWriteOne", inPlace := ["math.Float32frombits"], unfollowed := true, recurses := true, apart := false }
def FnWriteOneSaid : Prop := fnWriteOneRow.holds Tryz.pinned (OpenSpec.ofChange fnWriteOneSpec)

/-- ITS FALSE NEIGHBOUR: 'it returns false'. Refute it at one input. -/
def fnWriteOneWrong : ChangeSpec := { name := "fnWriteOne", fn := fun _ => fun
  | [d] => { results := [.lit (.bool false)], args := [d] }
  | _ => none }
def FnWriteOneWrongFalsely : Prop := fnWriteOneRow.holds Tryz.pinned (OpenSpec.ofChange fnWriteOneWrong)

/-- 'laws.FnReadOne': WHATEVER THE INPUT: true; the input reads as it did. -/
def fnReadOneSpec : ChangeSpec := { name := "fnReadOne", fn := fun _ => fun
  | [d] => { results := [.lit (.bool true)], args := [d] }
  | _ => none }
def fnReadOneRow : OpenClaim := { program := "ytmmfpgoodfgkbaagreat", sum := "6f8f1d25851f0c6ef2b041684004b21e7c10f109dca60ecb7bbe7be8d4fb8963", func := "rtcppackets/laws.FnReadOne", spec := "fnReadOne", inPlace := ["math.Float32bits", "math.Float32frombits"], unfollowed := true, recurses := true, apart := false }
def FnReadOneSaid : Prop := fnReadOneRow.holds Tryz.pinned (OpenSpec.ofChange fnReadOneSpec)

/-- ITS FALSE NEIGHBOUR: 'it returns false'. Refute it at one input. -/
def fnReadOneWrong : ChangeSpec := { name := "fnReadOne", fn := fun _ => fun
  | [d] => { results := [.lit (.bool false)], args := [d] }
  | _ => none }
def FnReadOneWrongFalsely : Prop := fnReadOneRow.holds Tryz.pinned (OpenSpec.ofChange fnReadOneWrong)

/- THE SECOND FORM. 'bulk': how many values and letters a reading holds, each counted each time it is reached (what is shared counts as often as it is met; a slice's spare places count too). A statement '..UptoSaid' is the law's where the arguments, and the package variables that the reading takes, are together of bulk at most 1048576: NARROWER than '..Said'. Prove '..Said' where nothing that the law and all that it calls make is longer than what came in: it says more and counts as full. Else prove '..UptoSaid'. A law counts once. -/
mutual
def uptoBulk {H : Type} : DataW H → Nat
  | .lit (.string bytes) => bytes.length + 1
  | .lit _ => 1
  | .nil => 1
  | .ptr d => uptoBulk d + 1
  | .slice elems spare => uptoBulkAll elems + uptoBulkAll spare + 1
  | .agg parts => uptoBulkAll parts + 1
  | .iface _ d => uptoBulk d + 1
  | .map entries => uptoBulkEntries entries + 1
  | .held _ => 1
def uptoBulkAll {H : Type} : List (DataW H) → Nat
  | [] => 0
  | d :: r => uptoBulk d + uptoBulkAll r
def uptoBulkEntries {H : Type} : List (Lit × DataW H) → Nat
  | [] => 0
  | x :: r => uptoBulkEntry x + uptoBulkEntries r
def uptoBulkEntry {H : Type} : Lit × DataW H → Nat
  | (.string bytes, d) => bytes.length + uptoBulk d + 1
  | (_, d) => uptoBulk d + 1
 end
def uptoSmall : (H : Type) → List (DataW H) → Bool := fun _ ds => decide (uptoBulkAll ds ≤ 1048576)
def OpenSpec.upto (s : _root_.Go.ChangeSpec) : _root_.Go.OpenSpec := { _root_.Go.OpenSpec.ofChange s with cond := some uptoSmall }

/-- 'laws.FnFeedbackDestination', WHERE WHAT IT READS IS OF BULK AT MOST 1048576: true; the input reads as it did. -/
def fnFeedbackDestinationUptoRow : OpenClaim := { program := "ytmmfpgoodfgkbaagreat", sum := "6f8f1d25851f0c6ef2b041684004b21e7c10f109dca60ecb7bbe7be8d4fb8963", func := "rtcppackets/laws.FnFeedbackDestination", spec := "fnFeedbackDestination", inPlace := ["math.Float32frombits"], unfollowed := true, recurses := true, apart := false, narrowed := true }
def FnFeedbackDestinationUptoSaid : Prop := fnFeedbackDestinationUptoRow.holds Tryz.pinned (OpenSpec.upto fnFeedbackDestinationSpec)

/-- 'laws.FnWrite', WHERE WHAT IT READS IS OF BULK AT MOST 1048576: true; the input reads as it did. -/
def fnWriteUptoRow : OpenClaim := { program := "ytmmfpgoodfgkbaagreat", sum := "6f8f1d25851f0c6ef2b041684004b21e7c10f109dca60ecb7bbe7be8d4fb8963", func := "rtcppackets/laws.FnWrite", spec := "fnWrite", inPlace := ["math.Float32frombits"], unfollowed := true, recurses := true, apart := false, narrowed := true }
def FnWriteUptoSaid : Prop := fnWriteUptoRow.holds Tryz.pinned (OpenSpec.upto fnWriteSpec)

/-- 'laws.FnWriteOne', WHERE WHAT IT READS IS OF BULK AT MOST 1048576: true; the input reads as it did. -/
def fnWriteOneUptoRow : OpenClaim := { program := "ytmmfpgoodfgkbaagreat", sum := "6f8f1d25851f0c6ef2b041684004b21e7c10f109dca60ecb7bbe7be8d4fb8963", func := "rtcppackets/laws.FnWriteOne", spec := "fnWriteOne", inPlace := ["math.Float32frombits"], unfollowed := true, recurses := true, apart := false, narrowed := true }
def FnWriteOneUptoSaid : Prop := fnWriteOneUptoRow.holds Tryz.pinned (OpenSpec.upto fnWriteOneSpec)

/-- 'laws.FnReadOne', WHERE WHAT IT READS IS OF BULK AT MOST 1048576: true; the input reads as it did. -/
def fnReadOneUptoRow : OpenClaim := { program := "ytmmfpgoodfgkbaagreat", sum := "6f8f1d25851f0c6ef2b041684004b21e7c10f109dca60ecb7bbe7be8d4fb8963", func := "rtcppackets/laws.FnReadOne", spec := "fnReadOne", inPlace := ["math.Float32bits", "math.Float32frombits"], unfollowed := true, recurses := true, apart := false, narrowed := true }
def FnReadOneUptoSaid : Prop := fnReadOneUptoRow.holds Tryz.pinned (OpenSpec.upto fnReadOneSpec)

end Rows
end Go.Proofs.YtmmfpgoodfgkbaaGreat
