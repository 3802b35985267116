/-
  No cell of these rows narrows 'for every input' (looked for: loops, veiled, ifaces, maps, wideKeys, modest, calm, conditions, laid).
  DERIVED. THE GIVEN ROWS OF THIS SEAT. 8 by the template 'for every input the law returns true; each argument reads behind the call as it read before'; 0 by the template 'total and deterministic' (their statements: Qxb6601687aTotals.lean).
  GIVEN WITH THE SEED: the statements are not yours to turn. If you find one false, say at which input.
  Laid BY PROGRAM, IN A SANDBOX (cutbox-rows.mjs): the forced cells as the released guide's own fill.sh prints them over the translation 0a964b171a31df86… (all of the seat's roots in one cut). By AI agents, Wed Nov 11 2026. No macro, syntax, notation, axiom, sorry.
-/
import Derived.Test.Qxb6601687aChecked
import GoSem.Claim
import GoSem.ClaimJoined
import GoSem.ClaimMapViews
import Derived.JoinedTies
import Derived.KernelRfl
namespace Go.Proofs.Qxb6601687a
/- THE CELL 'sum', in the pinned program and in every row, IS THE sha256 OF THE DUMP (.gsa) THAT Qxb6601687aProg.lean LOADS. Nothing in Lean hashes anything: it is a label: what it is worth is what the hold of that sum in a sandbox is worth. -/
noncomputable def Try.pinned : Pinned := { name := "qxb6601687a", sum := "0a964b171a31df8621b29ff8726894dbaabea5d779f5921cb35479f2eb56368e", checked := Try.checked }
namespace Rows
def none {H : Type} : Left H := { results := [], args := [] }

/-- 'zzlaws_merge_b1.FnCompareMarksAShortestScript': WHATEVER THE INPUT: true; the input reads as it did. -/
def fnCompareMarksAShortestScriptSpec : ChangeSpec := { name := "fnCompareMarksAShortestScript", fn := fun _ => fun
  | [d1, d2, d3, d4, d5, d6] => { results := [.lit (.bool true)], args := [d1, d2, d3, d4, d5, d6] }
  | _ => none }
def fnCompareMarksAShortestScriptRow : OpenClaim := { program := "qxb6601687a", sum := "0a964b171a31df8621b29ff8726894dbaabea5d779f5921cb35479f2eb56368e", func := "example.com/tideline/tideline/zzlaws_merge_b1.FnCompareMarksAShortestScript", spec := "fnCompareMarksAShortestScript", recurses := true, apart := false }
def FnCompareMarksAShortestScriptSaid : Prop := fnCompareMarksAShortestScriptRow.holds Try.pinned (OpenSpec.ofChange fnCompareMarksAShortestScriptSpec)

/-- ITS FALSE NEIGHBOUR: 'it returns false'. Refute it at one input. -/
def fnCompareMarksAShortestScriptWrong : ChangeSpec := { name := "fnCompareMarksAShortestScript", fn := fun _ => fun
  | [d1, d2, d3, d4, d5, d6] => { results := [.lit (.bool false)], args := [d1, d2, d3, d4, d5, d6] }
  | _ => none }
def FnCompareMarksAShortestScriptWrongFalsely : Prop := fnCompareMarksAShortestScriptRow.holds Try.pinned (OpenSpec.ofChange fnCompareMarksAShortestScriptWrong)

/-- 'zzlaws_merge_b1.FnCompareStepBudgetOnlyStopsIt': WHATEVER THE INPUT: true; the input reads as it did. -/
def fnCompareStepBudgetOnlyStopsItSpec : ChangeSpec := { name := "fnCompareStepBudgetOnlyStopsIt", fn := fun _ => fun
  | [d1, d2, d3, d4, d5, d6, d7, d8] => { results := [.lit (.bool true)], args := [d1, d2, d3, d4, d5, d6, d7, d8] }
  | _ => none }
def fnCompareStepBudgetOnlyStopsItRow : OpenClaim := { program := "qxb6601687a", sum := "0a964b171a31df8621b29ff8726894dbaabea5d779f5921cb35479f2eb56368e", func := "example.com/tideline/tideline/zzlaws_merge_b1.FnCompareStepBudgetOnlyStopsIt", spec := "fnCompareStepBudgetOnlyStopsIt", recurses := true, apart := false }
def FnCompareStepBudgetOnlyStopsItSaid : Prop := fnCompareStepBudgetOnlyStopsItRow.holds Try.pinned (OpenSpec.ofChange fnCompareStepBudgetOnlyStopsItSpec)

/-- ITS FALSE NEIGHBOUR: 'it returns false'. Refute it at one input. -/
def fnCompareStepBudgetOnlyStopsItWrong : ChangeSpec := { name := "fnCompareStepBudgetOnlyStopsIt", fn := fun _ => fun
  | [d1, d2, d3, d4, d5, d6, d7, d8] => { results := [.lit (.bool false)], args := [d1, d2, d3, d4, d5, d6, d7, d8] }
  | _ => none }
def FnCompareStepBudgetOnlyStopsItWrongFalsely : Prop := fnCompareStepBudgetOnlyStopsItRow.holds Try.pinned (OpenSpec.ofChange fnCompareStepBudgetOnlyStopsItWrong)

/-- 'zzlaws_merge_b1.FnCompareOnlyAddsMarks': WHATEVER THE INPUT: true; the input reads as it did. -/
def fnCompareOnlyAddsMarksSpec : ChangeSpec := { name := "fnCompareOnlyAddsMarks", fn := fun _ => fun
  | [d1, d2, d3, d4, d5, d6, d7, d8] => { results := [.lit (.bool true)], args := [d1, d2, d3, d4, d5, d6, d7, d8] }
  | _ => none }
def fnCompareOnlyAddsMarksRow : OpenClaim := { program := "qxb6601687a", sum := "0a964b171a31df8621b29ff8726894dbaabea5d779f5921cb35479f2eb56368e", func := "example.com/tideline/tideline/zzlaws_merge_b1.FnCompareOnlyAddsMarks", spec := "fnCompareOnlyAddsMarks", recurses := true, apart := false }
def FnCompareOnlyAddsMarksSaid : Prop := fnCompareOnlyAddsMarksRow.holds Try.pinned (OpenSpec.ofChange fnCompareOnlyAddsMarksSpec)

/-- ITS FALSE NEIGHBOUR: 'it returns false'. Refute it at one input. -/
def fnCompareOnlyAddsMarksWrong : ChangeSpec := { name := "fnCompareOnlyAddsMarks", fn := fun _ => fun
  | [d1, d2, d3, d4, d5, d6, d7, d8] => { results := [.lit (.bool false)], args := [d1, d2, d3, d4, d5, d6, d7, d8] }
  | _ => none }
def FnCompareOnlyAddsMarksWrongFalsely : Prop := fnCompareOnlyAddsMarksRow.holds Try.pinned (OpenSpec.ofChange fnCompareOnlyAddsMarksWrong)

/-- 'zzlaws_merge_b1.FnMiddleSnakeLiesMidwayOnAShortestPath': WHATEVER THE INPUT: true; the input reads as it did. -/
def fnMiddleSnakeLiesMidwayOnAShortestPathSpec : ChangeSpec := { name := "fnMiddleSnakeLiesMidwayOnAShortestPath", fn := fun _ => fun
  | [d1, d2, d3, d4, d5, d6] => { results := [.lit (.bool true)], args := [d1, d2, d3, d4, d5, d6] }
  | _ => none }
def fnMiddleSnakeLiesMidwayOnAShortestPathRow : OpenClaim := { program := "qxb6601687a", sum := "0a964b171a31df8621b29ff8726894dbaabea5d779f5921cb35479f2eb56368e", func := "example.com/tideline/tideline/zzlaws_merge_b1.FnMiddleSnakeLiesMidwayOnAShortestPath", spec := "fnMiddleSnakeLiesMidwayOnAShortestPath", apart := false }
def FnMiddleSnakeLiesMidwayOnAShortestPathSaid : Prop := fnMiddleSnakeLiesMidwayOnAShortestPathRow.holds Try.pinned (OpenSpec.ofChange fnMiddleSnakeLiesMidwayOnAShortestPathSpec)

/-- ITS FALSE NEIGHBOUR: 'it returns false'. Refute it at one input. -/
def fnMiddleSnakeLiesMidwayOnAShortestPathWrong : ChangeSpec := { name := "fnMiddleSnakeLiesMidwayOnAShortestPath", fn := fun _ => fun
  | [d1, d2, d3, d4, d5, d6] => { results := [.lit (.bool false)], args := [d1, d2, d3, d4, d5, d6] }
  | _ => none }
def FnMiddleSnakeLiesMidwayOnAShortestPathWrongFalsely : Prop := fnMiddleSnakeLiesMidwayOnAShortestPathRow.holds Try.pinned (OpenSpec.ofChange fnMiddleSnakeLiesMidwayOnAShortestPathWrong)

/-- 'zzlaws_merge_b1.FnMiddleSnakeStepBudgetOnlyStopsIt': WHATEVER THE INPUT: true; the input reads as it did. -/
def fnMiddleSnakeStepBudgetOnlyStopsItSpec : ChangeSpec := { name := "fnMiddleSnakeStepBudgetOnlyStopsIt", fn := fun _ => fun
  | [d1, d2, d3, d4, d5, d6, d7, d8] => { results := [.lit (.bool true)], args := [d1, d2, d3, d4, d5, d6, d7, d8] }
  | _ => none }
def fnMiddleSnakeStepBudgetOnlyStopsItRow : OpenClaim := { program := "qxb6601687a", sum := "0a964b171a31df8621b29ff8726894dbaabea5d779f5921cb35479f2eb56368e", func := "example.com/tideline/tideline/zzlaws_merge_b1.FnMiddleSnakeStepBudgetOnlyStopsIt", spec := "fnMiddleSnakeStepBudgetOnlyStopsIt", apart := false }
def FnMiddleSnakeStepBudgetOnlyStopsItSaid : Prop := fnMiddleSnakeStepBudgetOnlyStopsItRow.holds Try.pinned (OpenSpec.ofChange fnMiddleSnakeStepBudgetOnlyStopsItSpec)

/-- ITS FALSE NEIGHBOUR: 'it returns false'. Refute it at one input. -/
def fnMiddleSnakeStepBudgetOnlyStopsItWrong : ChangeSpec := { name := "fnMiddleSnakeStepBudgetOnlyStopsIt", fn := fun _ => fun
  | [d1, d2, d3, d4, d5, d6, d7, d8] => { results := [.lit (.bool false)], args := [d1, d2, d3, d4, d5, d6, d7, d8] }
  | _ => none }
def FnMiddleSnakeStepBudgetOnlyStopsItWrongFalsely : Prop := fnMiddleSnakeStepBudgetOnlyStopsItRow.holds Try.pinned (OpenSpec.ofChange fnMiddleSnakeStepBudgetOnlyStopsItWrong)

/-- 'zzlaws_merge_b1.FnCompactKeepsTheScript': WHATEVER THE INPUT: true; the input reads as it did. -/
def fnCompactKeepsTheScriptSpec : ChangeSpec := { name := "fnCompactKeepsTheScript", fn := fun _ => fun
  | [d1, d2, d3] => { results := [.lit (.bool true)], args := [d1, d2, d3] }
  | _ => none }
def fnCompactKeepsTheScriptRow : OpenClaim := { program := "qxb6601687a", sum := "0a964b171a31df8621b29ff8726894dbaabea5d779f5921cb35479f2eb56368e", func := "example.com/tideline/tideline/zzlaws_merge_b1.FnCompactKeepsTheScript", spec := "fnCompactKeepsTheScript", apart := false }
def FnCompactKeepsTheScriptSaid : Prop := fnCompactKeepsTheScriptRow.holds Try.pinned (OpenSpec.ofChange fnCompactKeepsTheScriptSpec)

/-- ITS FALSE NEIGHBOUR: 'it returns false'. Refute it at one input. -/
def fnCompactKeepsTheScriptWrong : ChangeSpec := { name := "fnCompactKeepsTheScript", fn := fun _ => fun
  | [d1, d2, d3] => { results := [.lit (.bool false)], args := [d1, d2, d3] }
  | _ => none }
def FnCompactKeepsTheScriptWrongFalsely : Prop := fnCompactKeepsTheScriptRow.holds Try.pinned (OpenSpec.ofChange fnCompactKeepsTheScriptWrong)

/-- 'zzlaws_merge_b1.FnCompactLeavesStuckRunsAlone': WHATEVER THE INPUT: true; the input reads as it did. -/
def fnCompactLeavesStuckRunsAloneSpec : ChangeSpec := { name := "fnCompactLeavesStuckRunsAlone", fn := fun _ => fun
  | [d1, d2, d3] => { results := [.lit (.bool true)], args := [d1, d2, d3] }
  | _ => none }
def fnCompactLeavesStuckRunsAloneRow : OpenClaim := { program := "qxb6601687a", sum := "0a964b171a31df8621b29ff8726894dbaabea5d779f5921cb35479f2eb56368e", func := "example.com/tideline/tideline/zzlaws_merge_b1.FnCompactLeavesStuckRunsAlone", spec := "fnCompactLeavesStuckRunsAlone", apart := false }
def FnCompactLeavesStuckRunsAloneSaid : Prop := fnCompactLeavesStuckRunsAloneRow.holds Try.pinned (OpenSpec.ofChange fnCompactLeavesStuckRunsAloneSpec)

/-- ITS FALSE NEIGHBOUR: 'it returns false'. Refute it at one input. -/
def fnCompactLeavesStuckRunsAloneWrong : ChangeSpec := { name := "fnCompactLeavesStuckRunsAlone", fn := fun _ => fun
  | [d1, d2, d3] => { results := [.lit (.bool false)], args := [d1, d2, d3] }
  | _ => none }
def FnCompactLeavesStuckRunsAloneWrongFalsely : Prop := fnCompactLeavesStuckRunsAloneRow.holds Try.pinned (OpenSpec.ofChange fnCompactLeavesStuckRunsAloneWrong)

/-- 'zzlaws_merge_b1.FnCompactRunsEndLowOrAligned': WHATEVER THE INPUT: true; the input reads as it did. -/
def fnCompactRunsEndLowOrAlignedSpec : ChangeSpec := { name := "fnCompactRunsEndLowOrAligned", fn := fun _ => fun
  | [d1, d2, d3] => { results := [.lit (.bool true)], args := [d1, d2, d3] }
  | _ => none }
def fnCompactRunsEndLowOrAlignedRow : OpenClaim := { program := "qxb6601687a", sum := "0a964b171a31df8621b29ff8726894dbaabea5d779f5921cb35479f2eb56368e", func := "example.com/tideline/tideline/zzlaws_merge_b1.FnCompactRunsEndLowOrAligned", spec := "fnCompactRunsEndLowOrAligned", apart := false }
def FnCompactRunsEndLowOrAlignedSaid : Prop := fnCompactRunsEndLowOrAlignedRow.holds Try.pinned (OpenSpec.ofChange fnCompactRunsEndLowOrAlignedSpec)

/-- ITS FALSE NEIGHBOUR: 'it returns false'. Refute it at one input. -/
def fnCompactRunsEndLowOrAlignedWrong : ChangeSpec := { name := "fnCompactRunsEndLowOrAligned", fn := fun _ => fun
  | [d1, d2, d3] => { results := [.lit (.bool false)], args := [d1, d2, d3] }
  | _ => none }
def FnCompactRunsEndLowOrAlignedWrongFalsely : Prop := fnCompactRunsEndLowOrAlignedRow.holds Try.pinned (OpenSpec.ofChange fnCompactRunsEndLowOrAlignedWrong)

end Rows
end Go.Proofs.Qxb6601687a
