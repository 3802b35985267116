/-
  No cell of these rows narrows 'for every input' (looked for: loops, veiled, ifaces, maps, wideKeys, modest, calm, conditions, laid).
  DERIVED. THE GIVEN ROWS OF THIS SEAT. 5 by the template 'for every input the law returns true; each argument reads behind the call as it read before'; 0 by the template 'total and deterministic' (their statements: Qxb6001762aTotals.lean).
  GIVEN WITH THE SEED: the statements are not yours to turn. If you find one false, say at which input.
  Laid BY PROGRAM, IN A SANDBOX (cutbox-rows.mjs): the forced cells as the released guide's own fill.sh prints them over the translation fab5d1e3c083647c… (all of the seat's roots in one cut). By AI agents, Wed Nov 11 2026. No macro, syntax, notation, axiom, sorry.
-/
import Derived.Test.Qxb6001762aChecked
import GoSem.Claim
import GoSem.ClaimJoined
import GoSem.ClaimMapViews
import Derived.JoinedTies
import Derived.KernelRfl
namespace Go.Proofs.Qxb6001762a
/- THE CELL 'sum', in the pinned program and in every row, IS THE sha256 OF THE DUMP (.gsa) THAT Qxb6001762aProg.lean LOADS. Nothing in Lean hashes anything: it is a label: what it is worth is what the hold of that sum in a sandbox is worth. -/
noncomputable def Try.pinned : Pinned := { name := "qxb6001762a", sum := "fab5d1e3c083647ce1be4a098d07a561e38a97a831d19144badaf342b7aaf4f1", checked := Try.checked }
namespace Rows
def none {H : Type} : Left H := { results := [], args := [] }

/-- 'zzlaws_scenario_b1.FnSplitLabelDecomposes': WHATEVER THE INPUT: true; the input reads as it did. -/
def fnSplitLabelDecomposesSpec : ChangeSpec := { name := "fnSplitLabelDecomposes", fn := fun _ => fun
  | [d] => { results := [.lit (.bool true)], args := [d] }
  | _ => none }
def fnSplitLabelDecomposesRow : OpenClaim := { program := "qxb6001762a", sum := "fab5d1e3c083647ce1be4a098d07a561e38a97a831d19144badaf342b7aaf4f1", func := "example.com/gapwise/gapwise/zzlaws_scenario_b1.FnSplitLabelDecomposes", spec := "fnSplitLabelDecomposes", inPlace := ["internal/bytealg.IndexByteString", "internal/bytealg.IndexString"], named := ["internal/bytealg.MaxLen"], apart := false }
def FnSplitLabelDecomposesSaid : Prop := fnSplitLabelDecomposesRow.holds Try.pinned (OpenSpec.ofChange fnSplitLabelDecomposesSpec)

/-- ITS FALSE NEIGHBOUR: 'it returns false'. Refute it at one input. -/
def fnSplitLabelDecomposesWrong : ChangeSpec := { name := "fnSplitLabelDecomposes", fn := fun _ => fun
  | [d] => { results := [.lit (.bool false)], args := [d] }
  | _ => none }
def FnSplitLabelDecomposesWrongFalsely : Prop := fnSplitLabelDecomposesRow.holds Try.pinned (OpenSpec.ofChange fnSplitLabelDecomposesWrong)

/-- 'zzlaws_scenario_b1.FnSplitLabelAcceptsValidName': WHATEVER THE INPUT: true; the input reads as it did. -/
def fnSplitLabelAcceptsValidNameSpec : ChangeSpec := { name := "fnSplitLabelAcceptsValidName", fn := fun _ => fun
  | [d1, d2] => { results := [.lit (.bool true)], args := [d1, d2] }
  | _ => none }
def fnSplitLabelAcceptsValidNameRow : OpenClaim := { program := "qxb6001762a", sum := "fab5d1e3c083647ce1be4a098d07a561e38a97a831d19144badaf342b7aaf4f1", func := "example.com/gapwise/gapwise/zzlaws_scenario_b1.FnSplitLabelAcceptsValidName", spec := "fnSplitLabelAcceptsValidName", inPlace := ["internal/bytealg.IndexByteString", "internal/bytealg.IndexString"], named := ["internal/bytealg.MaxLen"], apart := false }
def FnSplitLabelAcceptsValidNameSaid : Prop := fnSplitLabelAcceptsValidNameRow.holds Try.pinned (OpenSpec.ofChange fnSplitLabelAcceptsValidNameSpec)

/-- ITS FALSE NEIGHBOUR: 'it returns false'. Refute it at one input. -/
def fnSplitLabelAcceptsValidNameWrong : ChangeSpec := { name := "fnSplitLabelAcceptsValidName", fn := fun _ => fun
  | [d1, d2] => { results := [.lit (.bool false)], args := [d1, d2] }
  | _ => none }
def FnSplitLabelAcceptsValidNameWrongFalsely : Prop := fnSplitLabelAcceptsValidNameRow.holds Try.pinned (OpenSpec.ofChange fnSplitLabelAcceptsValidNameWrong)

/-- 'zzlaws_scenario_b1.FnSplitLabelRefusesBadName': WHATEVER THE INPUT: true; the input reads as it did. -/
def fnSplitLabelRefusesBadNameSpec : ChangeSpec := { name := "fnSplitLabelRefusesBadName", fn := fun _ => fun
  | [d1, d2] => { results := [.lit (.bool true)], args := [d1, d2] }
  | _ => none }
def fnSplitLabelRefusesBadNameRow : OpenClaim := { program := "qxb6001762a", sum := "fab5d1e3c083647ce1be4a098d07a561e38a97a831d19144badaf342b7aaf4f1", func := "example.com/gapwise/gapwise/zzlaws_scenario_b1.FnSplitLabelRefusesBadName", spec := "fnSplitLabelRefusesBadName", inPlace := ["internal/bytealg.IndexByteString", "internal/bytealg.IndexString"], named := ["internal/bytealg.MaxLen"], apart := false }
def FnSplitLabelRefusesBadNameSaid : Prop := fnSplitLabelRefusesBadNameRow.holds Try.pinned (OpenSpec.ofChange fnSplitLabelRefusesBadNameSpec)

/-- ITS FALSE NEIGHBOUR: 'it returns false'. Refute it at one input. -/
def fnSplitLabelRefusesBadNameWrong : ChangeSpec := { name := "fnSplitLabelRefusesBadName", fn := fun _ => fun
  | [d1, d2] => { results := [.lit (.bool false)], args := [d1, d2] }
  | _ => none }
def FnSplitLabelRefusesBadNameWrongFalsely : Prop := fnSplitLabelRefusesBadNameRow.holds Try.pinned (OpenSpec.ofChange fnSplitLabelRefusesBadNameWrong)

/-- 'zzlaws_scenario_b1.FnNullableRoundTripFreshCell': WHATEVER THE INPUT: true; the input reads as it did. -/
def fnNullableRoundTripFreshCellSpec : ChangeSpec := { name := "fnNullableRoundTripFreshCell", fn := fun _ => fun
  | [d] => { results := [.lit (.bool true)], args := [d] }
  | _ => none }
def fnNullableRoundTripFreshCellRow : OpenClaim := { program := "qxb6001762a", sum := "fab5d1e3c083647ce1be4a098d07a561e38a97a831d19144badaf342b7aaf4f1", func := "example.com/gapwise/gapwise/zzlaws_scenario_b1.FnNullableRoundTripFreshCell", spec := "fnNullableRoundTripFreshCell", apart := false }
def FnNullableRoundTripFreshCellSaid : Prop := fnNullableRoundTripFreshCellRow.holds Try.pinned (OpenSpec.ofChange fnNullableRoundTripFreshCellSpec)

/-- ITS FALSE NEIGHBOUR: 'it returns false'. Refute it at one input. -/
def fnNullableRoundTripFreshCellWrong : ChangeSpec := { name := "fnNullableRoundTripFreshCell", fn := fun _ => fun
  | [d] => { results := [.lit (.bool false)], args := [d] }
  | _ => none }
def FnNullableRoundTripFreshCellWrongFalsely : Prop := fnNullableRoundTripFreshCellRow.holds Try.pinned (OpenSpec.ofChange fnNullableRoundTripFreshCellWrong)

/-- 'zzlaws_scenario_b1.FnOrNullAgreesWithNullable': WHATEVER THE INPUT: true; the input reads as it did. -/
def fnOrNullAgreesWithNullableSpec : ChangeSpec := { name := "fnOrNullAgreesWithNullable", fn := fun _ => fun
  | [d] => { results := [.lit (.bool true)], args := [d] }
  | _ => none }
def fnOrNullAgreesWithNullableRow : OpenClaim := { program := "qxb6001762a", sum := "fab5d1e3c083647ce1be4a098d07a561e38a97a831d19144badaf342b7aaf4f1", func := "example.com/gapwise/gapwise/zzlaws_scenario_b1.FnOrNullAgreesWithNullable", spec := "fnOrNullAgreesWithNullable", apart := false }
def FnOrNullAgreesWithNullableSaid : Prop := fnOrNullAgreesWithNullableRow.holds Try.pinned (OpenSpec.ofChange fnOrNullAgreesWithNullableSpec)

/-- ITS FALSE NEIGHBOUR: 'it returns false'. Refute it at one input. -/
def fnOrNullAgreesWithNullableWrong : ChangeSpec := { name := "fnOrNullAgreesWithNullable", fn := fun _ => fun
  | [d] => { results := [.lit (.bool false)], args := [d] }
  | _ => none }
def FnOrNullAgreesWithNullableWrongFalsely : Prop := fnOrNullAgreesWithNullableRow.holds Try.pinned (OpenSpec.ofChange fnOrNullAgreesWithNullableWrong)

end Rows
end Go.Proofs.Qxb6001762a
