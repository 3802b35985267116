/-
  No cell of these rows narrows 'for every input' (looked for: loops, veiled, ifaces, maps, wideKeys, modest, calm, conditions, laid).
  DERIVED. THE GIVEN ROWS OF THIS SEAT. 3 by the template 'for every input the law returns true; each argument reads behind the call as it read before'; 0 by the template 'total and deterministic' (their statements: Qxb6002353aTotals.lean).
  GIVEN WITH THE SEED: the statements are not yours to turn. If you find one false, say at which input.
  Laid BY PROGRAM, IN A SANDBOX (cutbox-rows.mjs): the forced cells as the released guide's own fill.sh prints them over the translation 3c1372dee73b97c2… (all of the seat's roots in one cut). By AI agents, Wed Nov 11 2026. No macro, syntax, notation, axiom, sorry.
-/
import Derived.Test.Qxb6002353aChecked
import GoSem.Claim
import GoSem.ClaimJoined
import GoSem.ClaimMapViews
import Derived.JoinedTies
import Derived.KernelRfl
namespace Go.Proofs.Qxb6002353a
/- THE CELL 'sum', in the pinned program and in every row, IS THE sha256 OF THE DUMP (.gsa) THAT Qxb6002353aProg.lean LOADS. Nothing in Lean hashes anything: it is a label: what it is worth is what the hold of that sum in a sandbox is worth. -/
noncomputable def Try.pinned : Pinned := { name := "qxb6002353a", sum := "3c1372dee73b97c2ab29623f5c7617e89a0847650e1be1310d3b185cdeaeaf3c", checked := Try.checked }
namespace Rows
def none {H : Type} : Left H := { results := [], args := [] }

/-- 'zzlaws_suspicion_g1.FnSuspectedAgreesWithOnChange': WHATEVER THE INPUT: true; the input reads as it did. -/
def fnSuspectedAgreesWithOnChangeSpec : ChangeSpec := { name := "fnSuspectedAgreesWithOnChange", fn := fun _ => fun
  | [d1, d2, d3, d4, d5] => { results := [.lit (.bool true)], args := [d1, d2, d3, d4, d5] }
  | _ => none }
def fnSuspectedAgreesWithOnChangeRow : OpenClaim := { program := "qxb6002353a", sum := "3c1372dee73b97c2ab29623f5c7617e89a0847650e1be1310d3b185cdeaeaf3c", func := "example.com/riftwatch/riftwatch/zzlaws_suspicion_g1.FnSuspectedAgreesWithOnChange", spec := "fnSuspectedAgreesWithOnChange", inPlace := ["internal/bytealg.abigen_runtime_cmpstring", "slices.overlaps[*example.com/riftwatch/riftwatch/suspicion.peer]"], unfollowed := true, recurses := true, apart := false }
def FnSuspectedAgreesWithOnChangeSaid : Prop := fnSuspectedAgreesWithOnChangeRow.holds Try.pinned (OpenSpec.ofChange fnSuspectedAgreesWithOnChangeSpec)

/-- ITS FALSE NEIGHBOUR: 'it returns false'. Refute it at one input. -/
def fnSuspectedAgreesWithOnChangeWrong : ChangeSpec := { name := "fnSuspectedAgreesWithOnChange", fn := fun _ => fun
  | [d1, d2, d3, d4, d5] => { results := [.lit (.bool false)], args := [d1, d2, d3, d4, d5] }
  | _ => none }
def FnSuspectedAgreesWithOnChangeWrongFalsely : Prop := fnSuspectedAgreesWithOnChangeRow.holds Try.pinned (OpenSpec.ofChange fnSuspectedAgreesWithOnChangeWrong)

/-- 'zzlaws_suspicion_g1.FnFlushAfterSendIsEmpty': WHATEVER THE INPUT: true; the input reads as it did. -/
def fnFlushAfterSendIsEmptySpec : ChangeSpec := { name := "fnFlushAfterSendIsEmpty", fn := fun _ => fun
  | [d1, d2, d3, d4, d5] => { results := [.lit (.bool true)], args := [d1, d2, d3, d4, d5] }
  | _ => none }
def fnFlushAfterSendIsEmptyRow : OpenClaim := { program := "qxb6002353a", sum := "3c1372dee73b97c2ab29623f5c7617e89a0847650e1be1310d3b185cdeaeaf3c", func := "example.com/riftwatch/riftwatch/zzlaws_suspicion_g1.FnFlushAfterSendIsEmpty", spec := "fnFlushAfterSendIsEmpty", inPlace := ["internal/bytealg.abigen_runtime_cmpstring", "slices.overlaps[*example.com/riftwatch/riftwatch/suspicion.peer]"], unfollowed := true, recurses := true, apart := false }
def FnFlushAfterSendIsEmptySaid : Prop := fnFlushAfterSendIsEmptyRow.holds Try.pinned (OpenSpec.ofChange fnFlushAfterSendIsEmptySpec)

/-- ITS FALSE NEIGHBOUR: 'it returns false'. Refute it at one input. -/
def fnFlushAfterSendIsEmptyWrong : ChangeSpec := { name := "fnFlushAfterSendIsEmpty", fn := fun _ => fun
  | [d1, d2, d3, d4, d5] => { results := [.lit (.bool false)], args := [d1, d2, d3, d4, d5] }
  | _ => none }
def FnFlushAfterSendIsEmptyWrongFalsely : Prop := fnFlushAfterSendIsEmptyRow.holds Try.pinned (OpenSpec.ofChange fnFlushAfterSendIsEmptyWrong)

/-- 'zzlaws_suspicion_g1.FnLosslessNeverSuspectsLive': WHATEVER THE INPUT: true; the input reads as it did. -/
def fnLosslessNeverSuspectsLiveSpec : ChangeSpec := { name := "fnLosslessNeverSuspectsLive", fn := fun _ => fun
  | [d1, d2, d3, d4, d5] => { results := [.lit (.bool true)], args := [d1, d2, d3, d4, d5] }
  | _ => none }
def fnLosslessNeverSuspectsLiveRow : OpenClaim := { program := "qxb6002353a", sum := "3c1372dee73b97c2ab29623f5c7617e89a0847650e1be1310d3b185cdeaeaf3c", func := "example.com/riftwatch/riftwatch/zzlaws_suspicion_g1.FnLosslessNeverSuspectsLive", spec := "fnLosslessNeverSuspectsLive", inPlace := ["internal/bytealg.abigen_runtime_cmpstring", "slices.overlaps[*example.com/riftwatch/riftwatch/suspicion.peer]"], unfollowed := true, recurses := true, apart := false }
def FnLosslessNeverSuspectsLiveSaid : Prop := fnLosslessNeverSuspectsLiveRow.holds Try.pinned (OpenSpec.ofChange fnLosslessNeverSuspectsLiveSpec)

/-- ITS FALSE NEIGHBOUR: 'it returns false'. Refute it at one input. -/
def fnLosslessNeverSuspectsLiveWrong : ChangeSpec := { name := "fnLosslessNeverSuspectsLive", fn := fun _ => fun
  | [d1, d2, d3, d4, d5] => { results := [.lit (.bool false)], args := [d1, d2, d3, d4, d5] }
  | _ => none }
def FnLosslessNeverSuspectsLiveWrongFalsely : Prop := fnLosslessNeverSuspectsLiveRow.holds Try.pinned (OpenSpec.ofChange fnLosslessNeverSuspectsLiveWrong)

end Rows
end Go.Proofs.Qxb6002353a
