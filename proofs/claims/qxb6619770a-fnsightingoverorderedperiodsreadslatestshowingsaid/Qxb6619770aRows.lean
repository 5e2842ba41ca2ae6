/-
  No cell of these rows narrows 'for every input' (looked for: loops, veiled, ifaces, maps, wideKeys, modest, calm, conditions, laid).
  DERIVED. THE GIVEN ROWS OF THIS SEAT. 4 by the template 'for every input the law returns true; each argument reads behind the call as it read before'; 0 by the template 'total and deterministic' (their statements: Qxb6619770aTotals.lean).
  GIVEN WITH THE SEED: the statements are not yours to turn. If you find one false, say at which input.
  Laid BY PROGRAM, IN A SANDBOX (cutbox-rows.mjs): the forced cells as the released guide's own fill.sh prints them over the translation b07fa1e16f2e3322… (all of the seat's roots in one cut). By AI agents, Wed Nov 11 2026. No macro, syntax, notation, axiom, sorry.
-/
import Derived.Test.Qxb6619770aChecked
import GoSem.Claim
import GoSem.ClaimJoined
import GoSem.ClaimMapViews
import Derived.JoinedTies
import Derived.KernelRfl
namespace Go.Proofs.Qxb6619770a
/- THE CELL 'sum', in the pinned program and in every row, IS THE sha256 OF THE DUMP (.gsa) THAT Qxb6619770aProg.lean LOADS. Nothing in Lean hashes anything: it is a label: what it is worth is what the hold of that sum in a sandbox is worth. -/
noncomputable def Try.pinned : Pinned := { name := "qxb6619770a", sum := "b07fa1e16f2e3322b25c3752c7f1837a6a8a2fd0b11acaa6225301799a1ec859", checked := Try.checked }
namespace Rows
def none {H : Type} : Left H := { results := [], args := [] }

/-- 'zzlaws_internal_tzdb_b1.FnFloorDivIsGreatestQuotientBelow': WHATEVER THE INPUT: true; the input reads as it did. -/
def fnFloorDivIsGreatestQuotientBelowSpec : ChangeSpec := { name := "fnFloorDivIsGreatestQuotientBelow", fn := fun _ => fun
  | [d1, d2] => { results := [.lit (.bool true)], args := [d1, d2] }
  | _ => none }
def fnFloorDivIsGreatestQuotientBelowRow : OpenClaim := { program := "qxb6619770a", sum := "b07fa1e16f2e3322b25c3752c7f1837a6a8a2fd0b11acaa6225301799a1ec859", func := "example.com/red-knot/red-knot/zzlaws_internal_tzdb_b1.FnFloorDivIsGreatestQuotientBelow", spec := "fnFloorDivIsGreatestQuotientBelow", apart := false }
def FnFloorDivIsGreatestQuotientBelowSaid : Prop := fnFloorDivIsGreatestQuotientBelowRow.holds Try.pinned (OpenSpec.ofChange fnFloorDivIsGreatestQuotientBelowSpec)

/-- ITS FALSE NEIGHBOUR: 'it returns false'. Refute it at one input. -/
def fnFloorDivIsGreatestQuotientBelowWrong : ChangeSpec := { name := "fnFloorDivIsGreatestQuotientBelow", fn := fun _ => fun
  | [d1, d2] => { results := [.lit (.bool false)], args := [d1, d2] }
  | _ => none }
def FnFloorDivIsGreatestQuotientBelowWrongFalsely : Prop := fnFloorDivIsGreatestQuotientBelowRow.holds Try.pinned (OpenSpec.ofChange fnFloorDivIsGreatestQuotientBelowWrong)

/-- 'zzlaws_internal_tzdb_b1.FnFloorDivComplementAndStep': WHATEVER THE INPUT: true; the input reads as it did. -/
def fnFloorDivComplementAndStepSpec : ChangeSpec := { name := "fnFloorDivComplementAndStep", fn := fun _ => fun
  | [d1, d2] => { results := [.lit (.bool true)], args := [d1, d2] }
  | _ => none }
def fnFloorDivComplementAndStepRow : OpenClaim := { program := "qxb6619770a", sum := "b07fa1e16f2e3322b25c3752c7f1837a6a8a2fd0b11acaa6225301799a1ec859", func := "example.com/red-knot/red-knot/zzlaws_internal_tzdb_b1.FnFloorDivComplementAndStep", spec := "fnFloorDivComplementAndStep", apart := false }
def FnFloorDivComplementAndStepSaid : Prop := fnFloorDivComplementAndStepRow.holds Try.pinned (OpenSpec.ofChange fnFloorDivComplementAndStepSpec)

/-- ITS FALSE NEIGHBOUR: 'it returns false'. Refute it at one input. -/
def fnFloorDivComplementAndStepWrong : ChangeSpec := { name := "fnFloorDivComplementAndStep", fn := fun _ => fun
  | [d1, d2] => { results := [.lit (.bool false)], args := [d1, d2] }
  | _ => none }
def FnFloorDivComplementAndStepWrongFalsely : Prop := fnFloorDivComplementAndStepRow.holds Try.pinned (OpenSpec.ofChange fnFloorDivComplementAndStepWrong)

/-- 'zzlaws_internal_tzdb_b1.FnSightingOverOrderedPeriodsReadsLatestShowing': WHATEVER THE INPUT: true; the input reads as it did. -/
def fnSightingOverOrderedPeriodsReadsLatestShowingSpec : ChangeSpec := { name := "fnSightingOverOrderedPeriodsReadsLatestShowing", fn := fun _ => fun
  | [d1, d2, d3, d4, d5, d6] => { results := [.lit (.bool true)], args := [d1, d2, d3, d4, d5, d6] }
  | _ => none }
def fnSightingOverOrderedPeriodsReadsLatestShowingRow : OpenClaim := { program := "qxb6619770a", sum := "b07fa1e16f2e3322b25c3752c7f1837a6a8a2fd0b11acaa6225301799a1ec859", func := "example.com/red-knot/red-knot/zzlaws_internal_tzdb_b1.FnSightingOverOrderedPeriodsReadsLatestShowing", spec := "fnSightingOverOrderedPeriodsReadsLatestShowing", apart := false }
def FnSightingOverOrderedPeriodsReadsLatestShowingSaid : Prop := fnSightingOverOrderedPeriodsReadsLatestShowingRow.holds Try.pinned (OpenSpec.ofChange fnSightingOverOrderedPeriodsReadsLatestShowingSpec)

/-- ITS FALSE NEIGHBOUR: 'it returns false'. Refute it at one input. -/
def fnSightingOverOrderedPeriodsReadsLatestShowingWrong : ChangeSpec := { name := "fnSightingOverOrderedPeriodsReadsLatestShowing", fn := fun _ => fun
  | [d1, d2, d3, d4, d5, d6] => { results := [.lit (.bool false)], args := [d1, d2, d3, d4, d5, d6] }
  | _ => none }
def FnSightingOverOrderedPeriodsReadsLatestShowingWrongFalsely : Prop := fnSightingOverOrderedPeriodsReadsLatestShowingRow.holds Try.pinned (OpenSpec.ofChange fnSightingOverOrderedPeriodsReadsLatestShowingWrong)

/-- 'zzlaws_internal_tzdb_b1.FnSightingPeriodCutAnywhereReadsTheSame': WHATEVER THE INPUT: true; the input reads as it did. -/
def fnSightingPeriodCutAnywhereReadsTheSameSpec : ChangeSpec := { name := "fnSightingPeriodCutAnywhereReadsTheSame", fn := fun _ => fun
  | [d1, d2, d3, d4, d5, d6, d7, d8, d9, d10] => { results := [.lit (.bool true)], args := [d1, d2, d3, d4, d5, d6, d7, d8, d9, d10] }
  | _ => none }
def fnSightingPeriodCutAnywhereReadsTheSameRow : OpenClaim := { program := "qxb6619770a", sum := "b07fa1e16f2e3322b25c3752c7f1837a6a8a2fd0b11acaa6225301799a1ec859", func := "example.com/red-knot/red-knot/zzlaws_internal_tzdb_b1.FnSightingPeriodCutAnywhereReadsTheSame", spec := "fnSightingPeriodCutAnywhereReadsTheSame", apart := false }
def FnSightingPeriodCutAnywhereReadsTheSameSaid : Prop := fnSightingPeriodCutAnywhereReadsTheSameRow.holds Try.pinned (OpenSpec.ofChange fnSightingPeriodCutAnywhereReadsTheSameSpec)

/-- ITS FALSE NEIGHBOUR: 'it returns false'. Refute it at one input. -/
def fnSightingPeriodCutAnywhereReadsTheSameWrong : ChangeSpec := { name := "fnSightingPeriodCutAnywhereReadsTheSame", fn := fun _ => fun
  | [d1, d2, d3, d4, d5, d6, d7, d8, d9, d10] => { results := [.lit (.bool false)], args := [d1, d2, d3, d4, d5, d6, d7, d8, d9, d10] }
  | _ => none }
def FnSightingPeriodCutAnywhereReadsTheSameWrongFalsely : Prop := fnSightingPeriodCutAnywhereReadsTheSameRow.holds Try.pinned (OpenSpec.ofChange fnSightingPeriodCutAnywhereReadsTheSameWrong)

end Rows
end Go.Proofs.Qxb6619770a
