/-
  No cell of these rows narrows 'for every input' (looked for: loops, veiled, ifaces, maps, wideKeys, modest, calm, conditions, laid).
  DERIVED. THE GIVEN ROWS OF THIS SEAT. 5 by the template 'for every input the law returns true; each argument reads behind the call as it read before'; 0 by the template 'total and deterministic' (their statements: Qxb6621702aTotals.lean).
  GIVEN WITH THE SEED: the statements are not yours to turn. If you find one false, say at which input.
  Laid BY PROGRAM, IN A SANDBOX (cutbox-rows.mjs): the forced cells as the released guide's own fill.sh prints them over the translation 4b76510f250be7e3… (all of the seat's roots in one cut). By AI agents, Wed Nov 11 2026. No macro, syntax, notation, axiom, sorry.
-/
import Derived.Test.Qxb6621702aChecked
import GoSem.Claim
import GoSem.ClaimJoined
import GoSem.ClaimMapViews
import Derived.JoinedTies
import Derived.KernelRfl
namespace Go.Proofs.Qxb6621702a
/- THE CELL 'sum', in the pinned program and in every row, IS THE sha256 OF THE DUMP (.gsa) THAT Qxb6621702aProg.lean LOADS. Nothing in Lean hashes anything: it is a label: what it is worth is what the hold of that sum in a sandbox is worth. -/
noncomputable def Try.pinned : Pinned := { name := "qxb6621702a", sum := "4b76510f250be7e3bcb2b3d68b93bfe24de6ab1cef046f50b965b21271e4e9bb", checked := Try.checked }
namespace Rows
def none {H : Type} : Left H := { results := [], args := [] }

/-- 'zzlaws_internal_instanceid_b1.FnEncodeDecodeRoundTrip': WHATEVER THE INPUT: true; the input reads as it did. -/
def fnEncodeDecodeRoundTripSpec : ChangeSpec := { name := "fnEncodeDecodeRoundTrip", fn := fun _ => fun
  | [d1, d2] => { results := [.lit (.bool true)], args := [d1, d2] }
  | _ => none }
def fnEncodeDecodeRoundTripRow : OpenClaim := { program := "qxb6621702a", sum := "4b76510f250be7e3bcb2b3d68b93bfe24de6ab1cef046f50b965b21271e4e9bb", func := "example.com/moorings/moorings/zzlaws_internal_instanceid_b1.FnEncodeDecodeRoundTrip", spec := "fnEncodeDecodeRoundTrip", inPlace := ["internal/bytealg.IndexByteString"], apart := false }
def FnEncodeDecodeRoundTripSaid : Prop := fnEncodeDecodeRoundTripRow.holds Try.pinned (OpenSpec.ofChange fnEncodeDecodeRoundTripSpec)

/-- ITS FALSE NEIGHBOUR: 'it returns false'. Refute it at one input. -/
def fnEncodeDecodeRoundTripWrong : ChangeSpec := { name := "fnEncodeDecodeRoundTrip", fn := fun _ => fun
  | [d1, d2] => { results := [.lit (.bool false)], args := [d1, d2] }
  | _ => none }
def FnEncodeDecodeRoundTripWrongFalsely : Prop := fnEncodeDecodeRoundTripRow.holds Try.pinned (OpenSpec.ofChange fnEncodeDecodeRoundTripWrong)

/-- 'zzlaws_internal_instanceid_b1.FnEncodeOrderIsValueOrder': WHATEVER THE INPUT: true; the input reads as it did. -/
def fnEncodeOrderIsValueOrderSpec : ChangeSpec := { name := "fnEncodeOrderIsValueOrder", fn := fun _ => fun
  | [d1, d2, d3, d4] => { results := [.lit (.bool true)], args := [d1, d2, d3, d4] }
  | _ => none }
def fnEncodeOrderIsValueOrderRow : OpenClaim := { program := "qxb6621702a", sum := "4b76510f250be7e3bcb2b3d68b93bfe24de6ab1cef046f50b965b21271e4e9bb", func := "example.com/moorings/moorings/zzlaws_internal_instanceid_b1.FnEncodeOrderIsValueOrder", spec := "fnEncodeOrderIsValueOrder", apart := false }
def FnEncodeOrderIsValueOrderSaid : Prop := fnEncodeOrderIsValueOrderRow.holds Try.pinned (OpenSpec.ofChange fnEncodeOrderIsValueOrderSpec)

/-- ITS FALSE NEIGHBOUR: 'it returns false'. Refute it at one input. -/
def fnEncodeOrderIsValueOrderWrong : ChangeSpec := { name := "fnEncodeOrderIsValueOrder", fn := fun _ => fun
  | [d1, d2, d3, d4] => { results := [.lit (.bool false)], args := [d1, d2, d3, d4] }
  | _ => none }
def FnEncodeOrderIsValueOrderWrongFalsely : Prop := fnEncodeOrderIsValueOrderRow.holds Try.pinned (OpenSpec.ofChange fnEncodeOrderIsValueOrderWrong)

/-- 'zzlaws_internal_instanceid_b1.FnDecodeAcceptsExactlySuffixes': WHATEVER THE INPUT: true; the input reads as it did. -/
def fnDecodeAcceptsExactlySuffixesSpec : ChangeSpec := { name := "fnDecodeAcceptsExactlySuffixes", fn := fun _ => fun
  | [d] => { results := [.lit (.bool true)], args := [d] }
  | _ => none }
def fnDecodeAcceptsExactlySuffixesRow : OpenClaim := { program := "qxb6621702a", sum := "4b76510f250be7e3bcb2b3d68b93bfe24de6ab1cef046f50b965b21271e4e9bb", func := "example.com/moorings/moorings/zzlaws_internal_instanceid_b1.FnDecodeAcceptsExactlySuffixes", spec := "fnDecodeAcceptsExactlySuffixes", inPlace := ["internal/bytealg.IndexByteString"], apart := false }
def FnDecodeAcceptsExactlySuffixesSaid : Prop := fnDecodeAcceptsExactlySuffixesRow.holds Try.pinned (OpenSpec.ofChange fnDecodeAcceptsExactlySuffixesSpec)

/-- ITS FALSE NEIGHBOUR: 'it returns false'. Refute it at one input. -/
def fnDecodeAcceptsExactlySuffixesWrong : ChangeSpec := { name := "fnDecodeAcceptsExactlySuffixes", fn := fun _ => fun
  | [d] => { results := [.lit (.bool false)], args := [d] }
  | _ => none }
def FnDecodeAcceptsExactlySuffixesWrongFalsely : Prop := fnDecodeAcceptsExactlySuffixesRow.holds Try.pinned (OpenSpec.ofChange fnDecodeAcceptsExactlySuffixesWrong)

/-- 'zzlaws_internal_instanceid_b1.FnNextIsSuccessor': WHATEVER THE INPUT: true; the input reads as it did. -/
def fnNextIsSuccessorSpec : ChangeSpec := { name := "fnNextIsSuccessor", fn := fun _ => fun
  | [d1, d2, d3, d4] => { results := [.lit (.bool true)], args := [d1, d2, d3, d4] }
  | _ => none }
def fnNextIsSuccessorRow : OpenClaim := { program := "qxb6621702a", sum := "4b76510f250be7e3bcb2b3d68b93bfe24de6ab1cef046f50b965b21271e4e9bb", func := "example.com/moorings/moorings/zzlaws_internal_instanceid_b1.FnNextIsSuccessor", spec := "fnNextIsSuccessor", apart := false }
def FnNextIsSuccessorSaid : Prop := fnNextIsSuccessorRow.holds Try.pinned (OpenSpec.ofChange fnNextIsSuccessorSpec)

/-- ITS FALSE NEIGHBOUR: 'it returns false'. Refute it at one input. -/
def fnNextIsSuccessorWrong : ChangeSpec := { name := "fnNextIsSuccessor", fn := fun _ => fun
  | [d1, d2, d3, d4] => { results := [.lit (.bool false)], args := [d1, d2, d3, d4] }
  | _ => none }
def FnNextIsSuccessorWrongFalsely : Prop := fnNextIsSuccessorRow.holds Try.pinned (OpenSpec.ofChange fnNextIsSuccessorWrong)

/-- 'zzlaws_internal_instanceid_b1.FnNextIdSortsRightAfter': WHATEVER THE INPUT: true; the input reads as it did. -/
def fnNextIdSortsRightAfterSpec : ChangeSpec := { name := "fnNextIdSortsRightAfter", fn := fun _ => fun
  | [d1, d2, d3, d4] => { results := [.lit (.bool true)], args := [d1, d2, d3, d4] }
  | _ => none }
def fnNextIdSortsRightAfterRow : OpenClaim := { program := "qxb6621702a", sum := "4b76510f250be7e3bcb2b3d68b93bfe24de6ab1cef046f50b965b21271e4e9bb", func := "example.com/moorings/moorings/zzlaws_internal_instanceid_b1.FnNextIdSortsRightAfter", spec := "fnNextIdSortsRightAfter", apart := false }
def FnNextIdSortsRightAfterSaid : Prop := fnNextIdSortsRightAfterRow.holds Try.pinned (OpenSpec.ofChange fnNextIdSortsRightAfterSpec)

/-- ITS FALSE NEIGHBOUR: 'it returns false'. Refute it at one input. -/
def fnNextIdSortsRightAfterWrong : ChangeSpec := { name := "fnNextIdSortsRightAfter", fn := fun _ => fun
  | [d1, d2, d3, d4] => { results := [.lit (.bool false)], args := [d1, d2, d3, d4] }
  | _ => none }
def FnNextIdSortsRightAfterWrongFalsely : Prop := fnNextIdSortsRightAfterRow.holds Try.pinned (OpenSpec.ofChange fnNextIdSortsRightAfterWrong)

end Rows
end Go.Proofs.Qxb6621702a
