/-
  No cell of these rows narrows 'for every input' (looked for: loops, veiled, ifaces, maps, wideKeys, modest, calm, conditions, laid).
  DERIVED. THE GIVEN ROWS OF THIS SEAT. 7 by the template 'for every input the law returns true; each argument reads behind the call as it read before'; 0 by the template 'total and deterministic' (their statements: Qxb6601407aTotals.lean).
  GIVEN WITH THE SEED: the statements are not yours to turn. If you find one false, say at which input.
  Laid BY PROGRAM, IN A SANDBOX (cutbox-rows.mjs): the forced cells as the released guide's own fill.sh prints them over the translation 18f244cb870a37d8… (all of the seat's roots in one cut). By AI agents, Wed Nov 11 2026. No macro, syntax, notation, axiom, sorry.
-/
import Derived.Test.Qxb6601407aChecked
import GoSem.Claim
import GoSem.ClaimJoined
import GoSem.ClaimMapViews
import Derived.JoinedTies
import Derived.KernelRfl
namespace Go.Proofs.Qxb6601407a
/- THE CELL 'sum', in the pinned program and in every row, IS THE sha256 OF THE DUMP (.gsa) THAT Qxb6601407aProg.lean LOADS. Nothing in Lean hashes anything: it is a label: what it is worth is what the hold of that sum in a sandbox is worth. -/
noncomputable def Try.pinned : Pinned := { name := "qxb6601407a", sum := "18f244cb870a37d80cc6479ae238264f346254c772a575914283e51866efb9eb", checked := Try.checked }
namespace Rows
def none {H : Type} : Left H := { results := [], args := [] }

/-- 'zzlaws_pkg_files_b1.FnPairSetAddReportsEarlierAsking': WHATEVER THE INPUT: true; the input reads as it did. -/
def fnPairSetAddReportsEarlierAskingSpec : ChangeSpec := { name := "fnPairSetAddReportsEarlierAsking", fn := fun _ => fun
  | [d] => { results := [.lit (.bool true)], args := [d] }
  | _ => none }
def fnPairSetAddReportsEarlierAskingRow : OpenClaim := { program := "qxb6601407a", sum := "18f244cb870a37d80cc6479ae238264f346254c772a575914283e51866efb9eb", func := "example.com/pricewright/pricewright/zzlaws_pkg_files_b1.FnPairSetAddReportsEarlierAsking", spec := "fnPairSetAddReportsEarlierAsking", plainKeys := false, apart := false }
def FnPairSetAddReportsEarlierAskingSaid : Prop := fnPairSetAddReportsEarlierAskingRow.holds Try.pinned (OpenSpec.ofChange fnPairSetAddReportsEarlierAskingSpec)

/-- ITS FALSE NEIGHBOUR: 'it returns false'. Refute it at one input. -/
def fnPairSetAddReportsEarlierAskingWrong : ChangeSpec := { name := "fnPairSetAddReportsEarlierAsking", fn := fun _ => fun
  | [d] => { results := [.lit (.bool false)], args := [d] }
  | _ => none }
def FnPairSetAddReportsEarlierAskingWrongFalsely : Prop := fnPairSetAddReportsEarlierAskingRow.holds Try.pinned (OpenSpec.ofChange fnPairSetAddReportsEarlierAskingWrong)

/-- 'zzlaws_pkg_files_b1.FnPairSetAnswersIgnoreBuildingOrder': WHATEVER THE INPUT: true; the input reads as it did. -/
def fnPairSetAnswersIgnoreBuildingOrderSpec : ChangeSpec := { name := "fnPairSetAnswersIgnoreBuildingOrder", fn := fun _ => fun
  | [d1, d2] => { results := [.lit (.bool true)], args := [d1, d2] }
  | _ => none }
def fnPairSetAnswersIgnoreBuildingOrderRow : OpenClaim := { program := "qxb6601407a", sum := "18f244cb870a37d80cc6479ae238264f346254c772a575914283e51866efb9eb", func := "example.com/pricewright/pricewright/zzlaws_pkg_files_b1.FnPairSetAnswersIgnoreBuildingOrder", spec := "fnPairSetAnswersIgnoreBuildingOrder", plainKeys := false, apart := false }
def FnPairSetAnswersIgnoreBuildingOrderSaid : Prop := fnPairSetAnswersIgnoreBuildingOrderRow.holds Try.pinned (OpenSpec.ofChange fnPairSetAnswersIgnoreBuildingOrderSpec)

/-- ITS FALSE NEIGHBOUR: 'it returns false'. Refute it at one input. -/
def fnPairSetAnswersIgnoreBuildingOrderWrong : ChangeSpec := { name := "fnPairSetAnswersIgnoreBuildingOrder", fn := fun _ => fun
  | [d1, d2] => { results := [.lit (.bool false)], args := [d1, d2] }
  | _ => none }
def FnPairSetAnswersIgnoreBuildingOrderWrongFalsely : Prop := fnPairSetAnswersIgnoreBuildingOrderRow.holds Try.pinned (OpenSpec.ofChange fnPairSetAnswersIgnoreBuildingOrderWrong)

/-- 'zzlaws_pkg_files_b1.FnNamesPlaceExactOnHeldState': WHATEVER THE INPUT: true; the input reads as it did. -/
def fnNamesPlaceExactOnHeldStateSpec : ChangeSpec := { name := "fnNamesPlaceExactOnHeldState", fn := fun _ => fun
  | [d1, d2] => { results := [.lit (.bool true)], args := [d1, d2] }
  | _ => none }
def fnNamesPlaceExactOnHeldStateRow : OpenClaim := { program := "qxb6601407a", sum := "18f244cb870a37d80cc6479ae238264f346254c772a575914283e51866efb9eb", func := "example.com/pricewright/pricewright/zzlaws_pkg_files_b1.FnNamesPlaceExactOnHeldState", spec := "fnNamesPlaceExactOnHeldState", plainKeys := false, apart := false }
def FnNamesPlaceExactOnHeldStateSaid : Prop := fnNamesPlaceExactOnHeldStateRow.holds Try.pinned (OpenSpec.ofChange fnNamesPlaceExactOnHeldStateSpec)

/-- ITS FALSE NEIGHBOUR: 'it returns false'. Refute it at one input. -/
def fnNamesPlaceExactOnHeldStateWrong : ChangeSpec := { name := "fnNamesPlaceExactOnHeldState", fn := fun _ => fun
  | [d1, d2] => { results := [.lit (.bool false)], args := [d1, d2] }
  | _ => none }
def FnNamesPlaceExactOnHeldStateWrongFalsely : Prop := fnNamesPlaceExactOnHeldStateRow.holds Try.pinned (OpenSpec.ofChange fnNamesPlaceExactOnHeldStateWrong)

/-- 'zzlaws_pkg_files_b1.FnNamesPlaceNumbersNamesInOrderFirstAsked': WHATEVER THE INPUT: true; the input reads as it did. -/
def fnNamesPlaceNumbersNamesInOrderFirstAskedSpec : ChangeSpec := { name := "fnNamesPlaceNumbersNamesInOrderFirstAsked", fn := fun _ => fun
  | [d] => { results := [.lit (.bool true)], args := [d] }
  | _ => none }
def fnNamesPlaceNumbersNamesInOrderFirstAskedRow : OpenClaim := { program := "qxb6601407a", sum := "18f244cb870a37d80cc6479ae238264f346254c772a575914283e51866efb9eb", func := "example.com/pricewright/pricewright/zzlaws_pkg_files_b1.FnNamesPlaceNumbersNamesInOrderFirstAsked", spec := "fnNamesPlaceNumbersNamesInOrderFirstAsked", plainKeys := false, apart := false }
def FnNamesPlaceNumbersNamesInOrderFirstAskedSaid : Prop := fnNamesPlaceNumbersNamesInOrderFirstAskedRow.holds Try.pinned (OpenSpec.ofChange fnNamesPlaceNumbersNamesInOrderFirstAskedSpec)

/-- ITS FALSE NEIGHBOUR: 'it returns false'. Refute it at one input. -/
def fnNamesPlaceNumbersNamesInOrderFirstAskedWrong : ChangeSpec := { name := "fnNamesPlaceNumbersNamesInOrderFirstAsked", fn := fun _ => fun
  | [d] => { results := [.lit (.bool false)], args := [d] }
  | _ => none }
def FnNamesPlaceNumbersNamesInOrderFirstAskedWrongFalsely : Prop := fnNamesPlaceNumbersNamesInOrderFirstAskedRow.holds Try.pinned (OpenSpec.ofChange fnNamesPlaceNumbersNamesInOrderFirstAskedWrong)

/-- 'zzlaws_pkg_files_b1.FnNamesPlaceGivesBackItsName': WHATEVER THE INPUT: true; the input reads as it did. -/
def fnNamesPlaceGivesBackItsNameSpec : ChangeSpec := { name := "fnNamesPlaceGivesBackItsName", fn := fun _ => fun
  | [d] => { results := [.lit (.bool true)], args := [d] }
  | _ => none }
def fnNamesPlaceGivesBackItsNameRow : OpenClaim := { program := "qxb6601407a", sum := "18f244cb870a37d80cc6479ae238264f346254c772a575914283e51866efb9eb", func := "example.com/pricewright/pricewright/zzlaws_pkg_files_b1.FnNamesPlaceGivesBackItsName", spec := "fnNamesPlaceGivesBackItsName", plainKeys := false, apart := false }
def FnNamesPlaceGivesBackItsNameSaid : Prop := fnNamesPlaceGivesBackItsNameRow.holds Try.pinned (OpenSpec.ofChange fnNamesPlaceGivesBackItsNameSpec)

/-- ITS FALSE NEIGHBOUR: 'it returns false'. Refute it at one input. -/
def fnNamesPlaceGivesBackItsNameWrong : ChangeSpec := { name := "fnNamesPlaceGivesBackItsName", fn := fun _ => fun
  | [d] => { results := [.lit (.bool false)], args := [d] }
  | _ => none }
def FnNamesPlaceGivesBackItsNameWrongFalsely : Prop := fnNamesPlaceGivesBackItsNameRow.holds Try.pinned (OpenSpec.ofChange fnNamesPlaceGivesBackItsNameWrong)

/-- 'zzlaws_pkg_files_b1.FnNamesPlaceKeepsNoHoldOnTheBuffer': WHATEVER THE INPUT: true; the input reads as it did. -/
def fnNamesPlaceKeepsNoHoldOnTheBufferSpec : ChangeSpec := { name := "fnNamesPlaceKeepsNoHoldOnTheBuffer", fn := fun _ => fun
  | [d] => { results := [.lit (.bool true)], args := [d] }
  | _ => none }
def fnNamesPlaceKeepsNoHoldOnTheBufferRow : OpenClaim := { program := "qxb6601407a", sum := "18f244cb870a37d80cc6479ae238264f346254c772a575914283e51866efb9eb", func := "example.com/pricewright/pricewright/zzlaws_pkg_files_b1.FnNamesPlaceKeepsNoHoldOnTheBuffer", spec := "fnNamesPlaceKeepsNoHoldOnTheBuffer", plainKeys := false, apart := false }
def FnNamesPlaceKeepsNoHoldOnTheBufferSaid : Prop := fnNamesPlaceKeepsNoHoldOnTheBufferRow.holds Try.pinned (OpenSpec.ofChange fnNamesPlaceKeepsNoHoldOnTheBufferSpec)

/-- ITS FALSE NEIGHBOUR: 'it returns false'. Refute it at one input. -/
def fnNamesPlaceKeepsNoHoldOnTheBufferWrong : ChangeSpec := { name := "fnNamesPlaceKeepsNoHoldOnTheBuffer", fn := fun _ => fun
  | [d] => { results := [.lit (.bool false)], args := [d] }
  | _ => none }
def FnNamesPlaceKeepsNoHoldOnTheBufferWrongFalsely : Prop := fnNamesPlaceKeepsNoHoldOnTheBufferRow.holds Try.pinned (OpenSpec.ofChange fnNamesPlaceKeepsNoHoldOnTheBufferWrong)

/-- 'zzlaws_pkg_files_b1.FnPairSetAddExactOnAnyState': WHATEVER THE INPUT: true; the input reads as it did. -/
def fnPairSetAddExactOnAnyStateSpec : ChangeSpec := { name := "fnPairSetAddExactOnAnyState", fn := fun _ => fun
  | [d1, d2, d3, d4] => { results := [.lit (.bool true)], args := [d1, d2, d3, d4] }
  | _ => none }
def fnPairSetAddExactOnAnyStateRow : OpenClaim := { program := "qxb6601407a", sum := "18f244cb870a37d80cc6479ae238264f346254c772a575914283e51866efb9eb", func := "example.com/pricewright/pricewright/zzlaws_pkg_files_b1.FnPairSetAddExactOnAnyState", spec := "fnPairSetAddExactOnAnyState", plainKeys := false, apart := false }
def FnPairSetAddExactOnAnyStateSaid : Prop := fnPairSetAddExactOnAnyStateRow.holds Try.pinned (OpenSpec.ofChange fnPairSetAddExactOnAnyStateSpec)

/-- ITS FALSE NEIGHBOUR: 'it returns false'. Refute it at one input. -/
def fnPairSetAddExactOnAnyStateWrong : ChangeSpec := { name := "fnPairSetAddExactOnAnyState", fn := fun _ => fun
  | [d1, d2, d3, d4] => { results := [.lit (.bool false)], args := [d1, d2, d3, d4] }
  | _ => none }
def FnPairSetAddExactOnAnyStateWrongFalsely : Prop := fnPairSetAddExactOnAnyStateRow.holds Try.pinned (OpenSpec.ofChange fnPairSetAddExactOnAnyStateWrong)

end Rows
end Go.Proofs.Qxb6601407a
