/-
  No cell of these rows narrows 'for every input' (looked for: loops, veiled, ifaces, maps, wideKeys, modest, calm, conditions, laid).
  DERIVED. THE GIVEN ROWS OF THIS SEAT. 6 by the template 'for every input the law returns true; each argument reads behind the call as it read before'; 0 by the template 'total and deterministic' (their statements: Qxb6612560aTotals.lean).
  GIVEN WITH THE SEED: the statements are not yours to turn. If you find one false, say at which input.
  Laid BY PROGRAM, IN A SANDBOX (cutbox-rows.mjs): the forced cells as the released guide's own fill.sh prints them over the translation 88019b1c22c39d98… (all of the seat's roots in one cut). By AI agents, Wed Nov 11 2026. No macro, syntax, notation, axiom, sorry.
-/
import Derived.Test.Qxb6612560aChecked
import GoSem.Claim
import GoSem.ClaimJoined
import GoSem.ClaimMapViews
import Derived.JoinedTies
import Derived.KernelRfl
namespace Go.Proofs.Qxb6612560a
/- THE CELL 'sum', in the pinned program and in every row, IS THE sha256 OF THE DUMP (.gsa) THAT Qxb6612560aProg.lean LOADS. Nothing in Lean hashes anything: it is a label: what it is worth is what the hold of that sum in a sandbox is worth. -/
noncomputable def Try.pinned : Pinned := { name := "qxb6612560a", sum := "88019b1c22c39d98cc01e8b8c5a4ed0a88c7f59b5431d6363b229286deb5267d", checked := Try.checked }
namespace Rows
def none {H : Type} : Left H := { results := [], args := [] }

/-- 'zzlaws_native_b1.FnNamespaceOfQualifiedBareName': WHATEVER THE INPUT: true; the input reads as it did. -/
def fnNamespaceOfQualifiedBareNameSpec : ChangeSpec := { name := "fnNamespaceOfQualifiedBareName", fn := fun _ => fun
  | [d1, d2] => { results := [.lit (.bool true)], args := [d1, d2] }
  | _ => none }
def fnNamespaceOfQualifiedBareNameRow : OpenClaim := { program := "qxb6612560a", sum := "88019b1c22c39d98cc01e8b8c5a4ed0a88c7f59b5431d6363b229286deb5267d", func := "example.com/blockwright/blockwright/zzlaws_native_b1.FnNamespaceOfQualifiedBareName", spec := "fnNamespaceOfQualifiedBareName", apart := false }
def FnNamespaceOfQualifiedBareNameSaid : Prop := fnNamespaceOfQualifiedBareNameRow.holds Try.pinned (OpenSpec.ofChange fnNamespaceOfQualifiedBareNameSpec)

/-- ITS FALSE NEIGHBOUR: 'it returns false'. Refute it at one input. -/
def fnNamespaceOfQualifiedBareNameWrong : ChangeSpec := { name := "fnNamespaceOfQualifiedBareName", fn := fun _ => fun
  | [d1, d2] => { results := [.lit (.bool false)], args := [d1, d2] }
  | _ => none }
def FnNamespaceOfQualifiedBareNameWrongFalsely : Prop := fnNamespaceOfQualifiedBareNameRow.holds Try.pinned (OpenSpec.ofChange fnNamespaceOfQualifiedBareNameWrong)

/-- 'zzlaws_native_b1.FnNamespaceGrowsByASegment': WHATEVER THE INPUT: true; the input reads as it did. -/
def fnNamespaceGrowsByASegmentSpec : ChangeSpec := { name := "fnNamespaceGrowsByASegment", fn := fun _ => fun
  | [d1, d2, d3] => { results := [.lit (.bool true)], args := [d1, d2, d3] }
  | _ => none }
def fnNamespaceGrowsByASegmentRow : OpenClaim := { program := "qxb6612560a", sum := "88019b1c22c39d98cc01e8b8c5a4ed0a88c7f59b5431d6363b229286deb5267d", func := "example.com/blockwright/blockwright/zzlaws_native_b1.FnNamespaceGrowsByASegment", spec := "fnNamespaceGrowsByASegment", apart := false }
def FnNamespaceGrowsByASegmentSaid : Prop := fnNamespaceGrowsByASegmentRow.holds Try.pinned (OpenSpec.ofChange fnNamespaceGrowsByASegmentSpec)

/-- ITS FALSE NEIGHBOUR: 'it returns false'. Refute it at one input. -/
def fnNamespaceGrowsByASegmentWrong : ChangeSpec := { name := "fnNamespaceGrowsByASegment", fn := fun _ => fun
  | [d1, d2, d3] => { results := [.lit (.bool false)], args := [d1, d2, d3] }
  | _ => none }
def FnNamespaceGrowsByASegmentWrongFalsely : Prop := fnNamespaceGrowsByASegmentRow.holds Try.pinned (OpenSpec.ofChange fnNamespaceGrowsByASegmentWrong)

/-- 'zzlaws_native_b1.FnMoveToInTwoStepsAsInOne': WHATEVER THE INPUT: true; the input reads as it did. -/
def fnMoveToInTwoStepsAsInOneSpec : ChangeSpec := { name := "fnMoveToInTwoStepsAsInOne", fn := fun _ => fun
  | [d1, d2, d3, d4, d5, d6] => { results := [.lit (.bool true)], args := [d1, d2, d3, d4, d5, d6] }
  | _ => none }
def fnMoveToInTwoStepsAsInOneRow : OpenClaim := { program := "qxb6612560a", sum := "88019b1c22c39d98cc01e8b8c5a4ed0a88c7f59b5431d6363b229286deb5267d", func := "example.com/blockwright/blockwright/zzlaws_native_b1.FnMoveToInTwoStepsAsInOne", spec := "fnMoveToInTwoStepsAsInOne", apart := false }
def FnMoveToInTwoStepsAsInOneSaid : Prop := fnMoveToInTwoStepsAsInOneRow.holds Try.pinned (OpenSpec.ofChange fnMoveToInTwoStepsAsInOneSpec)

/-- ITS FALSE NEIGHBOUR: 'it returns false'. Refute it at one input. -/
def fnMoveToInTwoStepsAsInOneWrong : ChangeSpec := { name := "fnMoveToInTwoStepsAsInOne", fn := fun _ => fun
  | [d1, d2, d3, d4, d5, d6] => { results := [.lit (.bool false)], args := [d1, d2, d3, d4, d5, d6] }
  | _ => none }
def FnMoveToInTwoStepsAsInOneWrongFalsely : Prop := fnMoveToInTwoStepsAsInOneRow.holds Try.pinned (OpenSpec.ofChange fnMoveToInTwoStepsAsInOneWrong)

/-- 'zzlaws_native_b1.FnMoveToShiftsWithItsStart': WHATEVER THE INPUT: true; the input reads as it did. -/
def fnMoveToShiftsWithItsStartSpec : ChangeSpec := { name := "fnMoveToShiftsWithItsStart", fn := fun _ => fun
  | [d1, d2, d3, d4, d5, d6, d7] => { results := [.lit (.bool true)], args := [d1, d2, d3, d4, d5, d6, d7] }
  | _ => none }
def fnMoveToShiftsWithItsStartRow : OpenClaim := { program := "qxb6612560a", sum := "88019b1c22c39d98cc01e8b8c5a4ed0a88c7f59b5431d6363b229286deb5267d", func := "example.com/blockwright/blockwright/zzlaws_native_b1.FnMoveToShiftsWithItsStart", spec := "fnMoveToShiftsWithItsStart", apart := false }
def FnMoveToShiftsWithItsStartSaid : Prop := fnMoveToShiftsWithItsStartRow.holds Try.pinned (OpenSpec.ofChange fnMoveToShiftsWithItsStartSpec)

/-- ITS FALSE NEIGHBOUR: 'it returns false'. Refute it at one input. -/
def fnMoveToShiftsWithItsStartWrong : ChangeSpec := { name := "fnMoveToShiftsWithItsStart", fn := fun _ => fun
  | [d1, d2, d3, d4, d5, d6, d7] => { results := [.lit (.bool false)], args := [d1, d2, d3, d4, d5, d6, d7] }
  | _ => none }
def FnMoveToShiftsWithItsStartWrongFalsely : Prop := fnMoveToShiftsWithItsStartRow.holds Try.pinned (OpenSpec.ofChange fnMoveToShiftsWithItsStartWrong)

/-- 'zzlaws_native_b1.FnTextPartStandsWhereItsTokenStands': WHATEVER THE INPUT: true; the input reads as it did. -/
def fnTextPartStandsWhereItsTokenStandsSpec : ChangeSpec := { name := "fnTextPartStandsWhereItsTokenStands", fn := fun _ => fun
  | [d1, d2, d3, d4, d5, d6, d7, d8, d9, d10] => { results := [.lit (.bool true)], args := [d1, d2, d3, d4, d5, d6, d7, d8, d9, d10] }
  | _ => none }
def fnTextPartStandsWhereItsTokenStandsRow : OpenClaim := { program := "qxb6612560a", sum := "88019b1c22c39d98cc01e8b8c5a4ed0a88c7f59b5431d6363b229286deb5267d", func := "example.com/blockwright/blockwright/zzlaws_native_b1.FnTextPartStandsWhereItsTokenStands", spec := "fnTextPartStandsWhereItsTokenStands", apart := false }
def FnTextPartStandsWhereItsTokenStandsSaid : Prop := fnTextPartStandsWhereItsTokenStandsRow.holds Try.pinned (OpenSpec.ofChange fnTextPartStandsWhereItsTokenStandsSpec)

/-- ITS FALSE NEIGHBOUR: 'it returns false'. Refute it at one input. -/
def fnTextPartStandsWhereItsTokenStandsWrong : ChangeSpec := { name := "fnTextPartStandsWhereItsTokenStands", fn := fun _ => fun
  | [d1, d2, d3, d4, d5, d6, d7, d8, d9, d10] => { results := [.lit (.bool false)], args := [d1, d2, d3, d4, d5, d6, d7, d8, d9, d10] }
  | _ => none }
def FnTextPartStandsWhereItsTokenStandsWrongFalsely : Prop := fnTextPartStandsWhereItsTokenStandsRow.holds Try.pinned (OpenSpec.ofChange fnTextPartStandsWhereItsTokenStandsWrong)

/-- 'zzlaws_native_b1.FnTextPartGathersIndentedPartsInOrder': WHATEVER THE INPUT: true; the input reads as it did. -/
def fnTextPartGathersIndentedPartsInOrderSpec : ChangeSpec := { name := "fnTextPartGathersIndentedPartsInOrder", fn := fun _ => fun
  | [d1, d2] => { results := [.lit (.bool true)], args := [d1, d2] }
  | _ => none }
def fnTextPartGathersIndentedPartsInOrderRow : OpenClaim := { program := "qxb6612560a", sum := "88019b1c22c39d98cc01e8b8c5a4ed0a88c7f59b5431d6363b229286deb5267d", func := "example.com/blockwright/blockwright/zzlaws_native_b1.FnTextPartGathersIndentedPartsInOrder", spec := "fnTextPartGathersIndentedPartsInOrder", apart := false }
def FnTextPartGathersIndentedPartsInOrderSaid : Prop := fnTextPartGathersIndentedPartsInOrderRow.holds Try.pinned (OpenSpec.ofChange fnTextPartGathersIndentedPartsInOrderSpec)

/-- ITS FALSE NEIGHBOUR: 'it returns false'. Refute it at one input. -/
def fnTextPartGathersIndentedPartsInOrderWrong : ChangeSpec := { name := "fnTextPartGathersIndentedPartsInOrder", fn := fun _ => fun
  | [d1, d2] => { results := [.lit (.bool false)], args := [d1, d2] }
  | _ => none }
def FnTextPartGathersIndentedPartsInOrderWrongFalsely : Prop := fnTextPartGathersIndentedPartsInOrderRow.holds Try.pinned (OpenSpec.ofChange fnTextPartGathersIndentedPartsInOrderWrong)

end Rows
end Go.Proofs.Qxb6612560a
