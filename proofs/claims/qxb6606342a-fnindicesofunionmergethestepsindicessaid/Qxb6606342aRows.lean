/-
  No cell of these rows narrows 'for every input' (looked for: loops, veiled, ifaces, maps, wideKeys, modest, calm, conditions, laid).
  DERIVED. THE GIVEN ROWS OF THIS SEAT. 4 by the template 'for every input the law returns true; each argument reads behind the call as it read before'; 0 by the template 'total and deterministic' (their statements: Qxb6606342aTotals.lean).
  GIVEN WITH THE SEED: the statements are not yours to turn. If you find one false, say at which input.
  Laid BY PROGRAM, IN A SANDBOX (cutbox-rows.mjs): the forced cells as the released guide's own fill.sh prints them over the translation ca036d5fb75b850a… (all of the seat's roots in one cut). By AI agents, Wed Nov 11 2026. No macro, syntax, notation, axiom, sorry.
-/
import Derived.Test.Qxb6606342aChecked
import GoSem.Claim
import GoSem.ClaimJoined
import GoSem.ClaimMapViews
import Derived.JoinedTies
import Derived.KernelRfl
namespace Go.Proofs.Qxb6606342a
/- THE CELL 'sum', in the pinned program and in every row, IS THE sha256 OF THE DUMP (.gsa) THAT Qxb6606342aProg.lean LOADS. Nothing in Lean hashes anything: it is a label: what it is worth is what the hold of that sum in a sandbox is worth. -/
noncomputable def Try.pinned : Pinned := { name := "qxb6606342a", sum := "ca036d5fb75b850afb87d57e6dfc003f28b7b004317160b10f9f2a0ed46613b0", checked := Try.checked }
namespace Rows
def none {H : Type} : Left H := { results := [], args := [] }

/-- 'zzlaws_internal_related_b1.FnUnionIgnoresOrderAndRepeats': WHATEVER THE INPUT: true; the input reads as it did. -/
def fnUnionIgnoresOrderAndRepeatsSpec : ChangeSpec := { name := "fnUnionIgnoresOrderAndRepeats", fn := fun _ => fun
  | [d1, d2, d3] => { results := [.lit (.bool true)], args := [d1, d2, d3] }
  | _ => none }
def fnUnionIgnoresOrderAndRepeatsRow : OpenClaim := { program := "qxb6606342a", sum := "ca036d5fb75b850afb87d57e6dfc003f28b7b004317160b10f9f2a0ed46613b0", func := "example.com/armslength/armslength/zzlaws_internal_related_b1.FnUnionIgnoresOrderAndRepeats", spec := "fnUnionIgnoresOrderAndRepeats", apart := false }
def FnUnionIgnoresOrderAndRepeatsSaid : Prop := fnUnionIgnoresOrderAndRepeatsRow.holds Try.pinned (OpenSpec.ofChange fnUnionIgnoresOrderAndRepeatsSpec)

/-- ITS FALSE NEIGHBOUR: 'it returns false'. Refute it at one input. -/
def fnUnionIgnoresOrderAndRepeatsWrong : ChangeSpec := { name := "fnUnionIgnoresOrderAndRepeats", fn := fun _ => fun
  | [d1, d2, d3] => { results := [.lit (.bool false)], args := [d1, d2, d3] }
  | _ => none }
def FnUnionIgnoresOrderAndRepeatsWrongFalsely : Prop := fnUnionIgnoresOrderAndRepeatsRow.holds Try.pinned (OpenSpec.ofChange fnUnionIgnoresOrderAndRepeatsWrong)

/-- 'zzlaws_internal_related_b1.FnIndicesOfUnionMergeTheStepsIndices': WHATEVER THE INPUT: true; the input reads as it did. -/
def fnIndicesOfUnionMergeTheStepsIndicesSpec : ChangeSpec := { name := "fnIndicesOfUnionMergeTheStepsIndices", fn := fun _ => fun
  | [d1, d2, d3] => { results := [.lit (.bool true)], args := [d1, d2, d3] }
  | _ => none }
def fnIndicesOfUnionMergeTheStepsIndicesRow : OpenClaim := { program := "qxb6606342a", sum := "ca036d5fb75b850afb87d57e6dfc003f28b7b004317160b10f9f2a0ed46613b0", func := "example.com/armslength/armslength/zzlaws_internal_related_b1.FnIndicesOfUnionMergeTheStepsIndices", spec := "fnIndicesOfUnionMergeTheStepsIndices", apart := false }
def FnIndicesOfUnionMergeTheStepsIndicesSaid : Prop := fnIndicesOfUnionMergeTheStepsIndicesRow.holds Try.pinned (OpenSpec.ofChange fnIndicesOfUnionMergeTheStepsIndicesSpec)

/-- ITS FALSE NEIGHBOUR: 'it returns false'. Refute it at one input. -/
def fnIndicesOfUnionMergeTheStepsIndicesWrong : ChangeSpec := { name := "fnIndicesOfUnionMergeTheStepsIndices", fn := fun _ => fun
  | [d1, d2, d3] => { results := [.lit (.bool false)], args := [d1, d2, d3] }
  | _ => none }
def FnIndicesOfUnionMergeTheStepsIndicesWrongFalsely : Prop := fnIndicesOfUnionMergeTheStepsIndicesRow.holds Try.pinned (OpenSpec.ofChange fnIndicesOfUnionMergeTheStepsIndicesWrong)

/-- 'zzlaws_internal_related_b1.FnIndicesListsExactlyTheTruePlaces': WHATEVER THE INPUT: true; the input reads as it did. -/
def fnIndicesListsExactlyTheTruePlacesSpec : ChangeSpec := { name := "fnIndicesListsExactlyTheTruePlaces", fn := fun _ => fun
  | [d] => { results := [.lit (.bool true)], args := [d] }
  | _ => none }
def fnIndicesListsExactlyTheTruePlacesRow : OpenClaim := { program := "qxb6606342a", sum := "ca036d5fb75b850afb87d57e6dfc003f28b7b004317160b10f9f2a0ed46613b0", func := "example.com/armslength/armslength/zzlaws_internal_related_b1.FnIndicesListsExactlyTheTruePlaces", spec := "fnIndicesListsExactlyTheTruePlaces", apart := false }
def FnIndicesListsExactlyTheTruePlacesSaid : Prop := fnIndicesListsExactlyTheTruePlacesRow.holds Try.pinned (OpenSpec.ofChange fnIndicesListsExactlyTheTruePlacesSpec)

/-- ITS FALSE NEIGHBOUR: 'it returns false'. Refute it at one input. -/
def fnIndicesListsExactlyTheTruePlacesWrong : ChangeSpec := { name := "fnIndicesListsExactlyTheTruePlaces", fn := fun _ => fun
  | [d] => { results := [.lit (.bool false)], args := [d] }
  | _ => none }
def FnIndicesListsExactlyTheTruePlacesWrongFalsely : Prop := fnIndicesListsExactlyTheTruePlacesRow.holds Try.pinned (OpenSpec.ofChange fnIndicesListsExactlyTheTruePlacesWrong)

/-- 'zzlaws_internal_related_b1.FnIndicesOfAConcatenation': WHATEVER THE INPUT: true; the input reads as it did. -/
def fnIndicesOfAConcatenationSpec : ChangeSpec := { name := "fnIndicesOfAConcatenation", fn := fun _ => fun
  | [d1, d2] => { results := [.lit (.bool true)], args := [d1, d2] }
  | _ => none }
def fnIndicesOfAConcatenationRow : OpenClaim := { program := "qxb6606342a", sum := "ca036d5fb75b850afb87d57e6dfc003f28b7b004317160b10f9f2a0ed46613b0", func := "example.com/armslength/armslength/zzlaws_internal_related_b1.FnIndicesOfAConcatenation", spec := "fnIndicesOfAConcatenation", apart := false }
def FnIndicesOfAConcatenationSaid : Prop := fnIndicesOfAConcatenationRow.holds Try.pinned (OpenSpec.ofChange fnIndicesOfAConcatenationSpec)

/-- ITS FALSE NEIGHBOUR: 'it returns false'. Refute it at one input. -/
def fnIndicesOfAConcatenationWrong : ChangeSpec := { name := "fnIndicesOfAConcatenation", fn := fun _ => fun
  | [d1, d2] => { results := [.lit (.bool false)], args := [d1, d2] }
  | _ => none }
def FnIndicesOfAConcatenationWrongFalsely : Prop := fnIndicesOfAConcatenationRow.holds Try.pinned (OpenSpec.ofChange fnIndicesOfAConcatenationWrong)

end Rows
end Go.Proofs.Qxb6606342a
