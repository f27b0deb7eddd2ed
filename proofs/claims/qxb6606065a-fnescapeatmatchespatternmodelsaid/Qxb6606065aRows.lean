/-
  No cell of these rows narrows 'for every input' (looked for: loops, veiled, ifaces, maps, wideKeys, modest, calm, conditions, laid).
  DERIVED. THE GIVEN ROWS OF THIS SEAT. 4 by the template 'for every input the law returns true; each argument reads behind the call as it read before'; 0 by the template 'total and deterministic' (their statements: Qxb6606065aTotals.lean).
  GIVEN WITH THE SEED: the statements are not yours to turn. If you find one false, say at which input.
  Laid BY PROGRAM, IN A SANDBOX (cutbox-rows.mjs): the forced cells as the released guide's own fill.sh prints them over the translation 7f8b8b468878be0a… (all of the seat's roots in one cut). By AI agents, Wed Nov 11 2026. No macro, syntax, notation, axiom, sorry.
-/
import Derived.Test.Qxb6606065aChecked
import GoSem.Claim
import GoSem.ClaimJoined
import GoSem.ClaimMapViews
import Derived.JoinedTies
import Derived.KernelRfl
namespace Go.Proofs.Qxb6606065a
/- THE CELL 'sum', in the pinned program and in every row, IS THE sha256 OF THE DUMP (.gsa) THAT Qxb6606065aProg.lean LOADS. Nothing in Lean hashes anything: it is a label: what it is worth is what the hold of that sum in a sandbox is worth. -/
noncomputable def Try.pinned : Pinned := { name := "qxb6606065a", sum := "7f8b8b468878be0a5d8852353378151bbec54675ab18793ac3325595388ceb96", checked := Try.checked }
namespace Rows
def none {H : Type} : Left H := { results := [], args := [] }

/-- 'zzlaws_internal_jsondoc_b1.FnEscapeAtMatchesPatternModel': WHATEVER THE INPUT: true; the input reads as it did. -/
def fnEscapeAtMatchesPatternModelSpec : ChangeSpec := { name := "fnEscapeAtMatchesPatternModel", fn := fun _ => fun
  | [d] => { results := [.lit (.bool true)], args := [d] }
  | _ => none }
def fnEscapeAtMatchesPatternModelRow : OpenClaim := { program := "qxb6606065a", sum := "7f8b8b468878be0a5d8852353378151bbec54675ab18793ac3325595388ceb96", func := "example.com/sober-bench/sober-bench/zzlaws_internal_jsondoc_b1.FnEscapeAtMatchesPatternModel", spec := "fnEscapeAtMatchesPatternModel", apart := false }
def FnEscapeAtMatchesPatternModelSaid : Prop := fnEscapeAtMatchesPatternModelRow.holds Try.pinned (OpenSpec.ofChange fnEscapeAtMatchesPatternModelSpec)

/-- ITS FALSE NEIGHBOUR: 'it returns false'. Refute it at one input. -/
def fnEscapeAtMatchesPatternModelWrong : ChangeSpec := { name := "fnEscapeAtMatchesPatternModel", fn := fun _ => fun
  | [d] => { results := [.lit (.bool false)], args := [d] }
  | _ => none }
def FnEscapeAtMatchesPatternModelWrongFalsely : Prop := fnEscapeAtMatchesPatternModelRow.holds Try.pinned (OpenSpec.ofChange fnEscapeAtMatchesPatternModelWrong)

/-- 'zzlaws_internal_jsondoc_b1.FnEscapeAtSizeIsBoundedAndDecidedByTwelveBytes': WHATEVER THE INPUT: true; the input reads as it did. -/
def fnEscapeAtSizeIsBoundedAndDecidedByTwelveBytesSpec : ChangeSpec := { name := "fnEscapeAtSizeIsBoundedAndDecidedByTwelveBytes", fn := fun _ => fun
  | [d] => { results := [.lit (.bool true)], args := [d] }
  | _ => none }
def fnEscapeAtSizeIsBoundedAndDecidedByTwelveBytesRow : OpenClaim := { program := "qxb6606065a", sum := "7f8b8b468878be0a5d8852353378151bbec54675ab18793ac3325595388ceb96", func := "example.com/sober-bench/sober-bench/zzlaws_internal_jsondoc_b1.FnEscapeAtSizeIsBoundedAndDecidedByTwelveBytes", spec := "fnEscapeAtSizeIsBoundedAndDecidedByTwelveBytes", apart := false }
def FnEscapeAtSizeIsBoundedAndDecidedByTwelveBytesSaid : Prop := fnEscapeAtSizeIsBoundedAndDecidedByTwelveBytesRow.holds Try.pinned (OpenSpec.ofChange fnEscapeAtSizeIsBoundedAndDecidedByTwelveBytesSpec)

/-- ITS FALSE NEIGHBOUR: 'it returns false'. Refute it at one input. -/
def fnEscapeAtSizeIsBoundedAndDecidedByTwelveBytesWrong : ChangeSpec := { name := "fnEscapeAtSizeIsBoundedAndDecidedByTwelveBytes", fn := fun _ => fun
  | [d] => { results := [.lit (.bool false)], args := [d] }
  | _ => none }
def FnEscapeAtSizeIsBoundedAndDecidedByTwelveBytesWrongFalsely : Prop := fnEscapeAtSizeIsBoundedAndDecidedByTwelveBytesRow.holds Try.pinned (OpenSpec.ofChange fnEscapeAtSizeIsBoundedAndDecidedByTwelveBytesWrong)

/-- 'zzlaws_internal_jsondoc_b1.FnEscapeAtDecidedAnswerHoldsUnderMoreInput': WHATEVER THE INPUT: true; the input reads as it did. -/
def fnEscapeAtDecidedAnswerHoldsUnderMoreInputSpec : ChangeSpec := { name := "fnEscapeAtDecidedAnswerHoldsUnderMoreInput", fn := fun _ => fun
  | [d1, d2] => { results := [.lit (.bool true)], args := [d1, d2] }
  | _ => none }
def fnEscapeAtDecidedAnswerHoldsUnderMoreInputRow : OpenClaim := { program := "qxb6606065a", sum := "7f8b8b468878be0a5d8852353378151bbec54675ab18793ac3325595388ceb96", func := "example.com/sober-bench/sober-bench/zzlaws_internal_jsondoc_b1.FnEscapeAtDecidedAnswerHoldsUnderMoreInput", spec := "fnEscapeAtDecidedAnswerHoldsUnderMoreInput", apart := false }
def FnEscapeAtDecidedAnswerHoldsUnderMoreInputSaid : Prop := fnEscapeAtDecidedAnswerHoldsUnderMoreInputRow.holds Try.pinned (OpenSpec.ofChange fnEscapeAtDecidedAnswerHoldsUnderMoreInputSpec)

/-- ITS FALSE NEIGHBOUR: 'it returns false'. Refute it at one input. -/
def fnEscapeAtDecidedAnswerHoldsUnderMoreInputWrong : ChangeSpec := { name := "fnEscapeAtDecidedAnswerHoldsUnderMoreInput", fn := fun _ => fun
  | [d1, d2] => { results := [.lit (.bool false)], args := [d1, d2] }
  | _ => none }
def FnEscapeAtDecidedAnswerHoldsUnderMoreInputWrongFalsely : Prop := fnEscapeAtDecidedAnswerHoldsUnderMoreInputRow.holds Try.pinned (OpenSpec.ofChange fnEscapeAtDecidedAnswerHoldsUnderMoreInputWrong)

/-- 'zzlaws_internal_jsondoc_b1.FnHalfMatchesHexValueModel': WHATEVER THE INPUT: true; the input reads as it did. -/
def fnHalfMatchesHexValueModelSpec : ChangeSpec := { name := "fnHalfMatchesHexValueModel", fn := fun _ => fun
  | [d] => { results := [.lit (.bool true)], args := [d] }
  | _ => none }
def fnHalfMatchesHexValueModelRow : OpenClaim := { program := "qxb6606065a", sum := "7f8b8b468878be0a5d8852353378151bbec54675ab18793ac3325595388ceb96", func := "example.com/sober-bench/sober-bench/zzlaws_internal_jsondoc_b1.FnHalfMatchesHexValueModel", spec := "fnHalfMatchesHexValueModel", apart := false }
def FnHalfMatchesHexValueModelSaid : Prop := fnHalfMatchesHexValueModelRow.holds Try.pinned (OpenSpec.ofChange fnHalfMatchesHexValueModelSpec)

/-- ITS FALSE NEIGHBOUR: 'it returns false'. Refute it at one input. -/
def fnHalfMatchesHexValueModelWrong : ChangeSpec := { name := "fnHalfMatchesHexValueModel", fn := fun _ => fun
  | [d] => { results := [.lit (.bool false)], args := [d] }
  | _ => none }
def FnHalfMatchesHexValueModelWrongFalsely : Prop := fnHalfMatchesHexValueModelRow.holds Try.pinned (OpenSpec.ofChange fnHalfMatchesHexValueModelWrong)

end Rows
end Go.Proofs.Qxb6606065a
