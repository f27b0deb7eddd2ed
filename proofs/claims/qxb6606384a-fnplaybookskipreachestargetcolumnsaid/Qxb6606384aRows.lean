/-
  No cell of these rows narrows 'for every input' (looked for: loops, veiled, ifaces, maps, wideKeys, modest, calm, conditions, laid).
  DERIVED. THE GIVEN ROWS OF THIS SEAT. 3 by the template 'for every input the law returns true; each argument reads behind the call as it read before'; 0 by the template 'total and deterministic' (their statements: Qxb6606384aTotals.lean).
  GIVEN WITH THE SEED: the statements are not yours to turn. If you find one false, say at which input.
  Laid BY PROGRAM, IN A SANDBOX (cutbox-rows.mjs): the forced cells as the released guide's own fill.sh prints them over the translation 75e10ce04115254f… (all of the seat's roots in one cut). By AI agents, Wed Nov 11 2026. No macro, syntax, notation, axiom, sorry.
-/
import Derived.Test.Qxb6606384aChecked
import GoSem.Claim
import GoSem.ClaimJoined
import GoSem.ClaimMapViews
import Derived.JoinedTies
import Derived.KernelRfl
namespace Go.Proofs.Qxb6606384a
/- THE CELL 'sum', in the pinned program and in every row, IS THE sha256 OF THE DUMP (.gsa) THAT Qxb6606384aProg.lean LOADS. Nothing in Lean hashes anything: it is a label: what it is worth is what the hold of that sum in a sandbox is worth. -/
noncomputable def Try.pinned : Pinned := { name := "qxb6606384a", sum := "75e10ce04115254fe7a07171bef5107fb291fb19c297c7725e19935a70a5192c", checked := Try.checked }
namespace Rows
def none {H : Type} : Left H := { results := [], args := [] }

/-- 'zzlaws_internal_playbook_b1.FnPlaybookSkipReachesTargetColumn': WHATEVER THE INPUT: true; the input reads as it did. -/
def fnPlaybookSkipReachesTargetColumnSpec : ChangeSpec := { name := "fnPlaybookSkipReachesTargetColumn", fn := fun _ => fun
  | [d1, d2, d3, d4, d5, d6, d7] => { results := [.lit (.bool true)], args := [d1, d2, d3, d4, d5, d6, d7] }
  | _ => none }
def fnPlaybookSkipReachesTargetColumnRow : OpenClaim := { program := "qxb6606384a", sum := "75e10ce04115254fe7a07171bef5107fb291fb19c297c7725e19935a70a5192c", func := "example.com/holdpoint/holdpoint/zzlaws_internal_playbook_b1.FnPlaybookSkipReachesTargetColumn", spec := "fnPlaybookSkipReachesTargetColumn", apart := false }
def FnPlaybookSkipReachesTargetColumnSaid : Prop := fnPlaybookSkipReachesTargetColumnRow.holds Try.pinned (OpenSpec.ofChange fnPlaybookSkipReachesTargetColumnSpec)

/-- ITS FALSE NEIGHBOUR: 'it returns false'. Refute it at one input. -/
def fnPlaybookSkipReachesTargetColumnWrong : ChangeSpec := { name := "fnPlaybookSkipReachesTargetColumn", fn := fun _ => fun
  | [d1, d2, d3, d4, d5, d6, d7] => { results := [.lit (.bool false)], args := [d1, d2, d3, d4, d5, d6, d7] }
  | _ => none }
def FnPlaybookSkipReachesTargetColumnWrongFalsely : Prop := fnPlaybookSkipReachesTargetColumnRow.holds Try.pinned (OpenSpec.ofChange fnPlaybookSkipReachesTargetColumnWrong)

/-- 'zzlaws_internal_playbook_b1.FnPlaybookSkipAdditive': WHATEVER THE INPUT: true; the input reads as it did. -/
def fnPlaybookSkipAdditiveSpec : ChangeSpec := { name := "fnPlaybookSkipAdditive", fn := fun _ => fun
  | [d1, d2, d3, d4, d5, d6, d7, d8] => { results := [.lit (.bool true)], args := [d1, d2, d3, d4, d5, d6, d7, d8] }
  | _ => none }
def fnPlaybookSkipAdditiveRow : OpenClaim := { program := "qxb6606384a", sum := "75e10ce04115254fe7a07171bef5107fb291fb19c297c7725e19935a70a5192c", func := "example.com/holdpoint/holdpoint/zzlaws_internal_playbook_b1.FnPlaybookSkipAdditive", spec := "fnPlaybookSkipAdditive", apart := false }
def FnPlaybookSkipAdditiveSaid : Prop := fnPlaybookSkipAdditiveRow.holds Try.pinned (OpenSpec.ofChange fnPlaybookSkipAdditiveSpec)

/-- ITS FALSE NEIGHBOUR: 'it returns false'. Refute it at one input. -/
def fnPlaybookSkipAdditiveWrong : ChangeSpec := { name := "fnPlaybookSkipAdditive", fn := fun _ => fun
  | [d1, d2, d3, d4, d5, d6, d7, d8] => { results := [.lit (.bool false)], args := [d1, d2, d3, d4, d5, d6, d7, d8] }
  | _ => none }
def FnPlaybookSkipAdditiveWrongFalsely : Prop := fnPlaybookSkipAdditiveRow.holds Try.pinned (OpenSpec.ofChange fnPlaybookSkipAdditiveWrong)

/-- 'zzlaws_internal_playbook_b1.FnPlaybookSkipAdvancesAsIndentCounts': WHATEVER THE INPUT: true; the input reads as it did. -/
def fnPlaybookSkipAdvancesAsIndentCountsSpec : ChangeSpec := { name := "fnPlaybookSkipAdvancesAsIndentCounts", fn := fun _ => fun
  | [d1, d2, d3, d4, d5, d6, d7] => { results := [.lit (.bool true)], args := [d1, d2, d3, d4, d5, d6, d7] }
  | _ => none }
def fnPlaybookSkipAdvancesAsIndentCountsRow : OpenClaim := { program := "qxb6606384a", sum := "75e10ce04115254fe7a07171bef5107fb291fb19c297c7725e19935a70a5192c", func := "example.com/holdpoint/holdpoint/zzlaws_internal_playbook_b1.FnPlaybookSkipAdvancesAsIndentCounts", spec := "fnPlaybookSkipAdvancesAsIndentCounts", apart := false }
def FnPlaybookSkipAdvancesAsIndentCountsSaid : Prop := fnPlaybookSkipAdvancesAsIndentCountsRow.holds Try.pinned (OpenSpec.ofChange fnPlaybookSkipAdvancesAsIndentCountsSpec)

/-- ITS FALSE NEIGHBOUR: 'it returns false'. Refute it at one input. -/
def fnPlaybookSkipAdvancesAsIndentCountsWrong : ChangeSpec := { name := "fnPlaybookSkipAdvancesAsIndentCounts", fn := fun _ => fun
  | [d1, d2, d3, d4, d5, d6, d7] => { results := [.lit (.bool false)], args := [d1, d2, d3, d4, d5, d6, d7] }
  | _ => none }
def FnPlaybookSkipAdvancesAsIndentCountsWrongFalsely : Prop := fnPlaybookSkipAdvancesAsIndentCountsRow.holds Try.pinned (OpenSpec.ofChange fnPlaybookSkipAdvancesAsIndentCountsWrong)

end Rows
end Go.Proofs.Qxb6606384a
