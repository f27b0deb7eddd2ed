/-
  No cell of these rows narrows 'for every input' (looked for: loops, veiled, ifaces, maps, wideKeys, modest, calm, conditions, laid).
  DERIVED. THE GIVEN ROWS OF THIS SEAT. 4 by the template 'for every input the law returns true; each argument reads behind the call as it read before'; 0 by the template 'total and deterministic' (their statements: Qxb6003666aTotals.lean).
  GIVEN WITH THE SEED: the statements are not yours to turn. If you find one false, say at which input.
  Laid BY PROGRAM, IN A SANDBOX (cutbox-rows.mjs): the forced cells as the released guide's own fill.sh prints them over the translation a2442f4febdc2abf… (all of the seat's roots in one cut). By AI agents, Wed Nov 11 2026. No macro, syntax, notation, axiom, sorry.
-/
import Derived.Test.Qxb6003666aChecked
import GoSem.Claim
import GoSem.ClaimJoined
import GoSem.ClaimMapViews
import Derived.JoinedTies
import Derived.KernelRfl
namespace Go.Proofs.Qxb6003666a
/- THE CELL 'sum', in the pinned program and in every row, IS THE sha256 OF THE DUMP (.gsa) THAT Qxb6003666aProg.lean LOADS. Nothing in Lean hashes anything: it is a label: what it is worth is what the hold of that sum in a sandbox is worth. -/
noncomputable def Try.pinned : Pinned := { name := "qxb6003666a", sum := "a2442f4febdc2abfd25c54e62cbdaa63178a47da70a3714221d328986cd310ee", checked := Try.checked }
namespace Rows
def none {H : Type} : Left H := { results := [], args := [] }

/-- 'zzlaws_xml_g1.FnURITextWiderExtraAcceptsMore': WHATEVER THE INPUT: true; the input reads as it did. -/
def fnURITextWiderExtraAcceptsMoreSpec : ChangeSpec := { name := "fnURITextWiderExtraAcceptsMore", fn := fun _ => fun
  | [d1, d2, d3] => { results := [.lit (.bool true)], args := [d1, d2, d3] }
  | _ => none }
def fnURITextWiderExtraAcceptsMoreRow : OpenClaim := { program := "qxb6003666a", sum := "a2442f4febdc2abfd25c54e62cbdaa63178a47da70a3714221d328986cd310ee", func := "example.com/lineform/lineform/zzlaws_xml_g1.FnURITextWiderExtraAcceptsMore", spec := "fnURITextWiderExtraAcceptsMore", inPlace := ["internal/bytealg.IndexByteString"], apart := false }
def FnURITextWiderExtraAcceptsMoreSaid : Prop := fnURITextWiderExtraAcceptsMoreRow.holds Try.pinned (OpenSpec.ofChange fnURITextWiderExtraAcceptsMoreSpec)

/-- ITS FALSE NEIGHBOUR: 'it returns false'. Refute it at one input. -/
def fnURITextWiderExtraAcceptsMoreWrong : ChangeSpec := { name := "fnURITextWiderExtraAcceptsMore", fn := fun _ => fun
  | [d1, d2, d3] => { results := [.lit (.bool false)], args := [d1, d2, d3] }
  | _ => none }
def FnURITextWiderExtraAcceptsMoreWrongFalsely : Prop := fnURITextWiderExtraAcceptsMoreRow.holds Try.pinned (OpenSpec.ofChange fnURITextWiderExtraAcceptsMoreWrong)

/-- 'zzlaws_xml_g1.FnURITextRefusesAForeignByte': WHATEVER THE INPUT: true; the input reads as it did. -/
def fnURITextRefusesAForeignByteSpec : ChangeSpec := { name := "fnURITextRefusesAForeignByte", fn := fun _ => fun
  | [d1, d2, d3, d4] => { results := [.lit (.bool true)], args := [d1, d2, d3, d4] }
  | _ => none }
def fnURITextRefusesAForeignByteRow : OpenClaim := { program := "qxb6003666a", sum := "a2442f4febdc2abfd25c54e62cbdaa63178a47da70a3714221d328986cd310ee", func := "example.com/lineform/lineform/zzlaws_xml_g1.FnURITextRefusesAForeignByte", spec := "fnURITextRefusesAForeignByte", inPlace := ["internal/bytealg.IndexByteString"], apart := false }
def FnURITextRefusesAForeignByteSaid : Prop := fnURITextRefusesAForeignByteRow.holds Try.pinned (OpenSpec.ofChange fnURITextRefusesAForeignByteSpec)

/-- ITS FALSE NEIGHBOUR: 'it returns false'. Refute it at one input. -/
def fnURITextRefusesAForeignByteWrong : ChangeSpec := { name := "fnURITextRefusesAForeignByte", fn := fun _ => fun
  | [d1, d2, d3, d4] => { results := [.lit (.bool false)], args := [d1, d2, d3, d4] }
  | _ => none }
def FnURITextRefusesAForeignByteWrongFalsely : Prop := fnURITextRefusesAForeignByteRow.holds Try.pinned (OpenSpec.ofChange fnURITextRefusesAForeignByteWrong)

/-- 'zzlaws_xml_g1.FnSchemePrefixClosedCaseFreeAndURIText': WHATEVER THE INPUT: true; the input reads as it did. -/
def fnSchemePrefixClosedCaseFreeAndURITextSpec : ChangeSpec := { name := "fnSchemePrefixClosedCaseFreeAndURIText", fn := fun _ => fun
  | [d] => { results := [.lit (.bool true)], args := [d] }
  | _ => none }
def fnSchemePrefixClosedCaseFreeAndURITextRow : OpenClaim := { program := "qxb6003666a", sum := "a2442f4febdc2abfd25c54e62cbdaa63178a47da70a3714221d328986cd310ee", func := "example.com/lineform/lineform/zzlaws_xml_g1.FnSchemePrefixClosedCaseFreeAndURIText", spec := "fnSchemePrefixClosedCaseFreeAndURIText", inPlace := ["internal/bytealg.IndexByteString"], apart := false }
def FnSchemePrefixClosedCaseFreeAndURITextSaid : Prop := fnSchemePrefixClosedCaseFreeAndURITextRow.holds Try.pinned (OpenSpec.ofChange fnSchemePrefixClosedCaseFreeAndURITextSpec)

/-- ITS FALSE NEIGHBOUR: 'it returns false'. Refute it at one input. -/
def fnSchemePrefixClosedCaseFreeAndURITextWrong : ChangeSpec := { name := "fnSchemePrefixClosedCaseFreeAndURIText", fn := fun _ => fun
  | [d] => { results := [.lit (.bool false)], args := [d] }
  | _ => none }
def FnSchemePrefixClosedCaseFreeAndURITextWrongFalsely : Prop := fnSchemePrefixClosedCaseFreeAndURITextRow.holds Try.pinned (OpenSpec.ofChange fnSchemePrefixClosedCaseFreeAndURITextWrong)

/-- 'zzlaws_xml_g1.FnScopeLookupFollowsNestedDeclarations': WHATEVER THE INPUT: true; the input reads as it did. -/
def fnScopeLookupFollowsNestedDeclarationsSpec : ChangeSpec := { name := "fnScopeLookupFollowsNestedDeclarations", fn := fun _ => fun
  | [d1, d2] => { results := [.lit (.bool true)], args := [d1, d2] }
  | _ => none }
def fnScopeLookupFollowsNestedDeclarationsRow : OpenClaim := { program := "qxb6003666a", sum := "a2442f4febdc2abfd25c54e62cbdaa63178a47da70a3714221d328986cd310ee", func := "example.com/lineform/lineform/zzlaws_xml_g1.FnScopeLookupFollowsNestedDeclarations", spec := "fnScopeLookupFollowsNestedDeclarations", apart := false }
def FnScopeLookupFollowsNestedDeclarationsSaid : Prop := fnScopeLookupFollowsNestedDeclarationsRow.holds Try.pinned (OpenSpec.ofChange fnScopeLookupFollowsNestedDeclarationsSpec)

/-- ITS FALSE NEIGHBOUR: 'it returns false'. Refute it at one input. -/
def fnScopeLookupFollowsNestedDeclarationsWrong : ChangeSpec := { name := "fnScopeLookupFollowsNestedDeclarations", fn := fun _ => fun
  | [d1, d2] => { results := [.lit (.bool false)], args := [d1, d2] }
  | _ => none }
def FnScopeLookupFollowsNestedDeclarationsWrongFalsely : Prop := fnScopeLookupFollowsNestedDeclarationsRow.holds Try.pinned (OpenSpec.ofChange fnScopeLookupFollowsNestedDeclarationsWrong)

end Rows
end Go.Proofs.Qxb6003666a
