/-
  No cell of these rows narrows 'for every input' (looked for: loops, veiled, ifaces, maps, wideKeys, modest, calm, conditions, laid).
  DERIVED. THE GIVEN ROWS OF THIS SEAT. 5 by the template 'for every input the law returns true; each argument reads behind the call as it read before'; 0 by the template 'total and deterministic' (their statements: Qxb6603059aTotals.lean).
  GIVEN WITH THE SEED: the statements are not yours to turn. If you find one false, say at which input.
  Laid BY PROGRAM, IN A SANDBOX (cutbox-rows.mjs): the forced cells as the released guide's own fill.sh prints them over the translation 022297ba4b1422f9… (all of the seat's roots in one cut). By AI agents, Wed Nov 11 2026. No macro, syntax, notation, axiom, sorry.
-/
import Derived.Test.Qxb6603059aChecked
import GoSem.Claim
import GoSem.ClaimJoined
import GoSem.ClaimMapViews
import Derived.JoinedTies
import Derived.KernelRfl
namespace Go.Proofs.Qxb6603059a
/- THE CELL 'sum', in the pinned program and in every row, IS THE sha256 OF THE DUMP (.gsa) THAT Qxb6603059aProg.lean LOADS. Nothing in Lean hashes anything: it is a label: what it is worth is what the hold of that sum in a sandbox is worth. -/
noncomputable def Try.pinned : Pinned := { name := "qxb6603059a", sum := "022297ba4b1422f935837ab1f3c552c8e480ab052c04945c8e6fbfb59816f646", checked := Try.checked }
namespace Rows
def none {H : Type} : Left H := { results := [], args := [] }

/-- 'zzlaws_match_b1.FnUnescapeInvertsEscaping': WHATEVER THE INPUT: true; the input reads as it did. -/
def fnUnescapeInvertsEscapingSpec : ChangeSpec := { name := "fnUnescapeInvertsEscaping", fn := fun _ => fun
  | [d] => { results := [.lit (.bool true)], args := [d] }
  | _ => none }
def fnUnescapeInvertsEscapingRow : OpenClaim := { program := "qxb6603059a", sum := "022297ba4b1422f935837ab1f3c552c8e480ab052c04945c8e6fbfb59816f646", func := "example.com/morava/morava/zzlaws_match_b1.FnUnescapeInvertsEscaping", spec := "fnUnescapeInvertsEscaping", inPlace := ["internal/abi.NoEscape"], apart := false }
def FnUnescapeInvertsEscapingSaid : Prop := fnUnescapeInvertsEscapingRow.holds Try.pinned (OpenSpec.ofChange fnUnescapeInvertsEscapingSpec)

/-- ITS FALSE NEIGHBOUR: 'it returns false'. Refute it at one input. -/
def fnUnescapeInvertsEscapingWrong : ChangeSpec := { name := "fnUnescapeInvertsEscaping", fn := fun _ => fun
  | [d] => { results := [.lit (.bool false)], args := [d] }
  | _ => none }
def FnUnescapeInvertsEscapingWrongFalsely : Prop := fnUnescapeInvertsEscapingRow.holds Try.pinned (OpenSpec.ofChange fnUnescapeInvertsEscapingWrong)

/-- 'zzlaws_match_b1.FnUnescapeLengthBounds': WHATEVER THE INPUT: true; the input reads as it did. -/
def fnUnescapeLengthBoundsSpec : ChangeSpec := { name := "fnUnescapeLengthBounds", fn := fun _ => fun
  | [d] => { results := [.lit (.bool true)], args := [d] }
  | _ => none }
def fnUnescapeLengthBoundsRow : OpenClaim := { program := "qxb6603059a", sum := "022297ba4b1422f935837ab1f3c552c8e480ab052c04945c8e6fbfb59816f646", func := "example.com/morava/morava/zzlaws_match_b1.FnUnescapeLengthBounds", spec := "fnUnescapeLengthBounds", inPlace := ["internal/abi.NoEscape"], apart := false }
def FnUnescapeLengthBoundsSaid : Prop := fnUnescapeLengthBoundsRow.holds Try.pinned (OpenSpec.ofChange fnUnescapeLengthBoundsSpec)

/-- ITS FALSE NEIGHBOUR: 'it returns false'. Refute it at one input. -/
def fnUnescapeLengthBoundsWrong : ChangeSpec := { name := "fnUnescapeLengthBounds", fn := fun _ => fun
  | [d] => { results := [.lit (.bool false)], args := [d] }
  | _ => none }
def FnUnescapeLengthBoundsWrongFalsely : Prop := fnUnescapeLengthBoundsRow.holds Try.pinned (OpenSpec.ofChange fnUnescapeLengthBoundsWrong)

/-- 'zzlaws_match_b1.FnClassNameMatchesRunModel': WHATEVER THE INPUT: true; the input reads as it did. -/
def fnClassNameMatchesRunModelSpec : ChangeSpec := { name := "fnClassNameMatchesRunModel", fn := fun _ => fun
  | [d] => { results := [.lit (.bool true)], args := [d] }
  | _ => none }
def fnClassNameMatchesRunModelRow : OpenClaim := { program := "qxb6603059a", sum := "022297ba4b1422f935837ab1f3c552c8e480ab052c04945c8e6fbfb59816f646", func := "example.com/morava/morava/zzlaws_match_b1.FnClassNameMatchesRunModel", spec := "fnClassNameMatchesRunModel", apart := false }
def FnClassNameMatchesRunModelSaid : Prop := fnClassNameMatchesRunModelRow.holds Try.pinned (OpenSpec.ofChange fnClassNameMatchesRunModelSpec)

/-- ITS FALSE NEIGHBOUR: 'it returns false'. Refute it at one input. -/
def fnClassNameMatchesRunModelWrong : ChangeSpec := { name := "fnClassNameMatchesRunModel", fn := fun _ => fun
  | [d] => { results := [.lit (.bool false)], args := [d] }
  | _ => none }
def FnClassNameMatchesRunModelWrongFalsely : Prop := fnClassNameMatchesRunModelRow.holds Try.pinned (OpenSpec.ofChange fnClassNameMatchesRunModelWrong)

/-- 'zzlaws_match_b1.FnClassNameReadsBuiltClass': WHATEVER THE INPUT: true; the input reads as it did. -/
def fnClassNameReadsBuiltClassSpec : ChangeSpec := { name := "fnClassNameReadsBuiltClass", fn := fun _ => fun
  | [d1, d2] => { results := [.lit (.bool true)], args := [d1, d2] }
  | _ => none }
def fnClassNameReadsBuiltClassRow : OpenClaim := { program := "qxb6603059a", sum := "022297ba4b1422f935837ab1f3c552c8e480ab052c04945c8e6fbfb59816f646", func := "example.com/morava/morava/zzlaws_match_b1.FnClassNameReadsBuiltClass", spec := "fnClassNameReadsBuiltClass", apart := false }
def FnClassNameReadsBuiltClassSaid : Prop := fnClassNameReadsBuiltClassRow.holds Try.pinned (OpenSpec.ofChange fnClassNameReadsBuiltClassSpec)

/-- ITS FALSE NEIGHBOUR: 'it returns false'. Refute it at one input. -/
def fnClassNameReadsBuiltClassWrong : ChangeSpec := { name := "fnClassNameReadsBuiltClass", fn := fun _ => fun
  | [d1, d2] => { results := [.lit (.bool false)], args := [d1, d2] }
  | _ => none }
def FnClassNameReadsBuiltClassWrongFalsely : Prop := fnClassNameReadsBuiltClassRow.holds Try.pinned (OpenSpec.ofChange fnClassNameReadsBuiltClassWrong)

/-- 'zzlaws_match_b1.FnClassNameIgnoresTextAfterClass': WHATEVER THE INPUT: true; the input reads as it did. -/
def fnClassNameIgnoresTextAfterClassSpec : ChangeSpec := { name := "fnClassNameIgnoresTextAfterClass", fn := fun _ => fun
  | [d1, d2] => { results := [.lit (.bool true)], args := [d1, d2] }
  | _ => none }
def fnClassNameIgnoresTextAfterClassRow : OpenClaim := { program := "qxb6603059a", sum := "022297ba4b1422f935837ab1f3c552c8e480ab052c04945c8e6fbfb59816f646", func := "example.com/morava/morava/zzlaws_match_b1.FnClassNameIgnoresTextAfterClass", spec := "fnClassNameIgnoresTextAfterClass", apart := false }
def FnClassNameIgnoresTextAfterClassSaid : Prop := fnClassNameIgnoresTextAfterClassRow.holds Try.pinned (OpenSpec.ofChange fnClassNameIgnoresTextAfterClassSpec)

/-- ITS FALSE NEIGHBOUR: 'it returns false'. Refute it at one input. -/
def fnClassNameIgnoresTextAfterClassWrong : ChangeSpec := { name := "fnClassNameIgnoresTextAfterClass", fn := fun _ => fun
  | [d1, d2] => { results := [.lit (.bool false)], args := [d1, d2] }
  | _ => none }
def FnClassNameIgnoresTextAfterClassWrongFalsely : Prop := fnClassNameIgnoresTextAfterClassRow.holds Try.pinned (OpenSpec.ofChange fnClassNameIgnoresTextAfterClassWrong)

end Rows
end Go.Proofs.Qxb6603059a
