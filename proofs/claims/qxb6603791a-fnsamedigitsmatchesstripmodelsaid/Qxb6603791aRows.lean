/-
  No cell of these rows narrows 'for every input' (looked for: loops, veiled, ifaces, maps, wideKeys, modest, calm, conditions, laid).
  DERIVED. THE GIVEN ROWS OF THIS SEAT. 4 by the template 'for every input the law returns true; each argument reads behind the call as it read before'; 0 by the template 'total and deterministic' (their statements: Qxb6603791aTotals.lean).
  GIVEN WITH THE SEED: the statements are not yours to turn. If you find one false, say at which input.
  Laid BY PROGRAM, IN A SANDBOX (cutbox-rows.mjs): the forced cells as the released guide's own fill.sh prints them over the translation 13393bc66c63eaf8… (all of the seat's roots in one cut). By AI agents, Wed Nov 11 2026. No macro, syntax, notation, axiom, sorry.
-/
import Derived.Test.Qxb6603791aChecked
import GoSem.Claim
import GoSem.ClaimJoined
import GoSem.ClaimMapViews
import Derived.JoinedTies
import Derived.KernelRfl
namespace Go.Proofs.Qxb6603791a
/- THE CELL 'sum', in the pinned program and in every row, IS THE sha256 OF THE DUMP (.gsa) THAT Qxb6603791aProg.lean LOADS. Nothing in Lean hashes anything: it is a label: what it is worth is what the hold of that sum in a sandbox is worth. -/
noncomputable def Try.pinned : Pinned := { name := "qxb6603791a", sum := "13393bc66c63eaf8f9315c1d8d7bac4d7a684e17cacfe54057926a492d208d24", checked := Try.checked }
namespace Rows
def none {H : Type} : Left H := { results := [], args := [] }

/-- 'zzlaws_internal_envelope_b1.FnSameDigitsMatchesStripModel': WHATEVER THE INPUT: true; the input reads as it did. -/
def fnSameDigitsMatchesStripModelSpec : ChangeSpec := { name := "fnSameDigitsMatchesStripModel", fn := fun _ => fun
  | [d1, d2] => { results := [.lit (.bool true)], args := [d1, d2] }
  | _ => none }
def fnSameDigitsMatchesStripModelRow : OpenClaim := { program := "qxb6603791a", sum := "13393bc66c63eaf8f9315c1d8d7bac4d7a684e17cacfe54057926a492d208d24", func := "example.com/postern/postern/zzlaws_internal_envelope_b1.FnSameDigitsMatchesStripModel", spec := "fnSameDigitsMatchesStripModel", apart := false }
def FnSameDigitsMatchesStripModelSaid : Prop := fnSameDigitsMatchesStripModelRow.holds Try.pinned (OpenSpec.ofChange fnSameDigitsMatchesStripModelSpec)

/-- ITS FALSE NEIGHBOUR: 'it returns false'. Refute it at one input. -/
def fnSameDigitsMatchesStripModelWrong : ChangeSpec := { name := "fnSameDigitsMatchesStripModel", fn := fun _ => fun
  | [d1, d2] => { results := [.lit (.bool false)], args := [d1, d2] }
  | _ => none }
def FnSameDigitsMatchesStripModelWrongFalsely : Prop := fnSameDigitsMatchesStripModelRow.holds Try.pinned (OpenSpec.ofChange fnSameDigitsMatchesStripModelWrong)

/-- 'zzlaws_internal_envelope_b1.FnSameDigitsPointBetweenDigits': WHATEVER THE INPUT: true; the input reads as it did. -/
def fnSameDigitsPointBetweenDigitsSpec : ChangeSpec := { name := "fnSameDigitsPointBetweenDigits", fn := fun _ => fun
  | [d1, d2] => { results := [.lit (.bool true)], args := [d1, d2] }
  | _ => none }
def fnSameDigitsPointBetweenDigitsRow : OpenClaim := { program := "qxb6603791a", sum := "13393bc66c63eaf8f9315c1d8d7bac4d7a684e17cacfe54057926a492d208d24", func := "example.com/postern/postern/zzlaws_internal_envelope_b1.FnSameDigitsPointBetweenDigits", spec := "fnSameDigitsPointBetweenDigits", apart := false }
def FnSameDigitsPointBetweenDigitsSaid : Prop := fnSameDigitsPointBetweenDigitsRow.holds Try.pinned (OpenSpec.ofChange fnSameDigitsPointBetweenDigitsSpec)

/-- ITS FALSE NEIGHBOUR: 'it returns false'. Refute it at one input. -/
def fnSameDigitsPointBetweenDigitsWrong : ChangeSpec := { name := "fnSameDigitsPointBetweenDigits", fn := fun _ => fun
  | [d1, d2] => { results := [.lit (.bool false)], args := [d1, d2] }
  | _ => none }
def FnSameDigitsPointBetweenDigitsWrongFalsely : Prop := fnSameDigitsPointBetweenDigitsRow.holds Try.pinned (OpenSpec.ofChange fnSameDigitsPointBetweenDigitsWrong)

/-- 'zzlaws_internal_envelope_b1.FnHex4MatchesPositionalModel': WHATEVER THE INPUT: true; the input reads as it did. -/
def fnHex4MatchesPositionalModelSpec : ChangeSpec := { name := "fnHex4MatchesPositionalModel", fn := fun _ => fun
  | [d1, d2] => { results := [.lit (.bool true)], args := [d1, d2] }
  | _ => none }
def fnHex4MatchesPositionalModelRow : OpenClaim := { program := "qxb6603791a", sum := "13393bc66c63eaf8f9315c1d8d7bac4d7a684e17cacfe54057926a492d208d24", func := "example.com/postern/postern/zzlaws_internal_envelope_b1.FnHex4MatchesPositionalModel", spec := "fnHex4MatchesPositionalModel", apart := false }
def FnHex4MatchesPositionalModelSaid : Prop := fnHex4MatchesPositionalModelRow.holds Try.pinned (OpenSpec.ofChange fnHex4MatchesPositionalModelSpec)

/-- ITS FALSE NEIGHBOUR: 'it returns false'. Refute it at one input. -/
def fnHex4MatchesPositionalModelWrong : ChangeSpec := { name := "fnHex4MatchesPositionalModel", fn := fun _ => fun
  | [d1, d2] => { results := [.lit (.bool false)], args := [d1, d2] }
  | _ => none }
def FnHex4MatchesPositionalModelWrongFalsely : Prop := fnHex4MatchesPositionalModelRow.holds Try.pinned (OpenSpec.ofChange fnHex4MatchesPositionalModelWrong)

/-- 'zzlaws_internal_envelope_b1.FnHex4RoundTrip': WHATEVER THE INPUT: true; the input reads as it did. -/
def fnHex4RoundTripSpec : ChangeSpec := { name := "fnHex4RoundTrip", fn := fun _ => fun
  | [d1, d2, d3, d4] => { results := [.lit (.bool true)], args := [d1, d2, d3, d4] }
  | _ => none }
def fnHex4RoundTripRow : OpenClaim := { program := "qxb6603791a", sum := "13393bc66c63eaf8f9315c1d8d7bac4d7a684e17cacfe54057926a492d208d24", func := "example.com/postern/postern/zzlaws_internal_envelope_b1.FnHex4RoundTrip", spec := "fnHex4RoundTrip", apart := false }
def FnHex4RoundTripSaid : Prop := fnHex4RoundTripRow.holds Try.pinned (OpenSpec.ofChange fnHex4RoundTripSpec)

/-- ITS FALSE NEIGHBOUR: 'it returns false'. Refute it at one input. -/
def fnHex4RoundTripWrong : ChangeSpec := { name := "fnHex4RoundTrip", fn := fun _ => fun
  | [d1, d2, d3, d4] => { results := [.lit (.bool false)], args := [d1, d2, d3, d4] }
  | _ => none }
def FnHex4RoundTripWrongFalsely : Prop := fnHex4RoundTripRow.holds Try.pinned (OpenSpec.ofChange fnHex4RoundTripWrong)

end Rows
end Go.Proofs.Qxb6603791a
