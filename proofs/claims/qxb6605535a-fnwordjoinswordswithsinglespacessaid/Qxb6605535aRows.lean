/-
  No cell of these rows narrows 'for every input' (looked for: loops, veiled, ifaces, maps, wideKeys, modest, calm, conditions, laid).
  DERIVED. THE GIVEN ROWS OF THIS SEAT. 3 by the template 'for every input the law returns true; each argument reads behind the call as it read before'; 0 by the template 'total and deterministic' (their statements: Qxb6605535aTotals.lean).
  GIVEN WITH THE SEED: the statements are not yours to turn. If you find one false, say at which input.
  Laid BY PROGRAM, IN A SANDBOX (cutbox-rows.mjs): the forced cells as the released guide's own fill.sh prints them over the translation 9cf023149b1278fe… (all of the seat's roots in one cut). By AI agents, Wed Nov 11 2026. No macro, syntax, notation, axiom, sorry.
-/
import Derived.Test.Qxb6605535aChecked
import GoSem.Claim
import GoSem.ClaimJoined
import GoSem.ClaimMapViews
import Derived.JoinedTies
import Derived.KernelRfl
namespace Go.Proofs.Qxb6605535a
/- THE CELL 'sum', in the pinned program and in every row, IS THE sha256 OF THE DUMP (.gsa) THAT Qxb6605535aProg.lean LOADS. Nothing in Lean hashes anything: it is a label: what it is worth is what the hold of that sum in a sandbox is worth. -/
noncomputable def Try.pinned : Pinned := { name := "qxb6605535a", sum := "9cf023149b1278fe1489cb7ee6387cddce87cf5f567571b1fc6655654cdd086f", checked := Try.checked }
namespace Rows
def none {H : Type} : Left H := { results := [], args := [] }

/-- 'zzlaws_internal_fetch_b1.FnCutCharsMatchesUTF8Model': WHATEVER THE INPUT: true; the input reads as it did. -/
def fnCutCharsMatchesUTF8ModelSpec : ChangeSpec := { name := "fnCutCharsMatchesUTF8Model", fn := fun _ => fun
  | [d1, d2] => { results := [.lit (.bool true)], args := [d1, d2] }
  | _ => none }
def fnCutCharsMatchesUTF8ModelRow : OpenClaim := { program := "qxb6605535a", sum := "9cf023149b1278fe1489cb7ee6387cddce87cf5f567571b1fc6655654cdd086f", func := "example.com/velleda/velleda/zzlaws_internal_fetch_b1.FnCutCharsMatchesUTF8Model", spec := "fnCutCharsMatchesUTF8Model", apart := false }
def FnCutCharsMatchesUTF8ModelSaid : Prop := fnCutCharsMatchesUTF8ModelRow.holds Try.pinned (OpenSpec.ofChange fnCutCharsMatchesUTF8ModelSpec)

/-- ITS FALSE NEIGHBOUR: 'it returns false'. Refute it at one input. -/
def fnCutCharsMatchesUTF8ModelWrong : ChangeSpec := { name := "fnCutCharsMatchesUTF8Model", fn := fun _ => fun
  | [d1, d2] => { results := [.lit (.bool false)], args := [d1, d2] }
  | _ => none }
def FnCutCharsMatchesUTF8ModelWrongFalsely : Prop := fnCutCharsMatchesUTF8ModelRow.holds Try.pinned (OpenSpec.ofChange fnCutCharsMatchesUTF8ModelWrong)

/-- 'zzlaws_internal_fetch_b1.FnCutCharsComposesAndFlagsOverflow': WHATEVER THE INPUT: true; the input reads as it did. -/
def fnCutCharsComposesAndFlagsOverflowSpec : ChangeSpec := { name := "fnCutCharsComposesAndFlagsOverflow", fn := fun _ => fun
  | [d1, d2, d3] => { results := [.lit (.bool true)], args := [d1, d2, d3] }
  | _ => none }
def fnCutCharsComposesAndFlagsOverflowRow : OpenClaim := { program := "qxb6605535a", sum := "9cf023149b1278fe1489cb7ee6387cddce87cf5f567571b1fc6655654cdd086f", func := "example.com/velleda/velleda/zzlaws_internal_fetch_b1.FnCutCharsComposesAndFlagsOverflow", spec := "fnCutCharsComposesAndFlagsOverflow", apart := false }
def FnCutCharsComposesAndFlagsOverflowSaid : Prop := fnCutCharsComposesAndFlagsOverflowRow.holds Try.pinned (OpenSpec.ofChange fnCutCharsComposesAndFlagsOverflowSpec)

/-- ITS FALSE NEIGHBOUR: 'it returns false'. Refute it at one input. -/
def fnCutCharsComposesAndFlagsOverflowWrong : ChangeSpec := { name := "fnCutCharsComposesAndFlagsOverflow", fn := fun _ => fun
  | [d1, d2, d3] => { results := [.lit (.bool false)], args := [d1, d2, d3] }
  | _ => none }
def FnCutCharsComposesAndFlagsOverflowWrongFalsely : Prop := fnCutCharsComposesAndFlagsOverflowRow.holds Try.pinned (OpenSpec.ofChange fnCutCharsComposesAndFlagsOverflowWrong)

/-- 'zzlaws_internal_fetch_b1.FnWordJoinsWordsWithSingleSpaces': WHATEVER THE INPUT: true; the input reads as it did. -/
def fnWordJoinsWordsWithSingleSpacesSpec : ChangeSpec := { name := "fnWordJoinsWordsWithSingleSpaces", fn := fun _ => fun
  | [d1, d2, d3] => { results := [.lit (.bool true)], args := [d1, d2, d3] }
  | _ => none }
def fnWordJoinsWordsWithSingleSpacesRow : OpenClaim := { program := "qxb6605535a", sum := "9cf023149b1278fe1489cb7ee6387cddce87cf5f567571b1fc6655654cdd086f", func := "example.com/velleda/velleda/zzlaws_internal_fetch_b1.FnWordJoinsWordsWithSingleSpaces", spec := "fnWordJoinsWordsWithSingleSpaces", inPlace := ["internal/abi.NoEscape", "internal/bytealg.MakeNoZero"], apart := false }
def FnWordJoinsWordsWithSingleSpacesSaid : Prop := fnWordJoinsWordsWithSingleSpacesRow.holds Try.pinned (OpenSpec.ofChange fnWordJoinsWordsWithSingleSpacesSpec)

/-- ITS FALSE NEIGHBOUR: 'it returns false'. Refute it at one input. -/
def fnWordJoinsWordsWithSingleSpacesWrong : ChangeSpec := { name := "fnWordJoinsWordsWithSingleSpaces", fn := fun _ => fun
  | [d1, d2, d3] => { results := [.lit (.bool false)], args := [d1, d2, d3] }
  | _ => none }
def FnWordJoinsWordsWithSingleSpacesWrongFalsely : Prop := fnWordJoinsWordsWithSingleSpacesRow.holds Try.pinned (OpenSpec.ofChange fnWordJoinsWordsWithSingleSpacesWrong)

end Rows
end Go.Proofs.Qxb6605535a
