/-
  No cell of these rows narrows 'for every input' (looked for: loops, veiled, ifaces, maps, wideKeys, modest, calm, conditions, laid).
  DERIVED. THE GIVEN ROWS OF THIS SEAT. 1 by the template 'for every input the law returns true; each argument reads behind the call as it read before'; 0 by the template 'total and deterministic' (their statements: Qxb6605483aTotals.lean).
  GIVEN WITH THE SEED: the statements are not yours to turn. If you find one false, say at which input.
  Laid BY PROGRAM, IN A SANDBOX (cutbox-rows.mjs): the forced cells as the released guide's own fill.sh prints them over the translation bc5f580041709328… (all of the seat's roots in one cut). By AI agents, Wed Nov 11 2026. No macro, syntax, notation, axiom, sorry.
-/
import Derived.Test.Qxb6605483aChecked
import GoSem.Claim
import GoSem.ClaimJoined
import GoSem.ClaimMapViews
import Derived.JoinedTies
import Derived.KernelRfl
namespace Go.Proofs.Qxb6605483a
/- THE CELL 'sum', in the pinned program and in every row, IS THE sha256 OF THE DUMP (.gsa) THAT Qxb6605483aProg.lean LOADS. Nothing in Lean hashes anything: it is a label: what it is worth is what the hold of that sum in a sandbox is worth. -/
noncomputable def Try.pinned : Pinned := { name := "qxb6605483a", sum := "bc5f580041709328282329158b9b7707b5e532844229ec613d0aff7c1d6224db", checked := Try.checked }
namespace Rows
def none {H : Type} : Left H := { results := [], args := [] }

/-- 'zzlaws_pkg_num_b1.FnAllDigitsDecimalRendering': WHATEVER THE INPUT: true; the input reads as it did. -/
def fnAllDigitsDecimalRenderingSpec : ChangeSpec := { name := "fnAllDigitsDecimalRendering", fn := fun _ => fun
  | [d1, d2, d3] => { results := [.lit (.bool true)], args := [d1, d2, d3] }
  | _ => none }
def fnAllDigitsDecimalRenderingRow : OpenClaim := { program := "qxb6605483a", sum := "bc5f580041709328282329158b9b7707b5e532844229ec613d0aff7c1d6224db", func := "example.com/tuoguan/tuoguan/zzlaws_pkg_num_b1.FnAllDigitsDecimalRendering", spec := "fnAllDigitsDecimalRendering", apart := false }
def FnAllDigitsDecimalRenderingSaid : Prop := fnAllDigitsDecimalRenderingRow.holds Try.pinned (OpenSpec.ofChange fnAllDigitsDecimalRenderingSpec)

/-- ITS FALSE NEIGHBOUR: 'it returns false'. Refute it at one input. -/
def fnAllDigitsDecimalRenderingWrong : ChangeSpec := { name := "fnAllDigitsDecimalRendering", fn := fun _ => fun
  | [d1, d2, d3] => { results := [.lit (.bool false)], args := [d1, d2, d3] }
  | _ => none }
def FnAllDigitsDecimalRenderingWrongFalsely : Prop := fnAllDigitsDecimalRenderingRow.holds Try.pinned (OpenSpec.ofChange fnAllDigitsDecimalRenderingWrong)

end Rows
end Go.Proofs.Qxb6605483a
