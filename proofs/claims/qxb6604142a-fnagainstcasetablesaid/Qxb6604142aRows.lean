/-
  No cell of these rows narrows 'for every input' (looked for: loops, veiled, ifaces, maps, wideKeys, modest, calm, conditions, laid).
  DERIVED. THE GIVEN ROWS OF THIS SEAT. 2 by the template 'for every input the law returns true; each argument reads behind the call as it read before'; 0 by the template 'total and deterministic' (their statements: Qxb6604142aTotals.lean).
  GIVEN WITH THE SEED: the statements are not yours to turn. If you find one false, say at which input.
  Laid BY PROGRAM, IN A SANDBOX (cutbox-rows.mjs): the forced cells as the released guide's own fill.sh prints them over the translation 03705150586e71f5… (all of the seat's roots in one cut). By AI agents, Wed Nov 11 2026. No macro, syntax, notation, axiom, sorry.
-/
import Derived.Test.Qxb6604142aChecked
import GoSem.Claim
import GoSem.ClaimJoined
import GoSem.ClaimMapViews
import Derived.JoinedTies
import Derived.KernelRfl
namespace Go.Proofs.Qxb6604142a
/- THE CELL 'sum', in the pinned program and in every row, IS THE sha256 OF THE DUMP (.gsa) THAT Qxb6604142aProg.lean LOADS. Nothing in Lean hashes anything: it is a label: what it is worth is what the hold of that sum in a sandbox is worth. -/
noncomputable def Try.pinned : Pinned := { name := "qxb6604142a", sum := "03705150586e71f5bbccf1e5ca11f28b54c12be21ab3d09f101fb6e9797d5c40", checked := Try.checked }
namespace Rows
def none {H : Type} : Left H := { results := [], args := [] }

/-- 'zzlaws_internal_results_b1.FnAgainstCaseTable': WHATEVER THE INPUT: true; the input reads as it did. -/
def fnAgainstCaseTableSpec : ChangeSpec := { name := "fnAgainstCaseTable", fn := fun _ => fun
  | [d1, d2, d3] => { results := [.lit (.bool true)], args := [d1, d2, d3] }
  | _ => none }
def fnAgainstCaseTableRow : OpenClaim := { program := "qxb6604142a", sum := "03705150586e71f5bbccf1e5ca11f28b54c12be21ab3d09f101fb6e9797d5c40", func := "example.com/testament/testament/zzlaws_internal_results_b1.FnAgainstCaseTable", spec := "fnAgainstCaseTable", apart := false }
def FnAgainstCaseTableSaid : Prop := fnAgainstCaseTableRow.holds Try.pinned (OpenSpec.ofChange fnAgainstCaseTableSpec)

/-- ITS FALSE NEIGHBOUR: 'it returns false'. Refute it at one input. -/
def fnAgainstCaseTableWrong : ChangeSpec := { name := "fnAgainstCaseTable", fn := fun _ => fun
  | [d1, d2, d3] => { results := [.lit (.bool false)], args := [d1, d2, d3] }
  | _ => none }
def FnAgainstCaseTableWrongFalsely : Prop := fnAgainstCaseTableRow.holds Try.pinned (OpenSpec.ofChange fnAgainstCaseTableWrong)

/-- 'zzlaws_internal_results_b1.FnUnescapedInvertsJSONShortEscape': WHATEVER THE INPUT: true; the input reads as it did. -/
def fnUnescapedInvertsJSONShortEscapeSpec : ChangeSpec := { name := "fnUnescapedInvertsJSONShortEscape", fn := fun _ => fun
  | [d] => { results := [.lit (.bool true)], args := [d] }
  | _ => none }
def fnUnescapedInvertsJSONShortEscapeRow : OpenClaim := { program := "qxb6604142a", sum := "03705150586e71f5bbccf1e5ca11f28b54c12be21ab3d09f101fb6e9797d5c40", func := "example.com/testament/testament/zzlaws_internal_results_b1.FnUnescapedInvertsJSONShortEscape", spec := "fnUnescapedInvertsJSONShortEscape", apart := false }
def FnUnescapedInvertsJSONShortEscapeSaid : Prop := fnUnescapedInvertsJSONShortEscapeRow.holds Try.pinned (OpenSpec.ofChange fnUnescapedInvertsJSONShortEscapeSpec)

/-- ITS FALSE NEIGHBOUR: 'it returns false'. Refute it at one input. -/
def fnUnescapedInvertsJSONShortEscapeWrong : ChangeSpec := { name := "fnUnescapedInvertsJSONShortEscape", fn := fun _ => fun
  | [d] => { results := [.lit (.bool false)], args := [d] }
  | _ => none }
def FnUnescapedInvertsJSONShortEscapeWrongFalsely : Prop := fnUnescapedInvertsJSONShortEscapeRow.holds Try.pinned (OpenSpec.ofChange fnUnescapedInvertsJSONShortEscapeWrong)

end Rows
end Go.Proofs.Qxb6604142a
