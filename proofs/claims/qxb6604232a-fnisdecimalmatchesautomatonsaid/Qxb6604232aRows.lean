/-
  No cell of these rows narrows 'for every input' (looked for: loops, veiled, ifaces, maps, wideKeys, modest, calm, conditions, laid).
  DERIVED. THE GIVEN ROWS OF THIS SEAT. 1 by the template 'for every input the law returns true; each argument reads behind the call as it read before'; 0 by the template 'total and deterministic' (their statements: Qxb6604232aTotals.lean).
  GIVEN WITH THE SEED: the statements are not yours to turn. If you find one false, say at which input.
  Laid BY PROGRAM, IN A SANDBOX (cutbox-rows.mjs): the forced cells as the released guide's own fill.sh prints them over the translation bb9f5fcab874fd22… (all of the seat's roots in one cut). By AI agents, Wed Nov 11 2026. No macro, syntax, notation, axiom, sorry.
-/
import Derived.Test.Qxb6604232aChecked
import GoSem.Claim
import GoSem.ClaimJoined
import GoSem.ClaimMapViews
import Derived.JoinedTies
import Derived.KernelRfl
namespace Go.Proofs.Qxb6604232a
/- THE CELL 'sum', in the pinned program and in every row, IS THE sha256 OF THE DUMP (.gsa) THAT Qxb6604232aProg.lean LOADS. Nothing in Lean hashes anything: it is a label: what it is worth is what the hold of that sum in a sandbox is worth. -/
noncomputable def Try.pinned : Pinned := { name := "qxb6604232a", sum := "bb9f5fcab874fd229345f125459e589c34716fbc392e645881bbc8e0710e565d", checked := Try.checked }
namespace Rows
def none {H : Type} : Left H := { results := [], args := [] }

/-- 'zzlaws_root_b1.FnIsDecimalMatchesAutomaton': WHATEVER THE INPUT: true; the input reads as it did. -/
def fnIsDecimalMatchesAutomatonSpec : ChangeSpec := { name := "fnIsDecimalMatchesAutomaton", fn := fun _ => fun
  | [d] => { results := [.lit (.bool true)], args := [d] }
  | _ => none }
def fnIsDecimalMatchesAutomatonRow : OpenClaim := { program := "qxb6604232a", sum := "bb9f5fcab874fd229345f125459e589c34716fbc392e645881bbc8e0710e565d", func := "example.com/keelpool/keelpool/zzlaws_root_b1.FnIsDecimalMatchesAutomaton", spec := "fnIsDecimalMatchesAutomaton", apart := false }
def FnIsDecimalMatchesAutomatonSaid : Prop := fnIsDecimalMatchesAutomatonRow.holds Try.pinned (OpenSpec.ofChange fnIsDecimalMatchesAutomatonSpec)

/-- ITS FALSE NEIGHBOUR: 'it returns false'. Refute it at one input. -/
def fnIsDecimalMatchesAutomatonWrong : ChangeSpec := { name := "fnIsDecimalMatchesAutomaton", fn := fun _ => fun
  | [d] => { results := [.lit (.bool false)], args := [d] }
  | _ => none }
def FnIsDecimalMatchesAutomatonWrongFalsely : Prop := fnIsDecimalMatchesAutomatonRow.holds Try.pinned (OpenSpec.ofChange fnIsDecimalMatchesAutomatonWrong)

end Rows
end Go.Proofs.Qxb6604232a
