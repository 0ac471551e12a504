/-
  No cell of these rows narrows 'for every input' (looked for: loops, veiled, ifaces, maps, wideKeys, modest, calm, conditions, laid).
  DERIVED. THE GIVEN ROWS OF THIS SEAT. 1 by the template 'for every input the law returns true; each argument reads behind the call as it read before'; 0 by the template 'total and deterministic' (their statements: Qxb6603903aTotals.lean).
  GIVEN WITH THE SEED: the statements are not yours to turn. If you find one false, say at which input.
  Laid BY PROGRAM, IN A SANDBOX (cutbox-rows.mjs): the forced cells as the released guide's own fill.sh prints them over the translation 2455c297de47da04… (all of the seat's roots in one cut). By AI agents, Wed Nov 11 2026. No macro, syntax, notation, axiom, sorry.
-/
import Derived.Test.Qxb6603903aChecked
import GoSem.Claim
import GoSem.ClaimJoined
import GoSem.ClaimMapViews
import Derived.JoinedTies
import Derived.KernelRfl
namespace Go.Proofs.Qxb6603903a
/- THE CELL 'sum', in the pinned program and in every row, IS THE sha256 OF THE DUMP (.gsa) THAT Qxb6603903aProg.lean LOADS. Nothing in Lean hashes anything: it is a label: what it is worth is what the hold of that sum in a sandbox is worth. -/
noncomputable def Try.pinned : Pinned := { name := "qxb6603903a", sum := "2455c297de47da04eb7ef93b01c0a64b08645d901a315c2b5ac0b3e84c1eef5d", checked := Try.checked }
namespace Rows
def none {H : Type} : Left H := { results := [], args := [] }

/-- 'zzlaws_internal_clients_b1.FnValidNameByteModel': WHATEVER THE INPUT: true; the input reads as it did. -/
def fnValidNameByteModelSpec : ChangeSpec := { name := "fnValidNameByteModel", fn := fun _ => fun
  | [d] => { results := [.lit (.bool true)], args := [d] }
  | _ => none }
def fnValidNameByteModelRow : OpenClaim := { program := "qxb6603903a", sum := "2455c297de47da04eb7ef93b01c0a64b08645d901a315c2b5ac0b3e84c1eef5d", func := "example.com/rendmill/rendmill/zzlaws_internal_clients_b1.FnValidNameByteModel", spec := "fnValidNameByteModel", apart := false }
def FnValidNameByteModelSaid : Prop := fnValidNameByteModelRow.holds Try.pinned (OpenSpec.ofChange fnValidNameByteModelSpec)

/-- ITS FALSE NEIGHBOUR: 'it returns false'. Refute it at one input. -/
def fnValidNameByteModelWrong : ChangeSpec := { name := "fnValidNameByteModel", fn := fun _ => fun
  | [d] => { results := [.lit (.bool false)], args := [d] }
  | _ => none }
def FnValidNameByteModelWrongFalsely : Prop := fnValidNameByteModelRow.holds Try.pinned (OpenSpec.ofChange fnValidNameByteModelWrong)

end Rows
end Go.Proofs.Qxb6603903a
