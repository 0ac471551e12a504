/-
  No cell of these rows narrows 'for every input' (looked for: loops, veiled, ifaces, maps, wideKeys, modest, calm, conditions, laid).
  DERIVED. THE GIVEN ROWS OF THIS SEAT. 1 by the template 'for every input the law returns true; each argument reads behind the call as it read before'; 0 by the template 'total and deterministic' (their statements: Qxb6603815aTotals.lean).
  GIVEN WITH THE SEED: the statements are not yours to turn. If you find one false, say at which input.
  Laid BY PROGRAM, IN A SANDBOX (cutbox-rows.mjs): the forced cells as the released guide's own fill.sh prints them over the translation b7e4be8925a50633… (all of the seat's roots in one cut). By AI agents, Wed Nov 11 2026. No macro, syntax, notation, axiom, sorry.
-/
import Derived.Test.Qxb6603815aChecked
import GoSem.Claim
import GoSem.ClaimJoined
import GoSem.ClaimMapViews
import Derived.JoinedTies
import Derived.KernelRfl
namespace Go.Proofs.Qxb6603815a
/- THE CELL 'sum', in the pinned program and in every row, IS THE sha256 OF THE DUMP (.gsa) THAT Qxb6603815aProg.lean LOADS. Nothing in Lean hashes anything: it is a label: what it is worth is what the hold of that sum in a sandbox is worth. -/
noncomputable def Try.pinned : Pinned := { name := "qxb6603815a", sum := "b7e4be8925a50633f668d6f0c74a7eb29abc2891a8c7cdb15596c4910eb77a7c", checked := Try.checked }
namespace Rows
def none {H : Type} : Left H := { results := [], args := [] }

/-- 'zzlaws_api_b1.FnReaderKeyRoundTrip': WHATEVER THE INPUT: true; the input reads as it did. -/
def fnReaderKeyRoundTripSpec : ChangeSpec := { name := "fnReaderKeyRoundTrip", fn := fun _ => fun
  | [d1, d2, d3, d4] => { results := [.lit (.bool true)], args := [d1, d2, d3, d4] }
  | _ => none }
def fnReaderKeyRoundTripRow : OpenClaim := { program := "qxb6603815a", sum := "b7e4be8925a50633f668d6f0c74a7eb29abc2891a8c7cdb15596c4910eb77a7c", func := "example.com/tenure/tenure/zzlaws_api_b1.FnReaderKeyRoundTrip", spec := "fnReaderKeyRoundTrip", apart := false }
def FnReaderKeyRoundTripSaid : Prop := fnReaderKeyRoundTripRow.holds Try.pinned (OpenSpec.ofChange fnReaderKeyRoundTripSpec)

/-- ITS FALSE NEIGHBOUR: 'it returns false'. Refute it at one input. -/
def fnReaderKeyRoundTripWrong : ChangeSpec := { name := "fnReaderKeyRoundTrip", fn := fun _ => fun
  | [d1, d2, d3, d4] => { results := [.lit (.bool false)], args := [d1, d2, d3, d4] }
  | _ => none }
def FnReaderKeyRoundTripWrongFalsely : Prop := fnReaderKeyRoundTripRow.holds Try.pinned (OpenSpec.ofChange fnReaderKeyRoundTripWrong)

end Rows
end Go.Proofs.Qxb6603815a
