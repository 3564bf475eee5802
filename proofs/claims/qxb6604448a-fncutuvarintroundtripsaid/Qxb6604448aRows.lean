/-
  No cell of these rows narrows 'for every input' (looked for: loops, veiled, ifaces, maps, wideKeys, modest, calm, conditions, laid).
  DERIVED. THE GIVEN ROWS OF THIS SEAT. 2 by the template 'for every input the law returns true; each argument reads behind the call as it read before'; 0 by the template 'total and deterministic' (their statements: Qxb6604448aTotals.lean).
  GIVEN WITH THE SEED: the statements are not yours to turn. If you find one false, say at which input.
  Laid BY PROGRAM, IN A SANDBOX (cutbox-rows.mjs): the forced cells as the released guide's own fill.sh prints them over the translation 6c2fe74d71144485… (all of the seat's roots in one cut). By AI agents, Wed Nov 11 2026. No macro, syntax, notation, axiom, sorry.
-/
import Derived.Test.Qxb6604448aChecked
import GoSem.Claim
import GoSem.ClaimJoined
import GoSem.ClaimMapViews
import Derived.JoinedTies
import Derived.KernelRfl
namespace Go.Proofs.Qxb6604448a
/- THE CELL 'sum', in the pinned program and in every row, IS THE sha256 OF THE DUMP (.gsa) THAT Qxb6604448aProg.lean LOADS. Nothing in Lean hashes anything: it is a label: what it is worth is what the hold of that sum in a sandbox is worth. -/
noncomputable def Try.pinned : Pinned := { name := "qxb6604448a", sum := "6c2fe74d7114448557a93789c4980eb694ec94314680a374c439370a77cf4a26", checked := Try.checked }
namespace Rows
def none {H : Type} : Left H := { results := [], args := [] }

/-- 'zzlaws_workspace_b1.FnCutUvarintMatchesModel': WHATEVER THE INPUT: true; the input reads as it did. -/
def fnCutUvarintMatchesModelSpec : ChangeSpec := { name := "fnCutUvarintMatchesModel", fn := fun _ => fun
  | [d] => { results := [.lit (.bool true)], args := [d] }
  | _ => none }
def fnCutUvarintMatchesModelRow : OpenClaim := { program := "qxb6604448a", sum := "6c2fe74d7114448557a93789c4980eb694ec94314680a374c439370a77cf4a26", func := "example.com/earnwork/earnwork/zzlaws_workspace_b1.FnCutUvarintMatchesModel", spec := "fnCutUvarintMatchesModel", apart := false }
def FnCutUvarintMatchesModelSaid : Prop := fnCutUvarintMatchesModelRow.holds Try.pinned (OpenSpec.ofChange fnCutUvarintMatchesModelSpec)

/-- ITS FALSE NEIGHBOUR: 'it returns false'. Refute it at one input. -/
def fnCutUvarintMatchesModelWrong : ChangeSpec := { name := "fnCutUvarintMatchesModel", fn := fun _ => fun
  | [d] => { results := [.lit (.bool false)], args := [d] }
  | _ => none }
def FnCutUvarintMatchesModelWrongFalsely : Prop := fnCutUvarintMatchesModelRow.holds Try.pinned (OpenSpec.ofChange fnCutUvarintMatchesModelWrong)

/-- 'zzlaws_workspace_b1.FnCutUvarintRoundTrip': WHATEVER THE INPUT: true; the input reads as it did. -/
def fnCutUvarintRoundTripSpec : ChangeSpec := { name := "fnCutUvarintRoundTrip", fn := fun _ => fun
  | [d1, d2] => { results := [.lit (.bool true)], args := [d1, d2] }
  | _ => none }
def fnCutUvarintRoundTripRow : OpenClaim := { program := "qxb6604448a", sum := "6c2fe74d7114448557a93789c4980eb694ec94314680a374c439370a77cf4a26", func := "example.com/earnwork/earnwork/zzlaws_workspace_b1.FnCutUvarintRoundTrip", spec := "fnCutUvarintRoundTrip", apart := false }
def FnCutUvarintRoundTripSaid : Prop := fnCutUvarintRoundTripRow.holds Try.pinned (OpenSpec.ofChange fnCutUvarintRoundTripSpec)

/-- ITS FALSE NEIGHBOUR: 'it returns false'. Refute it at one input. -/
def fnCutUvarintRoundTripWrong : ChangeSpec := { name := "fnCutUvarintRoundTrip", fn := fun _ => fun
  | [d1, d2] => { results := [.lit (.bool false)], args := [d1, d2] }
  | _ => none }
def FnCutUvarintRoundTripWrongFalsely : Prop := fnCutUvarintRoundTripRow.holds Try.pinned (OpenSpec.ofChange fnCutUvarintRoundTripWrong)

end Rows
end Go.Proofs.Qxb6604448a
