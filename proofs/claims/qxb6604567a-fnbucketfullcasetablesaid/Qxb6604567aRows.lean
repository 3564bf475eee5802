/-
  No cell of these rows narrows 'for every input' (looked for: loops, veiled, ifaces, maps, wideKeys, modest, calm, conditions, laid).
  DERIVED. THE GIVEN ROWS OF THIS SEAT. 4 by the template 'for every input the law returns true; each argument reads behind the call as it read before'; 0 by the template 'total and deterministic' (their statements: Qxb6604567aTotals.lean).
  GIVEN WITH THE SEED: the statements are not yours to turn. If you find one false, say at which input.
  Laid BY PROGRAM, IN A SANDBOX (cutbox-rows.mjs): the forced cells as the released guide's own fill.sh prints them over the translation eea6b3caf0e4eb18… (all of the seat's roots in one cut). By AI agents, Wed Nov 11 2026. No macro, syntax, notation, axiom, sorry.
-/
import Derived.Test.Qxb6604567aChecked
import GoSem.Claim
import GoSem.ClaimJoined
import GoSem.ClaimMapViews
import Derived.JoinedTies
import Derived.KernelRfl
namespace Go.Proofs.Qxb6604567a
/- THE CELL 'sum', in the pinned program and in every row, IS THE sha256 OF THE DUMP (.gsa) THAT Qxb6604567aProg.lean LOADS. Nothing in Lean hashes anything: it is a label: what it is worth is what the hold of that sum in a sandbox is worth. -/
noncomputable def Try.pinned : Pinned := { name := "qxb6604567a", sum := "eea6b3caf0e4eb180dc204d8e2df73aed6a16b8c61d0944c5d09db53d8f6e5d5", checked := Try.checked }
namespace Rows
def none {H : Type} : Left H := { results := [], args := [] }

/-- 'zzlaws_limiter_b1.FnBucketFullCaseTable': WHATEVER THE INPUT: true; the input reads as it did. -/
def fnBucketFullCaseTableSpec : ChangeSpec := { name := "fnBucketFullCaseTable", fn := fun _ => fun
  | [d1, d2, d3, d4, d5] => { results := [.lit (.bool true)], args := [d1, d2, d3, d4, d5] }
  | _ => none }
def fnBucketFullCaseTableRow : OpenClaim := { program := "qxb6604567a", sum := "eea6b3caf0e4eb180dc204d8e2df73aed6a16b8c61d0944c5d09db53d8f6e5d5", func := "example.com/nemesis/nemesis/zzlaws_limiter_b1.FnBucketFullCaseTable", spec := "fnBucketFullCaseTable", inPlace := ["math.archCeil", "math.archFloor", "math.Float64bits", "math.Float64frombits", "math.archTrunc"], apart := false }
def FnBucketFullCaseTableSaid : Prop := fnBucketFullCaseTableRow.holds Try.pinned (OpenSpec.ofChange fnBucketFullCaseTableSpec)

/-- ITS FALSE NEIGHBOUR: 'it returns false'. Refute it at one input. -/
def fnBucketFullCaseTableWrong : ChangeSpec := { name := "fnBucketFullCaseTable", fn := fun _ => fun
  | [d1, d2, d3, d4, d5] => { results := [.lit (.bool false)], args := [d1, d2, d3, d4, d5] }
  | _ => none }
def FnBucketFullCaseTableWrongFalsely : Prop := fnBucketFullCaseTableRow.holds Try.pinned (OpenSpec.ofChange fnBucketFullCaseTableWrong)

/-- 'zzlaws_limiter_b1.FnBucketFillsAndStaysFull': WHATEVER THE INPUT: true; the input reads as it did. -/
def fnBucketFillsAndStaysFullSpec : ChangeSpec := { name := "fnBucketFillsAndStaysFull", fn := fun _ => fun
  | [d1, d2, d3, d4, d5, d6] => { results := [.lit (.bool true)], args := [d1, d2, d3, d4, d5, d6] }
  | _ => none }
def fnBucketFillsAndStaysFullRow : OpenClaim := { program := "qxb6604567a", sum := "eea6b3caf0e4eb180dc204d8e2df73aed6a16b8c61d0944c5d09db53d8f6e5d5", func := "example.com/nemesis/nemesis/zzlaws_limiter_b1.FnBucketFillsAndStaysFull", spec := "fnBucketFillsAndStaysFull", apart := false }
def FnBucketFillsAndStaysFullSaid : Prop := fnBucketFillsAndStaysFullRow.holds Try.pinned (OpenSpec.ofChange fnBucketFillsAndStaysFullSpec)

/-- ITS FALSE NEIGHBOUR: 'it returns false'. Refute it at one input. -/
def fnBucketFillsAndStaysFullWrong : ChangeSpec := { name := "fnBucketFillsAndStaysFull", fn := fun _ => fun
  | [d1, d2, d3, d4, d5, d6] => { results := [.lit (.bool false)], args := [d1, d2, d3, d4, d5, d6] }
  | _ => none }
def FnBucketFillsAndStaysFullWrongFalsely : Prop := fnBucketFillsAndStaysFullRow.holds Try.pinned (OpenSpec.ofChange fnBucketFillsAndStaysFullWrong)

/-- 'zzlaws_limiter_b1.FnDelayExact': WHATEVER THE INPUT: true; the input reads as it did. -/
def fnDelayExactSpec : ChangeSpec := { name := "fnDelayExact", fn := fun _ => fun
  | [d1, d2, d3, d4, d5, d6, d7] => { results := [.lit (.bool true)], args := [d1, d2, d3, d4, d5, d6, d7] }
  | _ => none }
def fnDelayExactRow : OpenClaim := { program := "qxb6604567a", sum := "eea6b3caf0e4eb180dc204d8e2df73aed6a16b8c61d0944c5d09db53d8f6e5d5", func := "example.com/nemesis/nemesis/zzlaws_limiter_b1.FnDelayExact", spec := "fnDelayExact", inPlace := ["math.archCeil", "math.archFloor", "math.Float64bits", "math.Float64frombits", "math.archTrunc"], apart := false }
def FnDelayExactSaid : Prop := fnDelayExactRow.holds Try.pinned (OpenSpec.ofChange fnDelayExactSpec)

/-- ITS FALSE NEIGHBOUR: 'it returns false'. Refute it at one input. -/
def fnDelayExactWrong : ChangeSpec := { name := "fnDelayExact", fn := fun _ => fun
  | [d1, d2, d3, d4, d5, d6, d7] => { results := [.lit (.bool false)], args := [d1, d2, d3, d4, d5, d6, d7] }
  | _ => none }
def FnDelayExactWrongFalsely : Prop := fnDelayExactRow.holds Try.pinned (OpenSpec.ofChange fnDelayExactWrong)

/-- 'zzlaws_limiter_b1.FnDelayWaitsOutTheLastWrite': WHATEVER THE INPUT: true; the input reads as it did. -/
def fnDelayWaitsOutTheLastWriteSpec : ChangeSpec := { name := "fnDelayWaitsOutTheLastWrite", fn := fun _ => fun
  | [d1, d2, d3, d4, d5, d6, d7] => { results := [.lit (.bool true)], args := [d1, d2, d3, d4, d5, d6, d7] }
  | _ => none }
def fnDelayWaitsOutTheLastWriteRow : OpenClaim := { program := "qxb6604567a", sum := "eea6b3caf0e4eb180dc204d8e2df73aed6a16b8c61d0944c5d09db53d8f6e5d5", func := "example.com/nemesis/nemesis/zzlaws_limiter_b1.FnDelayWaitsOutTheLastWrite", spec := "fnDelayWaitsOutTheLastWrite", inPlace := ["math.archCeil", "math.archFloor", "math.Float64bits", "math.Float64frombits", "math.archTrunc"], apart := false }
def FnDelayWaitsOutTheLastWriteSaid : Prop := fnDelayWaitsOutTheLastWriteRow.holds Try.pinned (OpenSpec.ofChange fnDelayWaitsOutTheLastWriteSpec)

/-- ITS FALSE NEIGHBOUR: 'it returns false'. Refute it at one input. -/
def fnDelayWaitsOutTheLastWriteWrong : ChangeSpec := { name := "fnDelayWaitsOutTheLastWrite", fn := fun _ => fun
  | [d1, d2, d3, d4, d5, d6, d7] => { results := [.lit (.bool false)], args := [d1, d2, d3, d4, d5, d6, d7] }
  | _ => none }
def FnDelayWaitsOutTheLastWriteWrongFalsely : Prop := fnDelayWaitsOutTheLastWriteRow.holds Try.pinned (OpenSpec.ofChange fnDelayWaitsOutTheLastWriteWrong)

end Rows
end Go.Proofs.Qxb6604567a
