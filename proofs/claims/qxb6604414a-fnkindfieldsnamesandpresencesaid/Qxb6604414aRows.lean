/-
  No cell of these rows narrows 'for every input' (looked for: loops, veiled, ifaces, maps, wideKeys, modest, calm, conditions, laid).
  DERIVED. THE GIVEN ROWS OF THIS SEAT. 6 by the template 'for every input the law returns true; each argument reads behind the call as it read before'; 0 by the template 'total and deterministic' (their statements: Qxb6604414aTotals.lean).
  GIVEN WITH THE SEED: the statements are not yours to turn. If you find one false, say at which input.
  Laid BY PROGRAM, IN A SANDBOX (cutbox-rows.mjs): the forced cells as the released guide's own fill.sh prints them over the translation 57dd08b1a63a1b59… (all of the seat's roots in one cut). By AI agents, Wed Nov 11 2026. No macro, syntax, notation, axiom, sorry.
-/
import Derived.Test.Qxb6604414aChecked
import GoSem.Claim
import GoSem.ClaimJoined
import GoSem.ClaimMapViews
import Derived.JoinedTies
import Derived.KernelRfl
namespace Go.Proofs.Qxb6604414a
/- THE CELL 'sum', in the pinned program and in every row, IS THE sha256 OF THE DUMP (.gsa) THAT Qxb6604414aProg.lean LOADS. Nothing in Lean hashes anything: it is a label: what it is worth is what the hold of that sum in a sandbox is worth. -/
noncomputable def Try.pinned : Pinned := { name := "qxb6604414a", sum := "57dd08b1a63a1b598240dd066e6973d0c6ccb7415d637dd68017e736febdd9a0", checked := Try.checked }
namespace Rows
def none {H : Type} : Left H := { results := [], args := [] }

/-- 'zzlaws_judging_b1.FnKeysAndTextsCopiesEach': WHATEVER THE INPUT: true; the input reads as it did. -/
def fnKeysAndTextsCopiesEachSpec : ChangeSpec := { name := "fnKeysAndTextsCopiesEach", fn := fun _ => fun
  | [d1, d2] => { results := [.lit (.bool true)], args := [d1, d2] }
  | _ => none }
def fnKeysAndTextsCopiesEachRow : OpenClaim := { program := "qxb6604414a", sum := "57dd08b1a63a1b598240dd066e6973d0c6ccb7415d637dd68017e736febdd9a0", func := "example.com/quizledger/quizledger/zzlaws_judging_b1.FnKeysAndTextsCopiesEach", spec := "fnKeysAndTextsCopiesEach", unfollowed := true, recurses := true, apart := false }
def FnKeysAndTextsCopiesEachSaid : Prop := fnKeysAndTextsCopiesEachRow.holds Try.pinned (OpenSpec.ofChange fnKeysAndTextsCopiesEachSpec)

/-- ITS FALSE NEIGHBOUR: 'it returns false'. Refute it at one input. -/
def fnKeysAndTextsCopiesEachWrong : ChangeSpec := { name := "fnKeysAndTextsCopiesEach", fn := fun _ => fun
  | [d1, d2] => { results := [.lit (.bool false)], args := [d1, d2] }
  | _ => none }
def FnKeysAndTextsCopiesEachWrongFalsely : Prop := fnKeysAndTextsCopiesEachRow.holds Try.pinned (OpenSpec.ofChange fnKeysAndTextsCopiesEachWrong)

/-- 'zzlaws_judging_b1.FnKeysAndTextsTwiceIsFresh': WHATEVER THE INPUT: true; the input reads as it did. -/
def fnKeysAndTextsTwiceIsFreshSpec : ChangeSpec := { name := "fnKeysAndTextsTwiceIsFresh", fn := fun _ => fun
  | [d1, d2] => { results := [.lit (.bool true)], args := [d1, d2] }
  | _ => none }
def fnKeysAndTextsTwiceIsFreshRow : OpenClaim := { program := "qxb6604414a", sum := "57dd08b1a63a1b598240dd066e6973d0c6ccb7415d637dd68017e736febdd9a0", func := "example.com/quizledger/quizledger/zzlaws_judging_b1.FnKeysAndTextsTwiceIsFresh", spec := "fnKeysAndTextsTwiceIsFresh", unfollowed := true, recurses := true, apart := false }
def FnKeysAndTextsTwiceIsFreshSaid : Prop := fnKeysAndTextsTwiceIsFreshRow.holds Try.pinned (OpenSpec.ofChange fnKeysAndTextsTwiceIsFreshSpec)

/-- ITS FALSE NEIGHBOUR: 'it returns false'. Refute it at one input. -/
def fnKeysAndTextsTwiceIsFreshWrong : ChangeSpec := { name := "fnKeysAndTextsTwiceIsFresh", fn := fun _ => fun
  | [d1, d2] => { results := [.lit (.bool false)], args := [d1, d2] }
  | _ => none }
def FnKeysAndTextsTwiceIsFreshWrongFalsely : Prop := fnKeysAndTextsTwiceIsFreshRow.holds Try.pinned (OpenSpec.ofChange fnKeysAndTextsTwiceIsFreshWrong)

/-- 'zzlaws_judging_b1.FnTakesAddRemoveName': WHATEVER THE INPUT: true; the input reads as it did. -/
def fnTakesAddRemoveNameSpec : ChangeSpec := { name := "fnTakesAddRemoveName", fn := fun _ => fun
  | [d1, d2, d3, d4] => { results := [.lit (.bool true)], args := [d1, d2, d3, d4] }
  | _ => none }
def fnTakesAddRemoveNameRow : OpenClaim := { program := "qxb6604414a", sum := "57dd08b1a63a1b598240dd066e6973d0c6ccb7415d637dd68017e736febdd9a0", func := "example.com/quizledger/quizledger/zzlaws_judging_b1.FnTakesAddRemoveName", spec := "fnTakesAddRemoveName", apart := false }
def FnTakesAddRemoveNameSaid : Prop := fnTakesAddRemoveNameRow.holds Try.pinned (OpenSpec.ofChange fnTakesAddRemoveNameSpec)

/-- ITS FALSE NEIGHBOUR: 'it returns false'. Refute it at one input. -/
def fnTakesAddRemoveNameWrong : ChangeSpec := { name := "fnTakesAddRemoveName", fn := fun _ => fun
  | [d1, d2, d3, d4] => { results := [.lit (.bool false)], args := [d1, d2, d3, d4] }
  | _ => none }
def FnTakesAddRemoveNameWrongFalsely : Prop := fnTakesAddRemoveNameRow.holds Try.pinned (OpenSpec.ofChange fnTakesAddRemoveNameWrong)

/-- 'zzlaws_judging_b1.FnTakesListShapeAndPins': WHATEVER THE INPUT: true; the input reads as it did. -/
def fnTakesListShapeAndPinsSpec : ChangeSpec := { name := "fnTakesListShapeAndPins", fn := fun _ => fun
  | [d1, d2, d3, d4] => { results := [.lit (.bool true)], args := [d1, d2, d3, d4] }
  | _ => none }
def fnTakesListShapeAndPinsRow : OpenClaim := { program := "qxb6604414a", sum := "57dd08b1a63a1b598240dd066e6973d0c6ccb7415d637dd68017e736febdd9a0", func := "example.com/quizledger/quizledger/zzlaws_judging_b1.FnTakesListShapeAndPins", spec := "fnTakesListShapeAndPins", apart := false }
def FnTakesListShapeAndPinsSaid : Prop := fnTakesListShapeAndPinsRow.holds Try.pinned (OpenSpec.ofChange fnTakesListShapeAndPinsSpec)

/-- ITS FALSE NEIGHBOUR: 'it returns false'. Refute it at one input. -/
def fnTakesListShapeAndPinsWrong : ChangeSpec := { name := "fnTakesListShapeAndPins", fn := fun _ => fun
  | [d1, d2, d3, d4] => { results := [.lit (.bool false)], args := [d1, d2, d3, d4] }
  | _ => none }
def FnTakesListShapeAndPinsWrongFalsely : Prop := fnTakesListShapeAndPinsRow.holds Try.pinned (OpenSpec.ofChange fnTakesListShapeAndPinsWrong)

/-- 'zzlaws_judging_b1.FnKindFieldsNamesAndPresence': WHATEVER THE INPUT: true; the input reads as it did. -/
def fnKindFieldsNamesAndPresenceSpec : ChangeSpec := { name := "fnKindFieldsNamesAndPresence", fn := fun _ => fun
  | [d] => { results := [.lit (.bool true)], args := [d] }
  | _ => none }
def fnKindFieldsNamesAndPresenceRow : OpenClaim := { program := "qxb6604414a", sum := "57dd08b1a63a1b598240dd066e6973d0c6ccb7415d637dd68017e736febdd9a0", func := "example.com/quizledger/quizledger/zzlaws_judging_b1.FnKindFieldsNamesAndPresence", spec := "fnKindFieldsNamesAndPresence", apart := false }
def FnKindFieldsNamesAndPresenceSaid : Prop := fnKindFieldsNamesAndPresenceRow.holds Try.pinned (OpenSpec.ofChange fnKindFieldsNamesAndPresenceSpec)

/-- ITS FALSE NEIGHBOUR: 'it returns false'. Refute it at one input. -/
def fnKindFieldsNamesAndPresenceWrong : ChangeSpec := { name := "fnKindFieldsNamesAndPresence", fn := fun _ => fun
  | [d] => { results := [.lit (.bool false)], args := [d] }
  | _ => none }
def FnKindFieldsNamesAndPresenceWrongFalsely : Prop := fnKindFieldsNamesAndPresenceRow.holds Try.pinned (OpenSpec.ofChange fnKindFieldsNamesAndPresenceWrong)

/-- 'zzlaws_judging_b1.FnKindFieldsEachFieldAlone': WHATEVER THE INPUT: true; the input reads as it did. -/
def fnKindFieldsEachFieldAloneSpec : ChangeSpec := { name := "fnKindFieldsEachFieldAlone", fn := fun _ => fun
  | [d] => { results := [.lit (.bool true)], args := [d] }
  | _ => none }
def fnKindFieldsEachFieldAloneRow : OpenClaim := { program := "qxb6604414a", sum := "57dd08b1a63a1b598240dd066e6973d0c6ccb7415d637dd68017e736febdd9a0", func := "example.com/quizledger/quizledger/zzlaws_judging_b1.FnKindFieldsEachFieldAlone", spec := "fnKindFieldsEachFieldAlone", apart := false }
def FnKindFieldsEachFieldAloneSaid : Prop := fnKindFieldsEachFieldAloneRow.holds Try.pinned (OpenSpec.ofChange fnKindFieldsEachFieldAloneSpec)

/-- ITS FALSE NEIGHBOUR: 'it returns false'. Refute it at one input. -/
def fnKindFieldsEachFieldAloneWrong : ChangeSpec := { name := "fnKindFieldsEachFieldAlone", fn := fun _ => fun
  | [d] => { results := [.lit (.bool false)], args := [d] }
  | _ => none }
def FnKindFieldsEachFieldAloneWrongFalsely : Prop := fnKindFieldsEachFieldAloneRow.holds Try.pinned (OpenSpec.ofChange fnKindFieldsEachFieldAloneWrong)

end Rows
end Go.Proofs.Qxb6604414a
