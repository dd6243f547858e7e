/-
  No cell of these rows narrows 'for every input' (looked for: loops, veiled, ifaces, maps, wideKeys, modest, calm, conditions, laid).
  DERIVED. THE GIVEN ROWS OF THIS SEAT. 8 by the template 'for every input the law returns true; each argument reads behind the call as it read before'; 0 by the template 'total and deterministic' (their statements: Qxb6600241aTotals.lean).
  GIVEN WITH THE SEED: the statements are not yours to turn. If you find one false, say at which input.
  Laid BY PROGRAM, IN A SANDBOX (cutbox-rows.mjs): the forced cells as the released guide's own fill.sh prints them over the translation e033b3f17a49f6c5… (all of the seat's roots in one cut). By AI agents, Wed Nov 11 2026. No macro, syntax, notation, axiom, sorry.
-/
import Derived.Test.Qxb6600241aChecked
import GoSem.Claim
import GoSem.ClaimJoined
import GoSem.ClaimMapViews
import Derived.JoinedTies
import Derived.KernelRfl
namespace Go.Proofs.Qxb6600241a
/- THE CELL 'sum', in the pinned program and in every row, IS THE sha256 OF THE DUMP (.gsa) THAT Qxb6600241aProg.lean LOADS. Nothing in Lean hashes anything: it is a label: what it is worth is what the hold of that sum in a sandbox is worth. -/
noncomputable def Try.pinned : Pinned := { name := "qxb6600241a", sum := "e033b3f17a49f6c5b588df214c571d8a4d62bc4c210d5bc37e701d5bf3481333", checked := Try.checked }
namespace Rows
def none {H : Type} : Left H := { results := [], args := [] }

/-- 'zzlaws_root_b1.FnDownMarksSetAgreesWithAListModel': WHATEVER THE INPUT: true; the input reads as it did. -/
def fnDownMarksSetAgreesWithAListModelSpec : ChangeSpec := { name := "fnDownMarksSetAgreesWithAListModel", fn := fun _ => fun
  | [d1, d2] => { results := [.lit (.bool true)], args := [d1, d2] }
  | _ => none }
def fnDownMarksSetAgreesWithAListModelRow : OpenClaim := { program := "qxb6600241a", sum := "e033b3f17a49f6c5b588df214c571d8a4d62bc4c210d5bc37e701d5bf3481333", func := "example.com/pick2/pick2/zzlaws_root_b1.FnDownMarksSetAgreesWithAListModel", spec := "fnDownMarksSetAgreesWithAListModel", apart := false }
def FnDownMarksSetAgreesWithAListModelSaid : Prop := fnDownMarksSetAgreesWithAListModelRow.holds Try.pinned (OpenSpec.ofChange fnDownMarksSetAgreesWithAListModelSpec)

/-- ITS FALSE NEIGHBOUR: 'it returns false'. Refute it at one input. -/
def fnDownMarksSetAgreesWithAListModelWrong : ChangeSpec := { name := "fnDownMarksSetAgreesWithAListModel", fn := fun _ => fun
  | [d1, d2] => { results := [.lit (.bool false)], args := [d1, d2] }
  | _ => none }
def FnDownMarksSetAgreesWithAListModelWrongFalsely : Prop := fnDownMarksSetAgreesWithAListModelRow.holds Try.pinned (OpenSpec.ofChange fnDownMarksSetAgreesWithAListModelWrong)

/-- 'zzlaws_root_b1.FnDownMarksSetRepeatsNothingAndTouchesOnlyItsAddress': WHATEVER THE INPUT: true; the input reads as it did. -/
def fnDownMarksSetRepeatsNothingAndTouchesOnlyItsAddressSpec : ChangeSpec := { name := "fnDownMarksSetRepeatsNothingAndTouchesOnlyItsAddress", fn := fun _ => fun
  | [d1, d2, d3, d4] => { results := [.lit (.bool true)], args := [d1, d2, d3, d4] }
  | _ => none }
def fnDownMarksSetRepeatsNothingAndTouchesOnlyItsAddressRow : OpenClaim := { program := "qxb6600241a", sum := "e033b3f17a49f6c5b588df214c571d8a4d62bc4c210d5bc37e701d5bf3481333", func := "example.com/pick2/pick2/zzlaws_root_b1.FnDownMarksSetRepeatsNothingAndTouchesOnlyItsAddress", spec := "fnDownMarksSetRepeatsNothingAndTouchesOnlyItsAddress", apart := false }
def FnDownMarksSetRepeatsNothingAndTouchesOnlyItsAddressSaid : Prop := fnDownMarksSetRepeatsNothingAndTouchesOnlyItsAddressRow.holds Try.pinned (OpenSpec.ofChange fnDownMarksSetRepeatsNothingAndTouchesOnlyItsAddressSpec)

/-- ITS FALSE NEIGHBOUR: 'it returns false'. Refute it at one input. -/
def fnDownMarksSetRepeatsNothingAndTouchesOnlyItsAddressWrong : ChangeSpec := { name := "fnDownMarksSetRepeatsNothingAndTouchesOnlyItsAddress", fn := fun _ => fun
  | [d1, d2, d3, d4] => { results := [.lit (.bool false)], args := [d1, d2, d3, d4] }
  | _ => none }
def FnDownMarksSetRepeatsNothingAndTouchesOnlyItsAddressWrongFalsely : Prop := fnDownMarksSetRepeatsNothingAndTouchesOnlyItsAddressRow.holds Try.pinned (OpenSpec.ofChange fnDownMarksSetRepeatsNothingAndTouchesOnlyItsAddressWrong)

/-- 'zzlaws_root_b1.FnDownMarksFlipAndFlipBackRestores': WHATEVER THE INPUT: true; the input reads as it did. -/
def fnDownMarksFlipAndFlipBackRestoresSpec : ChangeSpec := { name := "fnDownMarksFlipAndFlipBackRestores", fn := fun _ => fun
  | [d1, d2, d3] => { results := [.lit (.bool true)], args := [d1, d2, d3] }
  | _ => none }
def fnDownMarksFlipAndFlipBackRestoresRow : OpenClaim := { program := "qxb6600241a", sum := "e033b3f17a49f6c5b588df214c571d8a4d62bc4c210d5bc37e701d5bf3481333", func := "example.com/pick2/pick2/zzlaws_root_b1.FnDownMarksFlipAndFlipBackRestores", spec := "fnDownMarksFlipAndFlipBackRestores", apart := false }
def FnDownMarksFlipAndFlipBackRestoresSaid : Prop := fnDownMarksFlipAndFlipBackRestoresRow.holds Try.pinned (OpenSpec.ofChange fnDownMarksFlipAndFlipBackRestoresSpec)

/-- ITS FALSE NEIGHBOUR: 'it returns false'. Refute it at one input. -/
def fnDownMarksFlipAndFlipBackRestoresWrong : ChangeSpec := { name := "fnDownMarksFlipAndFlipBackRestores", fn := fun _ => fun
  | [d1, d2, d3] => { results := [.lit (.bool false)], args := [d1, d2, d3] }
  | _ => none }
def FnDownMarksFlipAndFlipBackRestoresWrongFalsely : Prop := fnDownMarksFlipAndFlipBackRestoresRow.holds Try.pinned (OpenSpec.ofChange fnDownMarksFlipAndFlipBackRestoresWrong)

/-- 'zzlaws_root_b1.FnFailureShiftFailuresFromACleanRecordQuadrupleTheOdds': WHATEVER THE INPUT: true; the input reads as it did. -/
def fnFailureShiftFailuresFromACleanRecordQuadrupleTheOddsSpec : ChangeSpec := { name := "fnFailureShiftFailuresFromACleanRecordQuadrupleTheOdds", fn := fun _ => fun
  | [d1, d2, d3, d4] => { results := [.lit (.bool true)], args := [d1, d2, d3, d4] }
  | _ => none }
def fnFailureShiftFailuresFromACleanRecordQuadrupleTheOddsRow : OpenClaim := { program := "qxb6600241a", sum := "e033b3f17a49f6c5b588df214c571d8a4d62bc4c210d5bc37e701d5bf3481333", func := "example.com/pick2/pick2/zzlaws_root_b1.FnFailureShiftFailuresFromACleanRecordQuadrupleTheOdds", spec := "fnFailureShiftFailuresFromACleanRecordQuadrupleTheOdds", apart := false }
def FnFailureShiftFailuresFromACleanRecordQuadrupleTheOddsSaid : Prop := fnFailureShiftFailuresFromACleanRecordQuadrupleTheOddsRow.holds Try.pinned (OpenSpec.ofChange fnFailureShiftFailuresFromACleanRecordQuadrupleTheOddsSpec)

/-- ITS FALSE NEIGHBOUR: 'it returns false'. Refute it at one input. -/
def fnFailureShiftFailuresFromACleanRecordQuadrupleTheOddsWrong : ChangeSpec := { name := "fnFailureShiftFailuresFromACleanRecordQuadrupleTheOdds", fn := fun _ => fun
  | [d1, d2, d3, d4] => { results := [.lit (.bool false)], args := [d1, d2, d3, d4] }
  | _ => none }
def FnFailureShiftFailuresFromACleanRecordQuadrupleTheOddsWrongFalsely : Prop := fnFailureShiftFailuresFromACleanRecordQuadrupleTheOddsRow.holds Try.pinned (OpenSpec.ofChange fnFailureShiftFailuresFromACleanRecordQuadrupleTheOddsWrong)

/-- 'zzlaws_root_b1.FnFailureShiftFailureOutweighsSuccess': WHATEVER THE INPUT: true; the input reads as it did. -/
def fnFailureShiftFailureOutweighsSuccessSpec : ChangeSpec := { name := "fnFailureShiftFailureOutweighsSuccess", fn := fun _ => fun
  | [d1, d2, d3, d4, d5, d6] => { results := [.lit (.bool true)], args := [d1, d2, d3, d4, d5, d6] }
  | _ => none }
def fnFailureShiftFailureOutweighsSuccessRow : OpenClaim := { program := "qxb6600241a", sum := "e033b3f17a49f6c5b588df214c571d8a4d62bc4c210d5bc37e701d5bf3481333", func := "example.com/pick2/pick2/zzlaws_root_b1.FnFailureShiftFailureOutweighsSuccess", spec := "fnFailureShiftFailureOutweighsSuccess", apart := false }
def FnFailureShiftFailureOutweighsSuccessSaid : Prop := fnFailureShiftFailureOutweighsSuccessRow.holds Try.pinned (OpenSpec.ofChange fnFailureShiftFailureOutweighsSuccessSpec)

/-- ITS FALSE NEIGHBOUR: 'it returns false'. Refute it at one input. -/
def fnFailureShiftFailureOutweighsSuccessWrong : ChangeSpec := { name := "fnFailureShiftFailureOutweighsSuccess", fn := fun _ => fun
  | [d1, d2, d3, d4, d5, d6] => { results := [.lit (.bool false)], args := [d1, d2, d3, d4, d5, d6] }
  | _ => none }
def FnFailureShiftFailureOutweighsSuccessWrongFalsely : Prop := fnFailureShiftFailureOutweighsSuccessRow.holds Try.pinned (OpenSpec.ofChange fnFailureShiftFailureOutweighsSuccessWrong)

/-- 'zzlaws_root_b1.FnLoadViewScoreDecidesWhateverTheLoads': WHATEVER THE INPUT: true; the input reads as it did. -/
def fnLoadViewScoreDecidesWhateverTheLoadsSpec : ChangeSpec := { name := "fnLoadViewScoreDecidesWhateverTheLoads", fn := fun _ => fun
  | [d1, d2, d3, d4, d5, d6, d7, d8, d9, d10] => { results := [.lit (.bool true)], args := [d1, d2, d3, d4, d5, d6, d7, d8, d9, d10] }
  | _ => none }
def fnLoadViewScoreDecidesWhateverTheLoadsRow : OpenClaim := { program := "qxb6600241a", sum := "e033b3f17a49f6c5b588df214c571d8a4d62bc4c210d5bc37e701d5bf3481333", func := "example.com/pick2/pick2/zzlaws_root_b1.FnLoadViewScoreDecidesWhateverTheLoads", spec := "fnLoadViewScoreDecidesWhateverTheLoads", apart := false }
def FnLoadViewScoreDecidesWhateverTheLoadsSaid : Prop := fnLoadViewScoreDecidesWhateverTheLoadsRow.holds Try.pinned (OpenSpec.ofChange fnLoadViewScoreDecidesWhateverTheLoadsSpec)

/-- ITS FALSE NEIGHBOUR: 'it returns false'. Refute it at one input. -/
def fnLoadViewScoreDecidesWhateverTheLoadsWrong : ChangeSpec := { name := "fnLoadViewScoreDecidesWhateverTheLoads", fn := fun _ => fun
  | [d1, d2, d3, d4, d5, d6, d7, d8, d9, d10] => { results := [.lit (.bool false)], args := [d1, d2, d3, d4, d5, d6, d7, d8, d9, d10] }
  | _ => none }
def FnLoadViewScoreDecidesWhateverTheLoadsWrongFalsely : Prop := fnLoadViewScoreDecidesWhateverTheLoadsRow.holds Try.pinned (OpenSpec.ofChange fnLoadViewScoreDecidesWhateverTheLoadsWrong)

/-- 'zzlaws_root_b1.FnLoadViewUntriedGoesFirst': WHATEVER THE INPUT: true; the input reads as it did. -/
def fnLoadViewUntriedGoesFirstSpec : ChangeSpec := { name := "fnLoadViewUntriedGoesFirst", fn := fun _ => fun
  | [d1, d2, d3, d4, d5, d6, d7] => { results := [.lit (.bool true)], args := [d1, d2, d3, d4, d5, d6, d7] }
  | _ => none }
def fnLoadViewUntriedGoesFirstRow : OpenClaim := { program := "qxb6600241a", sum := "e033b3f17a49f6c5b588df214c571d8a4d62bc4c210d5bc37e701d5bf3481333", func := "example.com/pick2/pick2/zzlaws_root_b1.FnLoadViewUntriedGoesFirst", spec := "fnLoadViewUntriedGoesFirst", apart := false }
def FnLoadViewUntriedGoesFirstSaid : Prop := fnLoadViewUntriedGoesFirstRow.holds Try.pinned (OpenSpec.ofChange fnLoadViewUntriedGoesFirstSpec)

/-- ITS FALSE NEIGHBOUR: 'it returns false'. Refute it at one input. -/
def fnLoadViewUntriedGoesFirstWrong : ChangeSpec := { name := "fnLoadViewUntriedGoesFirst", fn := fun _ => fun
  | [d1, d2, d3, d4, d5, d6, d7] => { results := [.lit (.bool false)], args := [d1, d2, d3, d4, d5, d6, d7] }
  | _ => none }
def FnLoadViewUntriedGoesFirstWrongFalsely : Prop := fnLoadViewUntriedGoesFirstRow.holds Try.pinned (OpenSpec.ofChange fnLoadViewUntriedGoesFirstWrong)

/-- 'zzlaws_root_b1.FnLoadViewStrictOrder': WHATEVER THE INPUT: true; the input reads as it did. -/
def fnLoadViewStrictOrderSpec : ChangeSpec := { name := "fnLoadViewStrictOrder", fn := fun _ => fun
  | [d1, d2, d3, d4, d5, d6, d7, d8, d9, d10] => { results := [.lit (.bool true)], args := [d1, d2, d3, d4, d5, d6, d7, d8, d9, d10] }
  | _ => none }
def fnLoadViewStrictOrderRow : OpenClaim := { program := "qxb6600241a", sum := "e033b3f17a49f6c5b588df214c571d8a4d62bc4c210d5bc37e701d5bf3481333", func := "example.com/pick2/pick2/zzlaws_root_b1.FnLoadViewStrictOrder", spec := "fnLoadViewStrictOrder", apart := false }
def FnLoadViewStrictOrderSaid : Prop := fnLoadViewStrictOrderRow.holds Try.pinned (OpenSpec.ofChange fnLoadViewStrictOrderSpec)

/-- ITS FALSE NEIGHBOUR: 'it returns false'. Refute it at one input. -/
def fnLoadViewStrictOrderWrong : ChangeSpec := { name := "fnLoadViewStrictOrder", fn := fun _ => fun
  | [d1, d2, d3, d4, d5, d6, d7, d8, d9, d10] => { results := [.lit (.bool false)], args := [d1, d2, d3, d4, d5, d6, d7, d8, d9, d10] }
  | _ => none }
def FnLoadViewStrictOrderWrongFalsely : Prop := fnLoadViewStrictOrderRow.holds Try.pinned (OpenSpec.ofChange fnLoadViewStrictOrderWrong)

end Rows
end Go.Proofs.Qxb6600241a
