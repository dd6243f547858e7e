/-
  No cell of these rows narrows 'for every input' (looked for: loops, veiled, ifaces, maps, wideKeys, modest, calm, conditions, laid).
  DERIVED. THE GIVEN ROWS OF THIS SEAT. 5 by the template 'for every input the law returns true; each argument reads behind the call as it read before'; 0 by the template 'total and deterministic' (their statements: Qxb6600223aTotals.lean).
  GIVEN WITH THE SEED: the statements are not yours to turn. If you find one false, say at which input.
  Laid BY PROGRAM, IN A SANDBOX (cutbox-rows.mjs): the forced cells as the released guide's own fill.sh prints them over the translation 0df87be1d9d2abbb… (all of the seat's roots in one cut). By AI agents, Wed Nov 11 2026. No macro, syntax, notation, axiom, sorry.
-/
import Derived.Test.Qxb6600223aChecked
import GoSem.Claim
import GoSem.ClaimJoined
import GoSem.ClaimMapViews
import Derived.JoinedTies
import Derived.KernelRfl
namespace Go.Proofs.Qxb6600223a
/- THE CELL 'sum', in the pinned program and in every row, IS THE sha256 OF THE DUMP (.gsa) THAT Qxb6600223aProg.lean LOADS. Nothing in Lean hashes anything: it is a label: what it is worth is what the hold of that sum in a sandbox is worth. -/
noncomputable def Try.pinned : Pinned := { name := "qxb6600223a", sum := "0df87be1d9d2abbbc482dd4c51c98298d07644719fab11f9797926dad4069652", checked := Try.checked }
namespace Rows
def none {H : Type} : Left H := { results := [], args := [] }

/-- 'zzlaws_internal_block_b1.FnMostDistinctIsLargestAffordableCount': WHATEVER THE INPUT: true; the input reads as it did. -/
def fnMostDistinctIsLargestAffordableCountSpec : ChangeSpec := { name := "fnMostDistinctIsLargestAffordableCount", fn := fun _ => fun
  | [d1, d2] => { results := [.lit (.bool true)], args := [d1, d2] }
  | _ => none }
def fnMostDistinctIsLargestAffordableCountRow : OpenClaim := { program := "qxb6600223a", sum := "0df87be1d9d2abbbc482dd4c51c98298d07644719fab11f9797926dad4069652", func := "example.com/lotcast/lotcast/zzlaws_internal_block_b1.FnMostDistinctIsLargestAffordableCount", spec := "fnMostDistinctIsLargestAffordableCount", apart := false }
def FnMostDistinctIsLargestAffordableCountSaid : Prop := fnMostDistinctIsLargestAffordableCountRow.holds Try.pinned (OpenSpec.ofChange fnMostDistinctIsLargestAffordableCountSpec)

/-- ITS FALSE NEIGHBOUR: 'it returns false'. Refute it at one input. -/
def fnMostDistinctIsLargestAffordableCountWrong : ChangeSpec := { name := "fnMostDistinctIsLargestAffordableCount", fn := fun _ => fun
  | [d1, d2] => { results := [.lit (.bool false)], args := [d1, d2] }
  | _ => none }
def FnMostDistinctIsLargestAffordableCountWrongFalsely : Prop := fnMostDistinctIsLargestAffordableCountRow.holds Try.pinned (OpenSpec.ofChange fnMostDistinctIsLargestAffordableCountWrong)

/-- 'zzlaws_internal_block_b1.FnMostDistinctMonotone': WHATEVER THE INPUT: true; the input reads as it did. -/
def fnMostDistinctMonotoneSpec : ChangeSpec := { name := "fnMostDistinctMonotone", fn := fun _ => fun
  | [d1, d2, d3, d4] => { results := [.lit (.bool true)], args := [d1, d2, d3, d4] }
  | _ => none }
def fnMostDistinctMonotoneRow : OpenClaim := { program := "qxb6600223a", sum := "0df87be1d9d2abbbc482dd4c51c98298d07644719fab11f9797926dad4069652", func := "example.com/lotcast/lotcast/zzlaws_internal_block_b1.FnMostDistinctMonotone", spec := "fnMostDistinctMonotone", apart := false }
def FnMostDistinctMonotoneSaid : Prop := fnMostDistinctMonotoneRow.holds Try.pinned (OpenSpec.ofChange fnMostDistinctMonotoneSpec)

/-- ITS FALSE NEIGHBOUR: 'it returns false'. Refute it at one input. -/
def fnMostDistinctMonotoneWrong : ChangeSpec := { name := "fnMostDistinctMonotone", fn := fun _ => fun
  | [d1, d2, d3, d4] => { results := [.lit (.bool false)], args := [d1, d2, d3, d4] }
  | _ => none }
def FnMostDistinctMonotoneWrongFalsely : Prop := fnMostDistinctMonotoneRow.holds Try.pinned (OpenSpec.ofChange fnMostDistinctMonotoneWrong)

/-- 'zzlaws_internal_block_b1.FnTxBytesAddsOverASplit': WHATEVER THE INPUT: true; the input reads as it did. -/
def fnTxBytesAddsOverASplitSpec : ChangeSpec := { name := "fnTxBytesAddsOverASplit", fn := fun _ => fun
  | [d1, d2] => { results := [.lit (.bool true)], args := [d1, d2] }
  | _ => none }
def fnTxBytesAddsOverASplitRow : OpenClaim := { program := "qxb6600223a", sum := "0df87be1d9d2abbbc482dd4c51c98298d07644719fab11f9797926dad4069652", func := "example.com/lotcast/lotcast/zzlaws_internal_block_b1.FnTxBytesAddsOverASplit", spec := "fnTxBytesAddsOverASplit", apart := false }
def FnTxBytesAddsOverASplitSaid : Prop := fnTxBytesAddsOverASplitRow.holds Try.pinned (OpenSpec.ofChange fnTxBytesAddsOverASplitSpec)

/-- ITS FALSE NEIGHBOUR: 'it returns false'. Refute it at one input. -/
def fnTxBytesAddsOverASplitWrong : ChangeSpec := { name := "fnTxBytesAddsOverASplit", fn := fun _ => fun
  | [d1, d2] => { results := [.lit (.bool false)], args := [d1, d2] }
  | _ => none }
def FnTxBytesAddsOverASplitWrongFalsely : Prop := fnTxBytesAddsOverASplitRow.holds Try.pinned (OpenSpec.ofChange fnTxBytesAddsOverASplitWrong)

/-- 'zzlaws_internal_block_b1.FnTxBytesOrderFreeAndBounded': WHATEVER THE INPUT: true; the input reads as it did. -/
def fnTxBytesOrderFreeAndBoundedSpec : ChangeSpec := { name := "fnTxBytesOrderFreeAndBounded", fn := fun _ => fun
  | [d] => { results := [.lit (.bool true)], args := [d] }
  | _ => none }
def fnTxBytesOrderFreeAndBoundedRow : OpenClaim := { program := "qxb6600223a", sum := "0df87be1d9d2abbbc482dd4c51c98298d07644719fab11f9797926dad4069652", func := "example.com/lotcast/lotcast/zzlaws_internal_block_b1.FnTxBytesOrderFreeAndBounded", spec := "fnTxBytesOrderFreeAndBounded", apart := false }
def FnTxBytesOrderFreeAndBoundedSaid : Prop := fnTxBytesOrderFreeAndBoundedRow.holds Try.pinned (OpenSpec.ofChange fnTxBytesOrderFreeAndBoundedSpec)

/-- ITS FALSE NEIGHBOUR: 'it returns false'. Refute it at one input. -/
def fnTxBytesOrderFreeAndBoundedWrong : ChangeSpec := { name := "fnTxBytesOrderFreeAndBounded", fn := fun _ => fun
  | [d] => { results := [.lit (.bool false)], args := [d] }
  | _ => none }
def FnTxBytesOrderFreeAndBoundedWrongFalsely : Prop := fnTxBytesOrderFreeAndBoundedRow.holds Try.pinned (OpenSpec.ofChange fnTxBytesOrderFreeAndBoundedWrong)

/-- 'zzlaws_internal_block_b1.FnEncodedCommitKeepsEverySignature': WHATEVER THE INPUT: true; the input reads as it did. -/
def fnEncodedCommitKeepsEverySignatureSpec : ChangeSpec := { name := "fnEncodedCommitKeepsEverySignature", fn := fun _ => fun
  | [d1, d2, d3, d4, d5, d6] => { results := [.lit (.bool true)], args := [d1, d2, d3, d4, d5, d6] }
  | _ => none }
def fnEncodedCommitKeepsEverySignatureRow : OpenClaim := { program := "qxb6600223a", sum := "0df87be1d9d2abbbc482dd4c51c98298d07644719fab11f9797926dad4069652", func := "example.com/lotcast/lotcast/zzlaws_internal_block_b1.FnEncodedCommitKeepsEverySignature", spec := "fnEncodedCommitKeepsEverySignature", apart := false }
def FnEncodedCommitKeepsEverySignatureSaid : Prop := fnEncodedCommitKeepsEverySignatureRow.holds Try.pinned (OpenSpec.ofChange fnEncodedCommitKeepsEverySignatureSpec)

/-- ITS FALSE NEIGHBOUR: 'it returns false'. Refute it at one input. -/
def fnEncodedCommitKeepsEverySignatureWrong : ChangeSpec := { name := "fnEncodedCommitKeepsEverySignature", fn := fun _ => fun
  | [d1, d2, d3, d4, d5, d6] => { results := [.lit (.bool false)], args := [d1, d2, d3, d4, d5, d6] }
  | _ => none }
def FnEncodedCommitKeepsEverySignatureWrongFalsely : Prop := fnEncodedCommitKeepsEverySignatureRow.holds Try.pinned (OpenSpec.ofChange fnEncodedCommitKeepsEverySignatureWrong)

end Rows
end Go.Proofs.Qxb6600223a
