/-
  NARROWER THAN 'FOR EVERY INPUT', by the rows' own cells (each row's printed sentence says how): FnEntryEncodedSizeGrows: maps · FnEntryEncodedSizeAddConsumer: maps · FnEntryEncodedSizeBoundIgnoresStoredAndCounts: maps.
  DERIVED. THE GIVEN ROWS OF THIS SEAT. 8 by the template 'for every input the law returns true; each argument reads behind the call as it read before'; 0 by the template 'total and deterministic' (their statements: Qxb6605389aModsTotals.lean).
  GIVEN WITH THE SEED: the statements are not yours to turn. If you find one false, say at which input.
  Laid BY PROGRAM, IN A SANDBOX (cutbox-rows.mjs): the forced cells as the released guide's own fill.sh prints them over the translation 8209451aa38885df… (all of the seat's roots in one cut). By AI agents, Wed Nov 11 2026. No macro, syntax, notation, axiom, sorry.
-/
import Derived.Test.Qxb6605389aModsChecked
import GoSem.Claim
import GoSem.ClaimJoined
import GoSem.ClaimMapViews
import Derived.JoinedTies
import Derived.KernelRfl
namespace Go.Proofs.Qxb6605389aMods
/- THE CELL 'sum', in the pinned program and in every row, IS THE sha256 OF THE DUMP (.gsa) THAT Qxb6605389aModsProg.lean LOADS. Nothing in Lean hashes anything: it is a label: what it is worth is what the hold of that sum in a sandbox is worth. -/
noncomputable def Trym.pinned : Pinned := { name := "qxb6605389amods", sum := "8209451aa38885dfbb5cf715e9185af5286f20d89404116512d855922f42b5a4", checked := Trym.checked }
namespace Rows
def none {H : Type} : Left H := { results := [], args := [] }

/-- 'zzlaws_queue_b1.FnPositionBeforeByteKey': WHATEVER THE INPUT: true; the input reads as it did. -/
def fnPositionBeforeByteKeySpec : ChangeSpec := { name := "fnPositionBeforeByteKey", fn := fun _ => fun
  | [d1, d2, d3, d4, d5, d6] => { results := [.lit (.bool true)], args := [d1, d2, d3, d4, d5, d6] }
  | _ => none }
def fnPositionBeforeByteKeyRow : OpenClaim := { program := "qxb6605389amods", sum := "8209451aa38885dfbb5cf715e9185af5286f20d89404116512d855922f42b5a4", func := "example.com/waybill/waybill/zzlaws_queue_b1.FnPositionBeforeByteKey", spec := "fnPositionBeforeByteKey", make := .lifted ["publicsums"], apart := false }
def FnPositionBeforeByteKeySaid : Prop := fnPositionBeforeByteKeyRow.holds Trym.pinned (OpenSpec.ofChange fnPositionBeforeByteKeySpec)

/-- ITS FALSE NEIGHBOUR: 'it returns false'. Refute it at one input. -/
def fnPositionBeforeByteKeyWrong : ChangeSpec := { name := "fnPositionBeforeByteKey", fn := fun _ => fun
  | [d1, d2, d3, d4, d5, d6] => { results := [.lit (.bool false)], args := [d1, d2, d3, d4, d5, d6] }
  | _ => none }
def FnPositionBeforeByteKeyWrongFalsely : Prop := fnPositionBeforeByteKeyRow.holds Trym.pinned (OpenSpec.ofChange fnPositionBeforeByteKeyWrong)

/-- 'zzlaws_queue_b1.FnPositionBeforeStrictTotalOrder': WHATEVER THE INPUT: true; the input reads as it did. -/
def fnPositionBeforeStrictTotalOrderSpec : ChangeSpec := { name := "fnPositionBeforeStrictTotalOrder", fn := fun _ => fun
  | [d1, d2, d3, d4, d5, d6, d7, d8, d9] => { results := [.lit (.bool true)], args := [d1, d2, d3, d4, d5, d6, d7, d8, d9] }
  | _ => none }
def fnPositionBeforeStrictTotalOrderRow : OpenClaim := { program := "qxb6605389amods", sum := "8209451aa38885dfbb5cf715e9185af5286f20d89404116512d855922f42b5a4", func := "example.com/waybill/waybill/zzlaws_queue_b1.FnPositionBeforeStrictTotalOrder", spec := "fnPositionBeforeStrictTotalOrder", make := .lifted ["publicsums"], apart := false }
def FnPositionBeforeStrictTotalOrderSaid : Prop := fnPositionBeforeStrictTotalOrderRow.holds Trym.pinned (OpenSpec.ofChange fnPositionBeforeStrictTotalOrderSpec)

/-- ITS FALSE NEIGHBOUR: 'it returns false'. Refute it at one input. -/
def fnPositionBeforeStrictTotalOrderWrong : ChangeSpec := { name := "fnPositionBeforeStrictTotalOrder", fn := fun _ => fun
  | [d1, d2, d3, d4, d5, d6, d7, d8, d9] => { results := [.lit (.bool false)], args := [d1, d2, d3, d4, d5, d6, d7, d8, d9] }
  | _ => none }
def FnPositionBeforeStrictTotalOrderWrongFalsely : Prop := fnPositionBeforeStrictTotalOrderRow.holds Trym.pinned (OpenSpec.ofChange fnPositionBeforeStrictTotalOrderWrong)

/-- 'zzlaws_queue_b1.FnEncodedEventsSizeAppendOne': WHATEVER THE INPUT: true; the input reads as it did. -/
def fnEncodedEventsSizeAppendOneSpec : ChangeSpec := { name := "fnEncodedEventsSizeAppendOne", fn := fun _ => fun
  | [d1, d2] => { results := [.lit (.bool true)], args := [d1, d2] }
  | _ => none }
def fnEncodedEventsSizeAppendOneRow : OpenClaim := { program := "qxb6605389amods", sum := "8209451aa38885dfbb5cf715e9185af5286f20d89404116512d855922f42b5a4", func := "example.com/waybill/waybill/zzlaws_queue_b1.FnEncodedEventsSizeAppendOne", spec := "fnEncodedEventsSizeAppendOne", make := .lifted ["publicsums"], apart := false }
def FnEncodedEventsSizeAppendOneSaid : Prop := fnEncodedEventsSizeAppendOneRow.holds Trym.pinned (OpenSpec.ofChange fnEncodedEventsSizeAppendOneSpec)

/-- ITS FALSE NEIGHBOUR: 'it returns false'. Refute it at one input. -/
def fnEncodedEventsSizeAppendOneWrong : ChangeSpec := { name := "fnEncodedEventsSizeAppendOne", fn := fun _ => fun
  | [d1, d2] => { results := [.lit (.bool false)], args := [d1, d2] }
  | _ => none }
def FnEncodedEventsSizeAppendOneWrongFalsely : Prop := fnEncodedEventsSizeAppendOneRow.holds Trym.pinned (OpenSpec.ofChange fnEncodedEventsSizeAppendOneWrong)

/-- 'zzlaws_queue_b1.FnEncodedEventsSizeConcat': WHATEVER THE INPUT: true; the input reads as it did. -/
def fnEncodedEventsSizeConcatSpec : ChangeSpec := { name := "fnEncodedEventsSizeConcat", fn := fun _ => fun
  | [d1, d2] => { results := [.lit (.bool true)], args := [d1, d2] }
  | _ => none }
def fnEncodedEventsSizeConcatRow : OpenClaim := { program := "qxb6605389amods", sum := "8209451aa38885dfbb5cf715e9185af5286f20d89404116512d855922f42b5a4", func := "example.com/waybill/waybill/zzlaws_queue_b1.FnEncodedEventsSizeConcat", spec := "fnEncodedEventsSizeConcat", make := .lifted ["publicsums"], apart := false }
def FnEncodedEventsSizeConcatSaid : Prop := fnEncodedEventsSizeConcatRow.holds Trym.pinned (OpenSpec.ofChange fnEncodedEventsSizeConcatSpec)

/-- ITS FALSE NEIGHBOUR: 'it returns false'. Refute it at one input. -/
def fnEncodedEventsSizeConcatWrong : ChangeSpec := { name := "fnEncodedEventsSizeConcat", fn := fun _ => fun
  | [d1, d2] => { results := [.lit (.bool false)], args := [d1, d2] }
  | _ => none }
def FnEncodedEventsSizeConcatWrongFalsely : Prop := fnEncodedEventsSizeConcatRow.holds Trym.pinned (OpenSpec.ofChange fnEncodedEventsSizeConcatWrong)

/-- 'zzlaws_queue_b1.FnEncodedEventsSizeMsgpackBound': WHATEVER THE INPUT: true; the input reads as it did. -/
def fnEncodedEventsSizeMsgpackBoundSpec : ChangeSpec := { name := "fnEncodedEventsSizeMsgpackBound", fn := fun _ => fun
  | [d] => { results := [.lit (.bool true)], args := [d] }
  | _ => none }
def fnEncodedEventsSizeMsgpackBoundRow : OpenClaim := { program := "qxb6605389amods", sum := "8209451aa38885dfbb5cf715e9185af5286f20d89404116512d855922f42b5a4", func := "example.com/waybill/waybill/zzlaws_queue_b1.FnEncodedEventsSizeMsgpackBound", spec := "fnEncodedEventsSizeMsgpackBound", make := .lifted ["publicsums"], apart := false }
def FnEncodedEventsSizeMsgpackBoundSaid : Prop := fnEncodedEventsSizeMsgpackBoundRow.holds Trym.pinned (OpenSpec.ofChange fnEncodedEventsSizeMsgpackBoundSpec)

/-- ITS FALSE NEIGHBOUR: 'it returns false'. Refute it at one input. -/
def fnEncodedEventsSizeMsgpackBoundWrong : ChangeSpec := { name := "fnEncodedEventsSizeMsgpackBound", fn := fun _ => fun
  | [d] => { results := [.lit (.bool false)], args := [d] }
  | _ => none }
def FnEncodedEventsSizeMsgpackBoundWrongFalsely : Prop := fnEncodedEventsSizeMsgpackBoundRow.holds Trym.pinned (OpenSpec.ofChange fnEncodedEventsSizeMsgpackBoundWrong)

/-- 'zzlaws_queue_b1.FnEntryEncodedSizeGrows': WHATEVER THE INPUT: true; the input reads as it did. -/
def fnEntryEncodedSizeGrowsSpec : ChangeSpec := { name := "fnEntryEncodedSizeGrows", fn := fun _ => fun
  | [d1, d2, d3, d4, d5, d6, d7, d8, d9] => { results := [.lit (.bool true)], args := [d1, d2, d3, d4, d5, d6, d7, d8, d9] }
  | _ => none }
def fnEntryEncodedSizeGrowsRow : OpenClaim := { program := "qxb6605389amods", sum := "8209451aa38885dfbb5cf715e9185af5286f20d89404116512d855922f42b5a4", func := "example.com/waybill/waybill/zzlaws_queue_b1.FnEntryEncodedSizeGrows", spec := "fnEntryEncodedSizeGrows", maps := true, make := .lifted ["publicsums"], apart := false }
def FnEntryEncodedSizeGrowsSaid : Prop := fnEntryEncodedSizeGrowsRow.holds Trym.pinned (OpenSpec.ofChange fnEntryEncodedSizeGrowsSpec)

/-- ITS FALSE NEIGHBOUR: 'it returns false'. Refute it at one input. -/
def fnEntryEncodedSizeGrowsWrong : ChangeSpec := { name := "fnEntryEncodedSizeGrows", fn := fun _ => fun
  | [d1, d2, d3, d4, d5, d6, d7, d8, d9] => { results := [.lit (.bool false)], args := [d1, d2, d3, d4, d5, d6, d7, d8, d9] }
  | _ => none }
def FnEntryEncodedSizeGrowsWrongFalsely : Prop := fnEntryEncodedSizeGrowsRow.holds Trym.pinned (OpenSpec.ofChange fnEntryEncodedSizeGrowsWrong)

/-- 'zzlaws_queue_b1.FnEntryEncodedSizeAddConsumer': WHATEVER THE INPUT: true; the input reads as it did. -/
def fnEntryEncodedSizeAddConsumerSpec : ChangeSpec := { name := "fnEntryEncodedSizeAddConsumer", fn := fun _ => fun
  | [d1, d2, d3, d4, d5, d6, d7, d8] => { results := [.lit (.bool true)], args := [d1, d2, d3, d4, d5, d6, d7, d8] }
  | _ => none }
def fnEntryEncodedSizeAddConsumerRow : OpenClaim := { program := "qxb6605389amods", sum := "8209451aa38885dfbb5cf715e9185af5286f20d89404116512d855922f42b5a4", func := "example.com/waybill/waybill/zzlaws_queue_b1.FnEntryEncodedSizeAddConsumer", spec := "fnEntryEncodedSizeAddConsumer", maps := true, make := .lifted ["publicsums"], apart := false }
def FnEntryEncodedSizeAddConsumerSaid : Prop := fnEntryEncodedSizeAddConsumerRow.holds Trym.pinned (OpenSpec.ofChange fnEntryEncodedSizeAddConsumerSpec)

/-- ITS FALSE NEIGHBOUR: 'it returns false'. Refute it at one input. -/
def fnEntryEncodedSizeAddConsumerWrong : ChangeSpec := { name := "fnEntryEncodedSizeAddConsumer", fn := fun _ => fun
  | [d1, d2, d3, d4, d5, d6, d7, d8] => { results := [.lit (.bool false)], args := [d1, d2, d3, d4, d5, d6, d7, d8] }
  | _ => none }
def FnEntryEncodedSizeAddConsumerWrongFalsely : Prop := fnEntryEncodedSizeAddConsumerRow.holds Trym.pinned (OpenSpec.ofChange fnEntryEncodedSizeAddConsumerWrong)

/-- 'zzlaws_queue_b1.FnEntryEncodedSizeBoundIgnoresStoredAndCounts': WHATEVER THE INPUT: true; the input reads as it did. -/
def fnEntryEncodedSizeBoundIgnoresStoredAndCountsSpec : ChangeSpec := { name := "fnEntryEncodedSizeBoundIgnoresStoredAndCounts", fn := fun _ => fun
  | [d1, d2, d3, d4, d5, d6] => { results := [.lit (.bool true)], args := [d1, d2, d3, d4, d5, d6] }
  | _ => none }
def fnEntryEncodedSizeBoundIgnoresStoredAndCountsRow : OpenClaim := { program := "qxb6605389amods", sum := "8209451aa38885dfbb5cf715e9185af5286f20d89404116512d855922f42b5a4", func := "example.com/waybill/waybill/zzlaws_queue_b1.FnEntryEncodedSizeBoundIgnoresStoredAndCounts", spec := "fnEntryEncodedSizeBoundIgnoresStoredAndCounts", maps := true, make := .lifted ["publicsums"], apart := false }
def FnEntryEncodedSizeBoundIgnoresStoredAndCountsSaid : Prop := fnEntryEncodedSizeBoundIgnoresStoredAndCountsRow.holds Trym.pinned (OpenSpec.ofChange fnEntryEncodedSizeBoundIgnoresStoredAndCountsSpec)

/-- ITS FALSE NEIGHBOUR: 'it returns false'. Refute it at one input. -/
def fnEntryEncodedSizeBoundIgnoresStoredAndCountsWrong : ChangeSpec := { name := "fnEntryEncodedSizeBoundIgnoresStoredAndCounts", fn := fun _ => fun
  | [d1, d2, d3, d4, d5, d6] => { results := [.lit (.bool false)], args := [d1, d2, d3, d4, d5, d6] }
  | _ => none }
def FnEntryEncodedSizeBoundIgnoresStoredAndCountsWrongFalsely : Prop := fnEntryEncodedSizeBoundIgnoresStoredAndCountsRow.holds Trym.pinned (OpenSpec.ofChange fnEntryEncodedSizeBoundIgnoresStoredAndCountsWrong)

end Rows
end Go.Proofs.Qxb6605389aMods
