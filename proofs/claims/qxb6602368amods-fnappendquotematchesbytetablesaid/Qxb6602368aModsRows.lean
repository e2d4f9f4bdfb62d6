/-
  No cell of these rows narrows 'for every input' (looked for: loops, veiled, ifaces, maps, wideKeys, modest, calm, conditions, laid).
  DERIVED. THE GIVEN ROWS OF THIS SEAT. 6 by the template 'for every input the law returns true; each argument reads behind the call as it read before'; 0 by the template 'total and deterministic' (their statements: Qxb6602368aModsTotals.lean).
  GIVEN WITH THE SEED: the statements are not yours to turn. If you find one false, say at which input.
  Laid BY PROGRAM, IN A SANDBOX (cutbox-rows.mjs): the forced cells as the released guide's own fill.sh prints them over the translation ab06c05dc9bb9352… (all of the seat's roots in one cut). By AI agents, Wed Nov 11 2026. No macro, syntax, notation, axiom, sorry.
-/
import Derived.Test.Qxb6602368aModsChecked
import GoSem.Claim
import GoSem.ClaimJoined
import GoSem.ClaimMapViews
import Derived.JoinedTies
import Derived.KernelRfl
namespace Go.Proofs.Qxb6602368aMods
/- THE CELL 'sum', in the pinned program and in every row, IS THE sha256 OF THE DUMP (.gsa) THAT Qxb6602368aModsProg.lean LOADS. Nothing in Lean hashes anything: it is a label: what it is worth is what the hold of that sum in a sandbox is worth. -/
noncomputable def Trym.pinned : Pinned := { name := "qxb6602368amods", sum := "ab06c05dc9bb93528770e1bc5b431d1024cc2d6f56190a8786326552b0d73c50", checked := Trym.checked }
namespace Rows
def none {H : Type} : Left H := { results := [], args := [] }

/-- 'zzlaws_syntax_b1.FnAppendQuoteMatchesByteTable': WHATEVER THE INPUT: true; the input reads as it did. -/
def fnAppendQuoteMatchesByteTableSpec : ChangeSpec := { name := "fnAppendQuoteMatchesByteTable", fn := fun _ => fun
  | [d1, d2] => { results := [.lit (.bool true)], args := [d1, d2] }
  | _ => none }
def fnAppendQuoteMatchesByteTableRow : OpenClaim := { program := "qxb6602368amods", sum := "ab06c05dc9bb93528770e1bc5b431d1024cc2d6f56190a8786326552b0d73c50", func := "example.com/shamash/shamash/zzlaws_syntax_b1.FnAppendQuoteMatchesByteTable", spec := "fnAppendQuoteMatchesByteTable", make := .lifted ["publicsums"], apart := false }
def FnAppendQuoteMatchesByteTableSaid : Prop := fnAppendQuoteMatchesByteTableRow.holds Trym.pinned (OpenSpec.ofChange fnAppendQuoteMatchesByteTableSpec)

/-- ITS FALSE NEIGHBOUR: 'it returns false'. Refute it at one input. -/
def fnAppendQuoteMatchesByteTableWrong : ChangeSpec := { name := "fnAppendQuoteMatchesByteTable", fn := fun _ => fun
  | [d1, d2] => { results := [.lit (.bool false)], args := [d1, d2] }
  | _ => none }
def FnAppendQuoteMatchesByteTableWrongFalsely : Prop := fnAppendQuoteMatchesByteTableRow.holds Trym.pinned (OpenSpec.ofChange fnAppendQuoteMatchesByteTableWrong)

/-- 'zzlaws_syntax_b1.FnAppendQuoteDecodesBackAndStaysPrintable': WHATEVER THE INPUT: true; the input reads as it did. -/
def fnAppendQuoteDecodesBackAndStaysPrintableSpec : ChangeSpec := { name := "fnAppendQuoteDecodesBackAndStaysPrintable", fn := fun _ => fun
  | [d1, d2] => { results := [.lit (.bool true)], args := [d1, d2] }
  | _ => none }
def fnAppendQuoteDecodesBackAndStaysPrintableRow : OpenClaim := { program := "qxb6602368amods", sum := "ab06c05dc9bb93528770e1bc5b431d1024cc2d6f56190a8786326552b0d73c50", func := "example.com/shamash/shamash/zzlaws_syntax_b1.FnAppendQuoteDecodesBackAndStaysPrintable", spec := "fnAppendQuoteDecodesBackAndStaysPrintable", make := .lifted ["publicsums"], apart := false }
def FnAppendQuoteDecodesBackAndStaysPrintableSaid : Prop := fnAppendQuoteDecodesBackAndStaysPrintableRow.holds Trym.pinned (OpenSpec.ofChange fnAppendQuoteDecodesBackAndStaysPrintableSpec)

/-- ITS FALSE NEIGHBOUR: 'it returns false'. Refute it at one input. -/
def fnAppendQuoteDecodesBackAndStaysPrintableWrong : ChangeSpec := { name := "fnAppendQuoteDecodesBackAndStaysPrintable", fn := fun _ => fun
  | [d1, d2] => { results := [.lit (.bool false)], args := [d1, d2] }
  | _ => none }
def FnAppendQuoteDecodesBackAndStaysPrintableWrongFalsely : Prop := fnAppendQuoteDecodesBackAndStaysPrintableRow.holds Trym.pinned (OpenSpec.ofChange fnAppendQuoteDecodesBackAndStaysPrintableWrong)

/-- 'zzlaws_syntax_b1.FnNumberReadsOnlyItsOwnSpanAndTwoBytesAfter': WHATEVER THE INPUT: true; the input reads as it did. -/
def fnNumberReadsOnlyItsOwnSpanAndTwoBytesAfterSpec : ChangeSpec := { name := "fnNumberReadsOnlyItsOwnSpanAndTwoBytesAfter", fn := fun _ => fun
  | [d1, d2] => { results := [.lit (.bool true)], args := [d1, d2] }
  | _ => none }
def fnNumberReadsOnlyItsOwnSpanAndTwoBytesAfterRow : OpenClaim := { program := "qxb6602368amods", sum := "ab06c05dc9bb93528770e1bc5b431d1024cc2d6f56190a8786326552b0d73c50", func := "example.com/shamash/shamash/zzlaws_syntax_b1.FnNumberReadsOnlyItsOwnSpanAndTwoBytesAfter", spec := "fnNumberReadsOnlyItsOwnSpanAndTwoBytesAfter", make := .lifted ["publicsums"], apart := false }
def FnNumberReadsOnlyItsOwnSpanAndTwoBytesAfterSaid : Prop := fnNumberReadsOnlyItsOwnSpanAndTwoBytesAfterRow.holds Trym.pinned (OpenSpec.ofChange fnNumberReadsOnlyItsOwnSpanAndTwoBytesAfterSpec)

/-- ITS FALSE NEIGHBOUR: 'it returns false'. Refute it at one input. -/
def fnNumberReadsOnlyItsOwnSpanAndTwoBytesAfterWrong : ChangeSpec := { name := "fnNumberReadsOnlyItsOwnSpanAndTwoBytesAfter", fn := fun _ => fun
  | [d1, d2] => { results := [.lit (.bool false)], args := [d1, d2] }
  | _ => none }
def FnNumberReadsOnlyItsOwnSpanAndTwoBytesAfterWrongFalsely : Prop := fnNumberReadsOnlyItsOwnSpanAndTwoBytesAfterRow.holds Trym.pinned (OpenSpec.ofChange fnNumberReadsOnlyItsOwnSpanAndTwoBytesAfterWrong)

/-- 'zzlaws_syntax_b1.FnSkipSpaceStopsAtFirstByteOutsideBlanksAndComments': WHATEVER THE INPUT: true; the input reads as it did. -/
def fnSkipSpaceStopsAtFirstByteOutsideBlanksAndCommentsSpec : ChangeSpec := { name := "fnSkipSpaceStopsAtFirstByteOutsideBlanksAndComments", fn := fun _ => fun
  | [d1, d2, d3] => { results := [.lit (.bool true)], args := [d1, d2, d3] }
  | _ => none }
def fnSkipSpaceStopsAtFirstByteOutsideBlanksAndCommentsRow : OpenClaim := { program := "qxb6602368amods", sum := "ab06c05dc9bb93528770e1bc5b431d1024cc2d6f56190a8786326552b0d73c50", func := "example.com/shamash/shamash/zzlaws_syntax_b1.FnSkipSpaceStopsAtFirstByteOutsideBlanksAndComments", spec := "fnSkipSpaceStopsAtFirstByteOutsideBlanksAndComments", make := .lifted ["publicsums"], apart := false }
def FnSkipSpaceStopsAtFirstByteOutsideBlanksAndCommentsSaid : Prop := fnSkipSpaceStopsAtFirstByteOutsideBlanksAndCommentsRow.holds Trym.pinned (OpenSpec.ofChange fnSkipSpaceStopsAtFirstByteOutsideBlanksAndCommentsSpec)

/-- ITS FALSE NEIGHBOUR: 'it returns false'. Refute it at one input. -/
def fnSkipSpaceStopsAtFirstByteOutsideBlanksAndCommentsWrong : ChangeSpec := { name := "fnSkipSpaceStopsAtFirstByteOutsideBlanksAndComments", fn := fun _ => fun
  | [d1, d2, d3] => { results := [.lit (.bool false)], args := [d1, d2, d3] }
  | _ => none }
def FnSkipSpaceStopsAtFirstByteOutsideBlanksAndCommentsWrongFalsely : Prop := fnSkipSpaceStopsAtFirstByteOutsideBlanksAndCommentsRow.holds Trym.pinned (OpenSpec.ofChange fnSkipSpaceStopsAtFirstByteOutsideBlanksAndCommentsWrong)

/-- 'zzlaws_syntax_b1.FnSkipSpaceIsIdempotent': WHATEVER THE INPUT: true; the input reads as it did. -/
def fnSkipSpaceIsIdempotentSpec : ChangeSpec := { name := "fnSkipSpaceIsIdempotent", fn := fun _ => fun
  | [d1, d2, d3] => { results := [.lit (.bool true)], args := [d1, d2, d3] }
  | _ => none }
def fnSkipSpaceIsIdempotentRow : OpenClaim := { program := "qxb6602368amods", sum := "ab06c05dc9bb93528770e1bc5b431d1024cc2d6f56190a8786326552b0d73c50", func := "example.com/shamash/shamash/zzlaws_syntax_b1.FnSkipSpaceIsIdempotent", spec := "fnSkipSpaceIsIdempotent", make := .lifted ["publicsums"], apart := false }
def FnSkipSpaceIsIdempotentSaid : Prop := fnSkipSpaceIsIdempotentRow.holds Trym.pinned (OpenSpec.ofChange fnSkipSpaceIsIdempotentSpec)

/-- ITS FALSE NEIGHBOUR: 'it returns false'. Refute it at one input. -/
def fnSkipSpaceIsIdempotentWrong : ChangeSpec := { name := "fnSkipSpaceIsIdempotent", fn := fun _ => fun
  | [d1, d2, d3] => { results := [.lit (.bool false)], args := [d1, d2, d3] }
  | _ => none }
def FnSkipSpaceIsIdempotentWrongFalsely : Prop := fnSkipSpaceIsIdempotentRow.holds Trym.pinned (OpenSpec.ofChange fnSkipSpaceIsIdempotentWrong)

/-- 'zzlaws_syntax_b1.FnSkipSpaceCommaModeStopsAtANewlineBeforeTheOther': WHATEVER THE INPUT: true; the input reads as it did. -/
def fnSkipSpaceCommaModeStopsAtANewlineBeforeTheOtherSpec : ChangeSpec := { name := "fnSkipSpaceCommaModeStopsAtANewlineBeforeTheOther", fn := fun _ => fun
  | [d1, d2] => { results := [.lit (.bool true)], args := [d1, d2] }
  | _ => none }
def fnSkipSpaceCommaModeStopsAtANewlineBeforeTheOtherRow : OpenClaim := { program := "qxb6602368amods", sum := "ab06c05dc9bb93528770e1bc5b431d1024cc2d6f56190a8786326552b0d73c50", func := "example.com/shamash/shamash/zzlaws_syntax_b1.FnSkipSpaceCommaModeStopsAtANewlineBeforeTheOther", spec := "fnSkipSpaceCommaModeStopsAtANewlineBeforeTheOther", make := .lifted ["publicsums"], apart := false }
def FnSkipSpaceCommaModeStopsAtANewlineBeforeTheOtherSaid : Prop := fnSkipSpaceCommaModeStopsAtANewlineBeforeTheOtherRow.holds Trym.pinned (OpenSpec.ofChange fnSkipSpaceCommaModeStopsAtANewlineBeforeTheOtherSpec)

/-- ITS FALSE NEIGHBOUR: 'it returns false'. Refute it at one input. -/
def fnSkipSpaceCommaModeStopsAtANewlineBeforeTheOtherWrong : ChangeSpec := { name := "fnSkipSpaceCommaModeStopsAtANewlineBeforeTheOther", fn := fun _ => fun
  | [d1, d2] => { results := [.lit (.bool false)], args := [d1, d2] }
  | _ => none }
def FnSkipSpaceCommaModeStopsAtANewlineBeforeTheOtherWrongFalsely : Prop := fnSkipSpaceCommaModeStopsAtANewlineBeforeTheOtherRow.holds Trym.pinned (OpenSpec.ofChange fnSkipSpaceCommaModeStopsAtANewlineBeforeTheOtherWrong)

end Rows
end Go.Proofs.Qxb6602368aMods
