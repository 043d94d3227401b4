/-
  No cell of these rows narrows 'for every input' (looked for: loops, veiled, ifaces, maps, wideKeys, modest, calm, conditions, laid).
  DERIVED. THE GIVEN ROWS OF THIS SEAT. 8 by the template 'for every input the law returns true; each argument reads behind the call as it read before'; 0 by the template 'total and deterministic' (their statements: Qxb6000722aTotals.lean).
  GIVEN WITH THE SEED: the statements are not yours to turn. If you find one false, say at which input.
  Laid BY PROGRAM, IN A SANDBOX (cutbox-rows.mjs): the forced cells as the released guide's own fill.sh prints them over the translation c8fb6c5507c4c96e… (all of the seat's roots in one cut). By AI agents, Wed Nov 11 2026. No macro, syntax, notation, axiom, sorry.
-/
import Derived.Test.Qxb6000722aChecked
import GoSem.Claim
import GoSem.ClaimJoined
import GoSem.ClaimMapViews
import Derived.JoinedTies
import Derived.KernelRfl
namespace Go.Proofs.Qxb6000722a
/- THE CELL 'sum', in the pinned program and in every row, IS THE sha256 OF THE DUMP (.gsa) THAT Qxb6000722aProg.lean LOADS. Nothing in Lean hashes anything: it is a label: what it is worth is what the hold of that sum in a sandbox is worth. -/
noncomputable def Try.pinned : Pinned := { name := "qxb6000722a", sum := "c8fb6c5507c4c96e19ae800713e6066d1a847efbe6e0d5dcf28d8e237e601b7d", checked := Try.checked }
namespace Rows
def none {H : Type} : Left H := { results := [], args := [] }

/-- 'zzlaws_internal_transcript_b1.FnStringSizeMatchesEscapeScanner': WHATEVER THE INPUT: true; the input reads as it did. -/
def fnStringSizeMatchesEscapeScannerSpec : ChangeSpec := { name := "fnStringSizeMatchesEscapeScanner", fn := fun _ => fun
  | [d] => { results := [.lit (.bool true)], args := [d] }
  | _ => none }
def fnStringSizeMatchesEscapeScannerRow : OpenClaim := { program := "qxb6000722a", sum := "c8fb6c5507c4c96e19ae800713e6066d1a847efbe6e0d5dcf28d8e237e601b7d", func := "example.com/headroom/headroom/zzlaws_internal_transcript_b1.FnStringSizeMatchesEscapeScanner", spec := "fnStringSizeMatchesEscapeScanner", inPlace := ["internal/bytealg.IndexByte"], apart := false }
def FnStringSizeMatchesEscapeScannerSaid : Prop := fnStringSizeMatchesEscapeScannerRow.holds Try.pinned (OpenSpec.ofChange fnStringSizeMatchesEscapeScannerSpec)

/-- ITS FALSE NEIGHBOUR: 'it returns false'. Refute it at one input. -/
def fnStringSizeMatchesEscapeScannerWrong : ChangeSpec := { name := "fnStringSizeMatchesEscapeScanner", fn := fun _ => fun
  | [d] => { results := [.lit (.bool false)], args := [d] }
  | _ => none }
def FnStringSizeMatchesEscapeScannerWrongFalsely : Prop := fnStringSizeMatchesEscapeScannerRow.holds Try.pinned (OpenSpec.ofChange fnStringSizeMatchesEscapeScannerWrong)

/-- 'zzlaws_internal_transcript_b1.FnStringSizeFindsEndOfEscapedText': WHATEVER THE INPUT: true; the input reads as it did. -/
def fnStringSizeFindsEndOfEscapedTextSpec : ChangeSpec := { name := "fnStringSizeFindsEndOfEscapedText", fn := fun _ => fun
  | [d1, d2] => { results := [.lit (.bool true)], args := [d1, d2] }
  | _ => none }
def fnStringSizeFindsEndOfEscapedTextRow : OpenClaim := { program := "qxb6000722a", sum := "c8fb6c5507c4c96e19ae800713e6066d1a847efbe6e0d5dcf28d8e237e601b7d", func := "example.com/headroom/headroom/zzlaws_internal_transcript_b1.FnStringSizeFindsEndOfEscapedText", spec := "fnStringSizeFindsEndOfEscapedText", inPlace := ["internal/bytealg.IndexByte"], apart := false }
def FnStringSizeFindsEndOfEscapedTextSaid : Prop := fnStringSizeFindsEndOfEscapedTextRow.holds Try.pinned (OpenSpec.ofChange fnStringSizeFindsEndOfEscapedTextSpec)

/-- ITS FALSE NEIGHBOUR: 'it returns false'. Refute it at one input. -/
def fnStringSizeFindsEndOfEscapedTextWrong : ChangeSpec := { name := "fnStringSizeFindsEndOfEscapedText", fn := fun _ => fun
  | [d1, d2] => { results := [.lit (.bool false)], args := [d1, d2] }
  | _ => none }
def FnStringSizeFindsEndOfEscapedTextWrongFalsely : Prop := fnStringSizeFindsEndOfEscapedTextRow.holds Try.pinned (OpenSpec.ofChange fnStringSizeFindsEndOfEscapedTextWrong)

/-- 'zzlaws_internal_transcript_b1.FnStringSizePrefixIsWhole': WHATEVER THE INPUT: true; the input reads as it did. -/
def fnStringSizePrefixIsWholeSpec : ChangeSpec := { name := "fnStringSizePrefixIsWhole", fn := fun _ => fun
  | [d] => { results := [.lit (.bool true)], args := [d] }
  | _ => none }
def fnStringSizePrefixIsWholeRow : OpenClaim := { program := "qxb6000722a", sum := "c8fb6c5507c4c96e19ae800713e6066d1a847efbe6e0d5dcf28d8e237e601b7d", func := "example.com/headroom/headroom/zzlaws_internal_transcript_b1.FnStringSizePrefixIsWhole", spec := "fnStringSizePrefixIsWhole", inPlace := ["internal/bytealg.IndexByte"], apart := false }
def FnStringSizePrefixIsWholeSaid : Prop := fnStringSizePrefixIsWholeRow.holds Try.pinned (OpenSpec.ofChange fnStringSizePrefixIsWholeSpec)

/-- ITS FALSE NEIGHBOUR: 'it returns false'. Refute it at one input. -/
def fnStringSizePrefixIsWholeWrong : ChangeSpec := { name := "fnStringSizePrefixIsWhole", fn := fun _ => fun
  | [d] => { results := [.lit (.bool false)], args := [d] }
  | _ => none }
def FnStringSizePrefixIsWholeWrongFalsely : Prop := fnStringSizePrefixIsWholeRow.holds Try.pinned (OpenSpec.ofChange fnStringSizePrefixIsWholeWrong)

/-- 'zzlaws_internal_transcript_b1.FnValueSizeZeroExactlyAtCloserOrSeparator': WHATEVER THE INPUT: true; the input reads as it did. -/
def fnValueSizeZeroExactlyAtCloserOrSeparatorSpec : ChangeSpec := { name := "fnValueSizeZeroExactlyAtCloserOrSeparator", fn := fun _ => fun
  | [d] => { results := [.lit (.bool true)], args := [d] }
  | _ => none }
def fnValueSizeZeroExactlyAtCloserOrSeparatorRow : OpenClaim := { program := "qxb6000722a", sum := "c8fb6c5507c4c96e19ae800713e6066d1a847efbe6e0d5dcf28d8e237e601b7d", func := "example.com/headroom/headroom/zzlaws_internal_transcript_b1.FnValueSizeZeroExactlyAtCloserOrSeparator", spec := "fnValueSizeZeroExactlyAtCloserOrSeparator", inPlace := ["internal/bytealg.IndexByte"], apart := false }
def FnValueSizeZeroExactlyAtCloserOrSeparatorSaid : Prop := fnValueSizeZeroExactlyAtCloserOrSeparatorRow.holds Try.pinned (OpenSpec.ofChange fnValueSizeZeroExactlyAtCloserOrSeparatorSpec)

/-- ITS FALSE NEIGHBOUR: 'it returns false'. Refute it at one input. -/
def fnValueSizeZeroExactlyAtCloserOrSeparatorWrong : ChangeSpec := { name := "fnValueSizeZeroExactlyAtCloserOrSeparator", fn := fun _ => fun
  | [d] => { results := [.lit (.bool false)], args := [d] }
  | _ => none }
def FnValueSizeZeroExactlyAtCloserOrSeparatorWrongFalsely : Prop := fnValueSizeZeroExactlyAtCloserOrSeparatorRow.holds Try.pinned (OpenSpec.ofChange fnValueSizeZeroExactlyAtCloserOrSeparatorWrong)

/-- 'zzlaws_internal_transcript_b1.FnValueSizePrefixIsWhole': WHATEVER THE INPUT: true; the input reads as it did. -/
def fnValueSizePrefixIsWholeSpec : ChangeSpec := { name := "fnValueSizePrefixIsWhole", fn := fun _ => fun
  | [d] => { results := [.lit (.bool true)], args := [d] }
  | _ => none }
def fnValueSizePrefixIsWholeRow : OpenClaim := { program := "qxb6000722a", sum := "c8fb6c5507c4c96e19ae800713e6066d1a847efbe6e0d5dcf28d8e237e601b7d", func := "example.com/headroom/headroom/zzlaws_internal_transcript_b1.FnValueSizePrefixIsWhole", spec := "fnValueSizePrefixIsWhole", inPlace := ["internal/bytealg.IndexByte"], apart := false }
def FnValueSizePrefixIsWholeSaid : Prop := fnValueSizePrefixIsWholeRow.holds Try.pinned (OpenSpec.ofChange fnValueSizePrefixIsWholeSpec)

/-- ITS FALSE NEIGHBOUR: 'it returns false'. Refute it at one input. -/
def fnValueSizePrefixIsWholeWrong : ChangeSpec := { name := "fnValueSizePrefixIsWhole", fn := fun _ => fun
  | [d] => { results := [.lit (.bool false)], args := [d] }
  | _ => none }
def FnValueSizePrefixIsWholeWrongFalsely : Prop := fnValueSizePrefixIsWholeRow.holds Try.pinned (OpenSpec.ofChange fnValueSizePrefixIsWholeWrong)

/-- 'zzlaws_internal_transcript_b1.FnValueSizeOfBuiltValue': WHATEVER THE INPUT: true; the input reads as it did. -/
def fnValueSizeOfBuiltValueSpec : ChangeSpec := { name := "fnValueSizeOfBuiltValue", fn := fun _ => fun
  | [d1, d2, d3] => { results := [.lit (.bool true)], args := [d1, d2, d3] }
  | _ => none }
def fnValueSizeOfBuiltValueRow : OpenClaim := { program := "qxb6000722a", sum := "c8fb6c5507c4c96e19ae800713e6066d1a847efbe6e0d5dcf28d8e237e601b7d", func := "example.com/headroom/headroom/zzlaws_internal_transcript_b1.FnValueSizeOfBuiltValue", spec := "fnValueSizeOfBuiltValue", inPlace := ["internal/bytealg.IndexByte"], apart := false }
def FnValueSizeOfBuiltValueSaid : Prop := fnValueSizeOfBuiltValueRow.holds Try.pinned (OpenSpec.ofChange fnValueSizeOfBuiltValueSpec)

/-- ITS FALSE NEIGHBOUR: 'it returns false'. Refute it at one input. -/
def fnValueSizeOfBuiltValueWrong : ChangeSpec := { name := "fnValueSizeOfBuiltValue", fn := fun _ => fun
  | [d1, d2, d3] => { results := [.lit (.bool false)], args := [d1, d2, d3] }
  | _ => none }
def FnValueSizeOfBuiltValueWrongFalsely : Prop := fnValueSizeOfBuiltValueRow.holds Try.pinned (OpenSpec.ofChange fnValueSizeOfBuiltValueWrong)

/-- 'zzlaws_internal_transcript_b1.FnEndKeepsCounterWellFormed': WHATEVER THE INPUT: true; the input reads as it did. -/
def fnEndKeepsCounterWellFormedSpec : ChangeSpec := { name := "fnEndKeepsCounterWellFormed", fn := fun _ => fun
  | [d1, d2, d3, d4] => { results := [.lit (.bool true)], args := [d1, d2, d3, d4] }
  | _ => none }
def fnEndKeepsCounterWellFormedRow : OpenClaim := { program := "qxb6000722a", sum := "c8fb6c5507c4c96e19ae800713e6066d1a847efbe6e0d5dcf28d8e237e601b7d", func := "example.com/headroom/headroom/zzlaws_internal_transcript_b1.FnEndKeepsCounterWellFormed", spec := "fnEndKeepsCounterWellFormed", apart := false }
def FnEndKeepsCounterWellFormedSaid : Prop := fnEndKeepsCounterWellFormedRow.holds Try.pinned (OpenSpec.ofChange fnEndKeepsCounterWellFormedSpec)

/-- ITS FALSE NEIGHBOUR: 'it returns false'. Refute it at one input. -/
def fnEndKeepsCounterWellFormedWrong : ChangeSpec := { name := "fnEndKeepsCounterWellFormed", fn := fun _ => fun
  | [d1, d2, d3, d4] => { results := [.lit (.bool false)], args := [d1, d2, d3, d4] }
  | _ => none }
def FnEndKeepsCounterWellFormedWrongFalsely : Prop := fnEndKeepsCounterWellFormedRow.holds Try.pinned (OpenSpec.ofChange fnEndKeepsCounterWellFormedWrong)

/-- 'zzlaws_internal_transcript_b1.FnEndAllCountsEveryCharacter': WHATEVER THE INPUT: true; the input reads as it did. -/
def fnEndAllCountsEveryCharacterSpec : ChangeSpec := { name := "fnEndAllCountsEveryCharacter", fn := fun _ => fun
  | [d1, d2, d3, d4] => { results := [.lit (.bool true)], args := [d1, d2, d3, d4] }
  | _ => none }
def fnEndAllCountsEveryCharacterRow : OpenClaim := { program := "qxb6000722a", sum := "c8fb6c5507c4c96e19ae800713e6066d1a847efbe6e0d5dcf28d8e237e601b7d", func := "example.com/headroom/headroom/zzlaws_internal_transcript_b1.FnEndAllCountsEveryCharacter", spec := "fnEndAllCountsEveryCharacter", apart := false }
def FnEndAllCountsEveryCharacterSaid : Prop := fnEndAllCountsEveryCharacterRow.holds Try.pinned (OpenSpec.ofChange fnEndAllCountsEveryCharacterSpec)

/-- ITS FALSE NEIGHBOUR: 'it returns false'. Refute it at one input. -/
def fnEndAllCountsEveryCharacterWrong : ChangeSpec := { name := "fnEndAllCountsEveryCharacter", fn := fun _ => fun
  | [d1, d2, d3, d4] => { results := [.lit (.bool false)], args := [d1, d2, d3, d4] }
  | _ => none }
def FnEndAllCountsEveryCharacterWrongFalsely : Prop := fnEndAllCountsEveryCharacterRow.holds Try.pinned (OpenSpec.ofChange fnEndAllCountsEveryCharacterWrong)

end Rows
end Go.Proofs.Qxb6000722a
