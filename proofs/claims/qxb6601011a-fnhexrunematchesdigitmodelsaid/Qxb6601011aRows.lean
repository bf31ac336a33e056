/-
  No cell of these rows narrows 'for every input' (looked for: loops, veiled, ifaces, maps, wideKeys, modest, calm, conditions, laid).
  DERIVED. THE GIVEN ROWS OF THIS SEAT. 6 by the template 'for every input the law returns true; each argument reads behind the call as it read before'; 0 by the template 'total and deterministic' (their statements: Qxb6601011aTotals.lean).
  GIVEN WITH THE SEED: the statements are not yours to turn. If you find one false, say at which input.
  Laid BY PROGRAM, IN A SANDBOX (cutbox-rows.mjs): the forced cells as the released guide's own fill.sh prints them over the translation f662a8680f4f9312… (all of the seat's roots in one cut). By AI agents, Wed Nov 11 2026. No macro, syntax, notation, axiom, sorry.
-/
import Derived.Test.Qxb6601011aChecked
import GoSem.Claim
import GoSem.ClaimJoined
import GoSem.ClaimMapViews
import Derived.JoinedTies
import Derived.KernelRfl
namespace Go.Proofs.Qxb6601011a
/- THE CELL 'sum', in the pinned program and in every row, IS THE sha256 OF THE DUMP (.gsa) THAT Qxb6601011aProg.lean LOADS. Nothing in Lean hashes anything: it is a label: what it is worth is what the hold of that sum in a sandbox is worth. -/
noncomputable def Try.pinned : Pinned := { name := "qxb6601011a", sum := "f662a8680f4f9312acc40dc5939a379a929dd03ef98dbf483b1a183c0977cdb0", checked := Try.checked }
namespace Rows
def none {H : Type} : Left H := { results := [], args := [] }

/-- 'zzlaws_internal_httpapi_b1.FnHexRuneMatchesDigitModel': WHATEVER THE INPUT: true; the input reads as it did. -/
def fnHexRuneMatchesDigitModelSpec : ChangeSpec := { name := "fnHexRuneMatchesDigitModel", fn := fun _ => fun
  | [d] => { results := [.lit (.bool true)], args := [d] }
  | _ => none }
def fnHexRuneMatchesDigitModelRow : OpenClaim := { program := "qxb6601011a", sum := "f662a8680f4f9312acc40dc5939a379a929dd03ef98dbf483b1a183c0977cdb0", func := "example.com/weaverbird/weaverbird/zzlaws_internal_httpapi_b1.FnHexRuneMatchesDigitModel", spec := "fnHexRuneMatchesDigitModel", apart := false }
def FnHexRuneMatchesDigitModelSaid : Prop := fnHexRuneMatchesDigitModelRow.holds Try.pinned (OpenSpec.ofChange fnHexRuneMatchesDigitModelSpec)

/-- ITS FALSE NEIGHBOUR: 'it returns false'. Refute it at one input. -/
def fnHexRuneMatchesDigitModelWrong : ChangeSpec := { name := "fnHexRuneMatchesDigitModel", fn := fun _ => fun
  | [d] => { results := [.lit (.bool false)], args := [d] }
  | _ => none }
def FnHexRuneMatchesDigitModelWrongFalsely : Prop := fnHexRuneMatchesDigitModelRow.holds Try.pinned (OpenSpec.ofChange fnHexRuneMatchesDigitModelWrong)

/-- 'zzlaws_internal_httpapi_b1.FnHexRuneReadsWhatIsWritten': WHATEVER THE INPUT: true; the input reads as it did. -/
def fnHexRuneReadsWhatIsWrittenSpec : ChangeSpec := { name := "fnHexRuneReadsWhatIsWritten", fn := fun _ => fun
  | [d1, d2, d3] => { results := [.lit (.bool true)], args := [d1, d2, d3] }
  | _ => none }
def fnHexRuneReadsWhatIsWrittenRow : OpenClaim := { program := "qxb6601011a", sum := "f662a8680f4f9312acc40dc5939a379a929dd03ef98dbf483b1a183c0977cdb0", func := "example.com/weaverbird/weaverbird/zzlaws_internal_httpapi_b1.FnHexRuneReadsWhatIsWritten", spec := "fnHexRuneReadsWhatIsWritten", apart := false }
def FnHexRuneReadsWhatIsWrittenSaid : Prop := fnHexRuneReadsWhatIsWrittenRow.holds Try.pinned (OpenSpec.ofChange fnHexRuneReadsWhatIsWrittenSpec)

/-- ITS FALSE NEIGHBOUR: 'it returns false'. Refute it at one input. -/
def fnHexRuneReadsWhatIsWrittenWrong : ChangeSpec := { name := "fnHexRuneReadsWhatIsWritten", fn := fun _ => fun
  | [d1, d2, d3] => { results := [.lit (.bool false)], args := [d1, d2, d3] }
  | _ => none }
def FnHexRuneReadsWhatIsWrittenWrongFalsely : Prop := fnHexRuneReadsWhatIsWrittenRow.holds Try.pinned (OpenSpec.ofChange fnHexRuneReadsWhatIsWrittenWrong)

/-- 'zzlaws_internal_httpapi_b1.FnHexRuneLooksAtFourBytesOnly': WHATEVER THE INPUT: true; the input reads as it did. -/
def fnHexRuneLooksAtFourBytesOnlySpec : ChangeSpec := { name := "fnHexRuneLooksAtFourBytesOnly", fn := fun _ => fun
  | [d] => { results := [.lit (.bool true)], args := [d] }
  | _ => none }
def fnHexRuneLooksAtFourBytesOnlyRow : OpenClaim := { program := "qxb6601011a", sum := "f662a8680f4f9312acc40dc5939a379a929dd03ef98dbf483b1a183c0977cdb0", func := "example.com/weaverbird/weaverbird/zzlaws_internal_httpapi_b1.FnHexRuneLooksAtFourBytesOnly", spec := "fnHexRuneLooksAtFourBytesOnly", apart := false }
def FnHexRuneLooksAtFourBytesOnlySaid : Prop := fnHexRuneLooksAtFourBytesOnlyRow.holds Try.pinned (OpenSpec.ofChange fnHexRuneLooksAtFourBytesOnlySpec)

/-- ITS FALSE NEIGHBOUR: 'it returns false'. Refute it at one input. -/
def fnHexRuneLooksAtFourBytesOnlyWrong : ChangeSpec := { name := "fnHexRuneLooksAtFourBytesOnly", fn := fun _ => fun
  | [d] => { results := [.lit (.bool false)], args := [d] }
  | _ => none }
def FnHexRuneLooksAtFourBytesOnlyWrongFalsely : Prop := fnHexRuneLooksAtFourBytesOnlyRow.holds Try.pinned (OpenSpec.ofChange fnHexRuneLooksAtFourBytesOnlyWrong)

/-- 'zzlaws_internal_httpapi_b1.FnPeekMatchesBackwardScan': WHATEVER THE INPUT: true; the input reads as it did. -/
def fnPeekMatchesBackwardScanSpec : ChangeSpec := { name := "fnPeekMatchesBackwardScan", fn := fun _ => fun
  | [d1, d2] => { results := [.lit (.bool true)], args := [d1, d2] }
  | _ => none }
def fnPeekMatchesBackwardScanRow : OpenClaim := { program := "qxb6601011a", sum := "f662a8680f4f9312acc40dc5939a379a929dd03ef98dbf483b1a183c0977cdb0", func := "example.com/weaverbird/weaverbird/zzlaws_internal_httpapi_b1.FnPeekMatchesBackwardScan", spec := "fnPeekMatchesBackwardScan", apart := false }
def FnPeekMatchesBackwardScanSaid : Prop := fnPeekMatchesBackwardScanRow.holds Try.pinned (OpenSpec.ofChange fnPeekMatchesBackwardScanSpec)

/-- ITS FALSE NEIGHBOUR: 'it returns false'. Refute it at one input. -/
def fnPeekMatchesBackwardScanWrong : ChangeSpec := { name := "fnPeekMatchesBackwardScan", fn := fun _ => fun
  | [d1, d2] => { results := [.lit (.bool false)], args := [d1, d2] }
  | _ => none }
def FnPeekMatchesBackwardScanWrongFalsely : Prop := fnPeekMatchesBackwardScanRow.holds Try.pinned (OpenSpec.ofChange fnPeekMatchesBackwardScanWrong)

/-- 'zzlaws_internal_httpapi_b1.FnPeekIsIdempotentAndSkipsOnlyWhitespace': WHATEVER THE INPUT: true; the input reads as it did. -/
def fnPeekIsIdempotentAndSkipsOnlyWhitespaceSpec : ChangeSpec := { name := "fnPeekIsIdempotentAndSkipsOnlyWhitespace", fn := fun _ => fun
  | [d1, d2] => { results := [.lit (.bool true)], args := [d1, d2] }
  | _ => none }
def fnPeekIsIdempotentAndSkipsOnlyWhitespaceRow : OpenClaim := { program := "qxb6601011a", sum := "f662a8680f4f9312acc40dc5939a379a929dd03ef98dbf483b1a183c0977cdb0", func := "example.com/weaverbird/weaverbird/zzlaws_internal_httpapi_b1.FnPeekIsIdempotentAndSkipsOnlyWhitespace", spec := "fnPeekIsIdempotentAndSkipsOnlyWhitespace", apart := false }
def FnPeekIsIdempotentAndSkipsOnlyWhitespaceSaid : Prop := fnPeekIsIdempotentAndSkipsOnlyWhitespaceRow.holds Try.pinned (OpenSpec.ofChange fnPeekIsIdempotentAndSkipsOnlyWhitespaceSpec)

/-- ITS FALSE NEIGHBOUR: 'it returns false'. Refute it at one input. -/
def fnPeekIsIdempotentAndSkipsOnlyWhitespaceWrong : ChangeSpec := { name := "fnPeekIsIdempotentAndSkipsOnlyWhitespace", fn := fun _ => fun
  | [d1, d2] => { results := [.lit (.bool false)], args := [d1, d2] }
  | _ => none }
def FnPeekIsIdempotentAndSkipsOnlyWhitespaceWrongFalsely : Prop := fnPeekIsIdempotentAndSkipsOnlyWhitespaceRow.holds Try.pinned (OpenSpec.ofChange fnPeekIsIdempotentAndSkipsOnlyWhitespaceWrong)

/-- 'zzlaws_internal_httpapi_b1.FnPeekSeesThroughLeadingWhitespace': WHATEVER THE INPUT: true; the input reads as it did. -/
def fnPeekSeesThroughLeadingWhitespaceSpec : ChangeSpec := { name := "fnPeekSeesThroughLeadingWhitespace", fn := fun _ => fun
  | [d1, d2] => { results := [.lit (.bool true)], args := [d1, d2] }
  | _ => none }
def fnPeekSeesThroughLeadingWhitespaceRow : OpenClaim := { program := "qxb6601011a", sum := "f662a8680f4f9312acc40dc5939a379a929dd03ef98dbf483b1a183c0977cdb0", func := "example.com/weaverbird/weaverbird/zzlaws_internal_httpapi_b1.FnPeekSeesThroughLeadingWhitespace", spec := "fnPeekSeesThroughLeadingWhitespace", apart := false }
def FnPeekSeesThroughLeadingWhitespaceSaid : Prop := fnPeekSeesThroughLeadingWhitespaceRow.holds Try.pinned (OpenSpec.ofChange fnPeekSeesThroughLeadingWhitespaceSpec)

/-- ITS FALSE NEIGHBOUR: 'it returns false'. Refute it at one input. -/
def fnPeekSeesThroughLeadingWhitespaceWrong : ChangeSpec := { name := "fnPeekSeesThroughLeadingWhitespace", fn := fun _ => fun
  | [d1, d2] => { results := [.lit (.bool false)], args := [d1, d2] }
  | _ => none }
def FnPeekSeesThroughLeadingWhitespaceWrongFalsely : Prop := fnPeekSeesThroughLeadingWhitespaceRow.holds Try.pinned (OpenSpec.ofChange fnPeekSeesThroughLeadingWhitespaceWrong)

end Rows
end Go.Proofs.Qxb6601011a
