/-
  No cell of these rows narrows 'for every input' (looked for: loops, veiled, ifaces, maps, wideKeys, modest, calm, conditions, laid).
  DERIVED. THE GIVEN ROWS OF THIS SEAT. 4 by the template 'for every input the law returns true; each argument reads behind the call as it read before'; 0 by the template 'total and deterministic' (their statements: Qxb6603227aTotals.lean).
  GIVEN WITH THE SEED: the statements are not yours to turn. If you find one false, say at which input.
  Laid BY PROGRAM, IN A SANDBOX (cutbox-rows.mjs): the forced cells as the released guide's own fill.sh prints them over the translation 3c482dd11b36bd9b… (all of the seat's roots in one cut). By AI agents, Wed Nov 11 2026. No macro, syntax, notation, axiom, sorry.
-/
import Derived.Test.Qxb6603227aChecked
import GoSem.Claim
import GoSem.ClaimJoined
import GoSem.ClaimMapViews
import Derived.JoinedTies
import Derived.KernelRfl
namespace Go.Proofs.Qxb6603227a
/- THE CELL 'sum', in the pinned program and in every row, IS THE sha256 OF THE DUMP (.gsa) THAT Qxb6603227aProg.lean LOADS. Nothing in Lean hashes anything: it is a label: what it is worth is what the hold of that sum in a sandbox is worth. -/
noncomputable def Try.pinned : Pinned := { name := "qxb6603227a", sum := "3c482dd11b36bd9bf17c9ffe10f8accdc70e73cb852c9e5c6a2ef395144a7f35", checked := Try.checked }
namespace Rows
def none {H : Type} : Left H := { results := [], args := [] }

/-- 'zzlaws_internal_http1_b1.FnHeadEndFirstBlankLine': WHATEVER THE INPUT: true; the input reads as it did. -/
def fnHeadEndFirstBlankLineSpec : ChangeSpec := { name := "fnHeadEndFirstBlankLine", fn := fun _ => fun
  | [d] => { results := [.lit (.bool true)], args := [d] }
  | _ => none }
def fnHeadEndFirstBlankLineRow : OpenClaim := { program := "qxb6603227a", sum := "3c482dd11b36bd9bf17c9ffe10f8accdc70e73cb852c9e5c6a2ef395144a7f35", func := "example.com/ensec/ensec/zzlaws_internal_http1_b1.FnHeadEndFirstBlankLine", spec := "fnHeadEndFirstBlankLine", inPlace := ["internal/bytealg.IndexByte"], apart := false }
def FnHeadEndFirstBlankLineSaid : Prop := fnHeadEndFirstBlankLineRow.holds Try.pinned (OpenSpec.ofChange fnHeadEndFirstBlankLineSpec)

/-- ITS FALSE NEIGHBOUR: 'it returns false'. Refute it at one input. -/
def fnHeadEndFirstBlankLineWrong : ChangeSpec := { name := "fnHeadEndFirstBlankLine", fn := fun _ => fun
  | [d] => { results := [.lit (.bool false)], args := [d] }
  | _ => none }
def FnHeadEndFirstBlankLineWrongFalsely : Prop := fnHeadEndFirstBlankLineRow.holds Try.pinned (OpenSpec.ofChange fnHeadEndFirstBlankLineWrong)

/-- 'zzlaws_internal_http1_b1.FnHeadEndStableUnderAppend': WHATEVER THE INPUT: true; the input reads as it did. -/
def fnHeadEndStableUnderAppendSpec : ChangeSpec := { name := "fnHeadEndStableUnderAppend", fn := fun _ => fun
  | [d1, d2] => { results := [.lit (.bool true)], args := [d1, d2] }
  | _ => none }
def fnHeadEndStableUnderAppendRow : OpenClaim := { program := "qxb6603227a", sum := "3c482dd11b36bd9bf17c9ffe10f8accdc70e73cb852c9e5c6a2ef395144a7f35", func := "example.com/ensec/ensec/zzlaws_internal_http1_b1.FnHeadEndStableUnderAppend", spec := "fnHeadEndStableUnderAppend", inPlace := ["internal/bytealg.IndexByte"], apart := false }
def FnHeadEndStableUnderAppendSaid : Prop := fnHeadEndStableUnderAppendRow.holds Try.pinned (OpenSpec.ofChange fnHeadEndStableUnderAppendSpec)

/-- ITS FALSE NEIGHBOUR: 'it returns false'. Refute it at one input. -/
def fnHeadEndStableUnderAppendWrong : ChangeSpec := { name := "fnHeadEndStableUnderAppend", fn := fun _ => fun
  | [d1, d2] => { results := [.lit (.bool false)], args := [d1, d2] }
  | _ => none }
def FnHeadEndStableUnderAppendWrongFalsely : Prop := fnHeadEndStableUnderAppendRow.holds Try.pinned (OpenSpec.ofChange fnHeadEndStableUnderAppendWrong)

/-- 'zzlaws_internal_http1_b1.FnEveryOverConcat': WHATEVER THE INPUT: true; the input reads as it did. -/
def fnEveryOverConcatSpec : ChangeSpec := { name := "fnEveryOverConcat", fn := fun _ => fun
  | [d1, d2, d3] => { results := [.lit (.bool true)], args := [d1, d2, d3] }
  | _ => none }
def fnEveryOverConcatRow : OpenClaim := { program := "qxb6603227a", sum := "3c482dd11b36bd9bf17c9ffe10f8accdc70e73cb852c9e5c6a2ef395144a7f35", func := "example.com/ensec/ensec/zzlaws_internal_http1_b1.FnEveryOverConcat", spec := "fnEveryOverConcat", apart := false }
def FnEveryOverConcatSaid : Prop := fnEveryOverConcatRow.holds Try.pinned (OpenSpec.ofChange fnEveryOverConcatSpec)

/-- ITS FALSE NEIGHBOUR: 'it returns false'. Refute it at one input. -/
def fnEveryOverConcatWrong : ChangeSpec := { name := "fnEveryOverConcat", fn := fun _ => fun
  | [d1, d2, d3] => { results := [.lit (.bool false)], args := [d1, d2, d3] }
  | _ => none }
def FnEveryOverConcatWrongFalsely : Prop := fnEveryOverConcatRow.holds Try.pinned (OpenSpec.ofChange fnEveryOverConcatWrong)

/-- 'zzlaws_internal_http1_b1.FnEveryIntersectUnion': WHATEVER THE INPUT: true; the input reads as it did. -/
def fnEveryIntersectUnionSpec : ChangeSpec := { name := "fnEveryIntersectUnion", fn := fun _ => fun
  | [d1, d2, d3] => { results := [.lit (.bool true)], args := [d1, d2, d3] }
  | _ => none }
def fnEveryIntersectUnionRow : OpenClaim := { program := "qxb6603227a", sum := "3c482dd11b36bd9bf17c9ffe10f8accdc70e73cb852c9e5c6a2ef395144a7f35", func := "example.com/ensec/ensec/zzlaws_internal_http1_b1.FnEveryIntersectUnion", spec := "fnEveryIntersectUnion", apart := false }
def FnEveryIntersectUnionSaid : Prop := fnEveryIntersectUnionRow.holds Try.pinned (OpenSpec.ofChange fnEveryIntersectUnionSpec)

/-- ITS FALSE NEIGHBOUR: 'it returns false'. Refute it at one input. -/
def fnEveryIntersectUnionWrong : ChangeSpec := { name := "fnEveryIntersectUnion", fn := fun _ => fun
  | [d1, d2, d3] => { results := [.lit (.bool false)], args := [d1, d2, d3] }
  | _ => none }
def FnEveryIntersectUnionWrongFalsely : Prop := fnEveryIntersectUnionRow.holds Try.pinned (OpenSpec.ofChange fnEveryIntersectUnionWrong)

end Rows
end Go.Proofs.Qxb6603227a
