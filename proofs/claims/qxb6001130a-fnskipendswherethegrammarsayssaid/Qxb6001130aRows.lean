/-
  No cell of these rows narrows 'for every input' (looked for: loops, veiled, ifaces, maps, wideKeys, modest, calm, conditions, laid).
  DERIVED. THE GIVEN ROWS OF THIS SEAT. 4 by the template 'for every input the law returns true; each argument reads behind the call as it read before'; 0 by the template 'total and deterministic' (their statements: Qxb6001130aTotals.lean).
  GIVEN WITH THE SEED: the statements are not yours to turn. If you find one false, say at which input.
  Laid BY PROGRAM, IN A SANDBOX (cutbox-rows.mjs): the forced cells as the released guide's own fill.sh prints them over the translation 8c9c95158453cae7… (all of the seat's roots in one cut). By AI agents, Wed Nov 11 2026. No macro, syntax, notation, axiom, sorry.
-/
import Derived.Test.Qxb6001130aChecked
import GoSem.Claim
import GoSem.ClaimJoined
import GoSem.ClaimMapViews
import Derived.JoinedTies
import Derived.KernelRfl
namespace Go.Proofs.Qxb6001130a
/- THE CELL 'sum', in the pinned program and in every row, IS THE sha256 OF THE DUMP (.gsa) THAT Qxb6001130aProg.lean LOADS. Nothing in Lean hashes anything: it is a label: what it is worth is what the hold of that sum in a sandbox is worth. -/
noncomputable def Try.pinned : Pinned := { name := "qxb6001130a", sum := "8c9c95158453cae71d3e31899bed4ff8271c85880cc71ab50383ca8dce08ce81", checked := Try.checked }
namespace Rows
def none {H : Type} : Left H := { results := [], args := [] }

/-- 'zzlaws_internal_strictjson_b1.FnSkipEndsWhereTheGrammarSays': WHATEVER THE INPUT: true; the input reads as it did. -/
def fnSkipEndsWhereTheGrammarSaysSpec : ChangeSpec := { name := "fnSkipEndsWhereTheGrammarSays", fn := fun _ => fun
  | [d1, d2] => { results := [.lit (.bool true)], args := [d1, d2] }
  | _ => none }
def fnSkipEndsWhereTheGrammarSaysRow : OpenClaim := { program := "qxb6001130a", sum := "8c9c95158453cae71d3e31899bed4ff8271c85880cc71ab50383ca8dce08ce81", func := "example.com/witnessgrove/witnessgrove/zzlaws_internal_strictjson_b1.FnSkipEndsWhereTheGrammarSays", spec := "fnSkipEndsWhereTheGrammarSays", inPlace := ["internal/bytealg.IndexByteString", "internal/bytealg.IndexString"], recurses := true, named := ["internal/bytealg.MaxLen"], apart := false }
def FnSkipEndsWhereTheGrammarSaysSaid : Prop := fnSkipEndsWhereTheGrammarSaysRow.holds Try.pinned (OpenSpec.ofChange fnSkipEndsWhereTheGrammarSaysSpec)

/-- ITS FALSE NEIGHBOUR: 'it returns false'. Refute it at one input. -/
def fnSkipEndsWhereTheGrammarSaysWrong : ChangeSpec := { name := "fnSkipEndsWhereTheGrammarSays", fn := fun _ => fun
  | [d1, d2] => { results := [.lit (.bool false)], args := [d1, d2] }
  | _ => none }
def FnSkipEndsWhereTheGrammarSaysWrongFalsely : Prop := fnSkipEndsWhereTheGrammarSaysRow.holds Try.pinned (OpenSpec.ofChange fnSkipEndsWhereTheGrammarSaysWrong)

/-- 'zzlaws_internal_strictjson_b1.FnArrayScriptCountsElements': WHATEVER THE INPUT: true; the input reads as it did. -/
def fnArrayScriptCountsElementsSpec : ChangeSpec := { name := "fnArrayScriptCountsElements", fn := fun _ => fun
  | [d] => { results := [.lit (.bool true)], args := [d] }
  | _ => none }
def fnArrayScriptCountsElementsRow : OpenClaim := { program := "qxb6001130a", sum := "8c9c95158453cae71d3e31899bed4ff8271c85880cc71ab50383ca8dce08ce81", func := "example.com/witnessgrove/witnessgrove/zzlaws_internal_strictjson_b1.FnArrayScriptCountsElements", spec := "fnArrayScriptCountsElements", inPlace := ["internal/bytealg.IndexByteString", "internal/bytealg.IndexString"], recurses := true, named := ["internal/bytealg.MaxLen"], apart := false }
def FnArrayScriptCountsElementsSaid : Prop := fnArrayScriptCountsElementsRow.holds Try.pinned (OpenSpec.ofChange fnArrayScriptCountsElementsSpec)

/-- ITS FALSE NEIGHBOUR: 'it returns false'. Refute it at one input. -/
def fnArrayScriptCountsElementsWrong : ChangeSpec := { name := "fnArrayScriptCountsElements", fn := fun _ => fun
  | [d] => { results := [.lit (.bool false)], args := [d] }
  | _ => none }
def FnArrayScriptCountsElementsWrongFalsely : Prop := fnArrayScriptCountsElementsRow.holds Try.pinned (OpenSpec.ofChange fnArrayScriptCountsElementsWrong)

/-- 'zzlaws_internal_strictjson_b1.FnMoreClosingOrStays': WHATEVER THE INPUT: true; the input reads as it did. -/
def fnMoreClosingOrStaysSpec : ChangeSpec := { name := "fnMoreClosingOrStays", fn := fun _ => fun
  | [d1, d2, d3, d4] => { results := [.lit (.bool true)], args := [d1, d2, d3, d4] }
  | _ => none }
def fnMoreClosingOrStaysRow : OpenClaim := { program := "qxb6001130a", sum := "8c9c95158453cae71d3e31899bed4ff8271c85880cc71ab50383ca8dce08ce81", func := "example.com/witnessgrove/witnessgrove/zzlaws_internal_strictjson_b1.FnMoreClosingOrStays", spec := "fnMoreClosingOrStays", apart := false }
def FnMoreClosingOrStaysSaid : Prop := fnMoreClosingOrStaysRow.holds Try.pinned (OpenSpec.ofChange fnMoreClosingOrStaysSpec)

/-- ITS FALSE NEIGHBOUR: 'it returns false'. Refute it at one input. -/
def fnMoreClosingOrStaysWrong : ChangeSpec := { name := "fnMoreClosingOrStays", fn := fun _ => fun
  | [d1, d2, d3, d4] => { results := [.lit (.bool false)], args := [d1, d2, d3, d4] }
  | _ => none }
def FnMoreClosingOrStaysWrongFalsely : Prop := fnMoreClosingOrStaysRow.holds Try.pinned (OpenSpec.ofChange fnMoreClosingOrStaysWrong)

/-- 'zzlaws_internal_strictjson_b1.FnMoreReadsOneComma': WHATEVER THE INPUT: true; the input reads as it did. -/
def fnMoreReadsOneCommaSpec : ChangeSpec := { name := "fnMoreReadsOneComma", fn := fun _ => fun
  | [d1, d2, d3, d4, d5] => { results := [.lit (.bool true)], args := [d1, d2, d3, d4, d5] }
  | _ => none }
def fnMoreReadsOneCommaRow : OpenClaim := { program := "qxb6001130a", sum := "8c9c95158453cae71d3e31899bed4ff8271c85880cc71ab50383ca8dce08ce81", func := "example.com/witnessgrove/witnessgrove/zzlaws_internal_strictjson_b1.FnMoreReadsOneComma", spec := "fnMoreReadsOneComma", apart := false }
def FnMoreReadsOneCommaSaid : Prop := fnMoreReadsOneCommaRow.holds Try.pinned (OpenSpec.ofChange fnMoreReadsOneCommaSpec)

/-- ITS FALSE NEIGHBOUR: 'it returns false'. Refute it at one input. -/
def fnMoreReadsOneCommaWrong : ChangeSpec := { name := "fnMoreReadsOneComma", fn := fun _ => fun
  | [d1, d2, d3, d4, d5] => { results := [.lit (.bool false)], args := [d1, d2, d3, d4, d5] }
  | _ => none }
def FnMoreReadsOneCommaWrongFalsely : Prop := fnMoreReadsOneCommaRow.holds Try.pinned (OpenSpec.ofChange fnMoreReadsOneCommaWrong)

end Rows
end Go.Proofs.Qxb6001130a
