/-
  No cell of these rows narrows 'for every input' (looked for: loops, veiled, ifaces, maps, wideKeys, modest, calm, conditions, laid).
  DERIVED. THE GIVEN ROWS OF THIS SEAT. 6 by the template 'for every input the law returns true; each argument reads behind the call as it read before'; 0 by the template 'total and deterministic' (their statements: Qxb6000828aTotals.lean).
  GIVEN WITH THE SEED: the statements are not yours to turn. If you find one false, say at which input.
  Laid BY PROGRAM, IN A SANDBOX (cutbox-rows.mjs): the forced cells as the released guide's own fill.sh prints them over the translation f40bd67115adb53a… (all of the seat's roots in one cut). By AI agents, Wed Nov 11 2026. No macro, syntax, notation, axiom, sorry.
-/
import Derived.Test.Qxb6000828aChecked
import GoSem.Claim
import GoSem.ClaimJoined
import GoSem.ClaimMapViews
import Derived.JoinedTies
import Derived.KernelRfl
namespace Go.Proofs.Qxb6000828a
/- THE CELL 'sum', in the pinned program and in every row, IS THE sha256 OF THE DUMP (.gsa) THAT Qxb6000828aProg.lean LOADS. Nothing in Lean hashes anything: it is a label: what it is worth is what the hold of that sum in a sandbox is worth. -/
noncomputable def Try.pinned : Pinned := { name := "qxb6000828a", sum := "f40bd67115adb53a2b9f7f885fb88acad4b44beb26bef8e7c7f17e59cfbafa4f", checked := Try.checked }
namespace Rows
def none {H : Type} : Left H := { results := [], args := [] }

/-- 'zzlaws_pkg_zed_b1.FnSkipStopsAtTokenOrUnclosedComment': WHATEVER THE INPUT: true; the input reads as it did. -/
def fnSkipStopsAtTokenOrUnclosedCommentSpec : ChangeSpec := { name := "fnSkipStopsAtTokenOrUnclosedComment", fn := fun _ => fun
  | [d1, d2, d3] => { results := [.lit (.bool true)], args := [d1, d2, d3] }
  | _ => none }
def fnSkipStopsAtTokenOrUnclosedCommentRow : OpenClaim := { program := "qxb6000828a", sum := "f40bd67115adb53a2b9f7f885fb88acad4b44beb26bef8e7c7f17e59cfbafa4f", func := "example.com/relatum/relatum/zzlaws_pkg_zed_b1.FnSkipStopsAtTokenOrUnclosedComment", spec := "fnSkipStopsAtTokenOrUnclosedComment", inPlace := ["internal/bytealg.IndexByteString", "internal/bytealg.IndexString", "internal/bytealg.CountString"], named := ["internal/bytealg.MaxLen"], apart := false }
def FnSkipStopsAtTokenOrUnclosedCommentSaid : Prop := fnSkipStopsAtTokenOrUnclosedCommentRow.holds Try.pinned (OpenSpec.ofChange fnSkipStopsAtTokenOrUnclosedCommentSpec)

/-- ITS FALSE NEIGHBOUR: 'it returns false'. Refute it at one input. -/
def fnSkipStopsAtTokenOrUnclosedCommentWrong : ChangeSpec := { name := "fnSkipStopsAtTokenOrUnclosedComment", fn := fun _ => fun
  | [d1, d2, d3] => { results := [.lit (.bool false)], args := [d1, d2, d3] }
  | _ => none }
def FnSkipStopsAtTokenOrUnclosedCommentWrongFalsely : Prop := fnSkipStopsAtTokenOrUnclosedCommentRow.holds Try.pinned (OpenSpec.ofChange fnSkipStopsAtTokenOrUnclosedCommentWrong)

/-- 'zzlaws_pkg_zed_b1.FnSkipIsIdempotent': WHATEVER THE INPUT: true; the input reads as it did. -/
def fnSkipIsIdempotentSpec : ChangeSpec := { name := "fnSkipIsIdempotent", fn := fun _ => fun
  | [d1, d2, d3] => { results := [.lit (.bool true)], args := [d1, d2, d3] }
  | _ => none }
def fnSkipIsIdempotentRow : OpenClaim := { program := "qxb6000828a", sum := "f40bd67115adb53a2b9f7f885fb88acad4b44beb26bef8e7c7f17e59cfbafa4f", func := "example.com/relatum/relatum/zzlaws_pkg_zed_b1.FnSkipIsIdempotent", spec := "fnSkipIsIdempotent", inPlace := ["internal/bytealg.IndexByteString", "internal/bytealg.IndexString", "internal/bytealg.CountString"], named := ["internal/bytealg.MaxLen"], apart := false }
def FnSkipIsIdempotentSaid : Prop := fnSkipIsIdempotentRow.holds Try.pinned (OpenSpec.ofChange fnSkipIsIdempotentSpec)

/-- ITS FALSE NEIGHBOUR: 'it returns false'. Refute it at one input. -/
def fnSkipIsIdempotentWrong : ChangeSpec := { name := "fnSkipIsIdempotent", fn := fun _ => fun
  | [d1, d2, d3] => { results := [.lit (.bool false)], args := [d1, d2, d3] }
  | _ => none }
def FnSkipIsIdempotentWrongFalsely : Prop := fnSkipIsIdempotentRow.holds Try.pinned (OpenSpec.ofChange fnSkipIsIdempotentWrong)

/-- 'zzlaws_pkg_zed_b1.FnSkipLeadingLayoutShifts': WHATEVER THE INPUT: true; the input reads as it did. -/
def fnSkipLeadingLayoutShiftsSpec : ChangeSpec := { name := "fnSkipLeadingLayoutShifts", fn := fun _ => fun
  | [d1, d2, d3] => { results := [.lit (.bool true)], args := [d1, d2, d3] }
  | _ => none }
def fnSkipLeadingLayoutShiftsRow : OpenClaim := { program := "qxb6000828a", sum := "f40bd67115adb53a2b9f7f885fb88acad4b44beb26bef8e7c7f17e59cfbafa4f", func := "example.com/relatum/relatum/zzlaws_pkg_zed_b1.FnSkipLeadingLayoutShifts", spec := "fnSkipLeadingLayoutShifts", inPlace := ["internal/bytealg.IndexByteString", "internal/bytealg.IndexString", "internal/bytealg.CountString"], named := ["internal/bytealg.MaxLen"], apart := false }
def FnSkipLeadingLayoutShiftsSaid : Prop := fnSkipLeadingLayoutShiftsRow.holds Try.pinned (OpenSpec.ofChange fnSkipLeadingLayoutShiftsSpec)

/-- ITS FALSE NEIGHBOUR: 'it returns false'. Refute it at one input. -/
def fnSkipLeadingLayoutShiftsWrong : ChangeSpec := { name := "fnSkipLeadingLayoutShifts", fn := fun _ => fun
  | [d1, d2, d3] => { results := [.lit (.bool false)], args := [d1, d2, d3] }
  | _ => none }
def FnSkipLeadingLayoutShiftsWrongFalsely : Prop := fnSkipLeadingLayoutShiftsRow.holds Try.pinned (OpenSpec.ofChange fnSkipLeadingLayoutShiftsWrong)

/-- 'zzlaws_pkg_zed_b1.FnWordEndTakesWholeWordAndNoComment': WHATEVER THE INPUT: true; the input reads as it did. -/
def fnWordEndTakesWholeWordAndNoCommentSpec : ChangeSpec := { name := "fnWordEndTakesWholeWordAndNoComment", fn := fun _ => fun
  | [d1, d2] => { results := [.lit (.bool true)], args := [d1, d2] }
  | _ => none }
def fnWordEndTakesWholeWordAndNoCommentRow : OpenClaim := { program := "qxb6000828a", sum := "f40bd67115adb53a2b9f7f885fb88acad4b44beb26bef8e7c7f17e59cfbafa4f", func := "example.com/relatum/relatum/zzlaws_pkg_zed_b1.FnWordEndTakesWholeWordAndNoComment", spec := "fnWordEndTakesWholeWordAndNoComment", apart := false }
def FnWordEndTakesWholeWordAndNoCommentSaid : Prop := fnWordEndTakesWholeWordAndNoCommentRow.holds Try.pinned (OpenSpec.ofChange fnWordEndTakesWholeWordAndNoCommentSpec)

/-- ITS FALSE NEIGHBOUR: 'it returns false'. Refute it at one input. -/
def fnWordEndTakesWholeWordAndNoCommentWrong : ChangeSpec := { name := "fnWordEndTakesWholeWordAndNoComment", fn := fun _ => fun
  | [d1, d2] => { results := [.lit (.bool false)], args := [d1, d2] }
  | _ => none }
def FnWordEndTakesWholeWordAndNoCommentWrongFalsely : Prop := fnWordEndTakesWholeWordAndNoCommentRow.holds Try.pinned (OpenSpec.ofChange fnWordEndTakesWholeWordAndNoCommentWrong)

/-- 'zzlaws_pkg_zed_b1.FnWordEndSameFromAnyPointInside': WHATEVER THE INPUT: true; the input reads as it did. -/
def fnWordEndSameFromAnyPointInsideSpec : ChangeSpec := { name := "fnWordEndSameFromAnyPointInside", fn := fun _ => fun
  | [d1, d2, d3] => { results := [.lit (.bool true)], args := [d1, d2, d3] }
  | _ => none }
def fnWordEndSameFromAnyPointInsideRow : OpenClaim := { program := "qxb6000828a", sum := "f40bd67115adb53a2b9f7f885fb88acad4b44beb26bef8e7c7f17e59cfbafa4f", func := "example.com/relatum/relatum/zzlaws_pkg_zed_b1.FnWordEndSameFromAnyPointInside", spec := "fnWordEndSameFromAnyPointInside", apart := false }
def FnWordEndSameFromAnyPointInsideSaid : Prop := fnWordEndSameFromAnyPointInsideRow.holds Try.pinned (OpenSpec.ofChange fnWordEndSameFromAnyPointInsideSpec)

/-- ITS FALSE NEIGHBOUR: 'it returns false'. Refute it at one input. -/
def fnWordEndSameFromAnyPointInsideWrong : ChangeSpec := { name := "fnWordEndSameFromAnyPointInside", fn := fun _ => fun
  | [d1, d2, d3] => { results := [.lit (.bool false)], args := [d1, d2, d3] }
  | _ => none }
def FnWordEndSameFromAnyPointInsideWrongFalsely : Prop := fnWordEndSameFromAnyPointInsideRow.holds Try.pinned (OpenSpec.ofChange fnWordEndSameFromAnyPointInsideWrong)

/-- 'zzlaws_pkg_zed_b1.FnWordEndShiftsWithPrefix': WHATEVER THE INPUT: true; the input reads as it did. -/
def fnWordEndShiftsWithPrefixSpec : ChangeSpec := { name := "fnWordEndShiftsWithPrefix", fn := fun _ => fun
  | [d1, d2, d3] => { results := [.lit (.bool true)], args := [d1, d2, d3] }
  | _ => none }
def fnWordEndShiftsWithPrefixRow : OpenClaim := { program := "qxb6000828a", sum := "f40bd67115adb53a2b9f7f885fb88acad4b44beb26bef8e7c7f17e59cfbafa4f", func := "example.com/relatum/relatum/zzlaws_pkg_zed_b1.FnWordEndShiftsWithPrefix", spec := "fnWordEndShiftsWithPrefix", apart := false }
def FnWordEndShiftsWithPrefixSaid : Prop := fnWordEndShiftsWithPrefixRow.holds Try.pinned (OpenSpec.ofChange fnWordEndShiftsWithPrefixSpec)

/-- ITS FALSE NEIGHBOUR: 'it returns false'. Refute it at one input. -/
def fnWordEndShiftsWithPrefixWrong : ChangeSpec := { name := "fnWordEndShiftsWithPrefix", fn := fun _ => fun
  | [d1, d2, d3] => { results := [.lit (.bool false)], args := [d1, d2, d3] }
  | _ => none }
def FnWordEndShiftsWithPrefixWrongFalsely : Prop := fnWordEndShiftsWithPrefixRow.holds Try.pinned (OpenSpec.ofChange fnWordEndShiftsWithPrefixWrong)

end Rows
end Go.Proofs.Qxb6000828a
