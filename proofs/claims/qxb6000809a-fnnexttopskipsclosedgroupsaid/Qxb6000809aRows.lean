/-
  No cell of these rows narrows 'for every input' (looked for: loops, veiled, ifaces, maps, wideKeys, modest, calm, conditions, laid).
  DERIVED. THE GIVEN ROWS OF THIS SEAT. 3 by the template 'for every input the law returns true; each argument reads behind the call as it read before'; 0 by the template 'total and deterministic' (their statements: Qxb6000809aTotals.lean).
  GIVEN WITH THE SEED: the statements are not yours to turn. If you find one false, say at which input.
  Laid BY PROGRAM, IN A SANDBOX (cutbox-rows.mjs): the forced cells as the released guide's own fill.sh prints them over the translation 6eb770efcbaab333… (all of the seat's roots in one cut). By AI agents, Wed Nov 11 2026. No macro, syntax, notation, axiom, sorry.
-/
import Derived.Test.Qxb6000809aChecked
import GoSem.Claim
import GoSem.ClaimJoined
import GoSem.ClaimMapViews
import Derived.JoinedTies
import Derived.KernelRfl
namespace Go.Proofs.Qxb6000809a
/- THE CELL 'sum', in the pinned program and in every row, IS THE sha256 OF THE DUMP (.gsa) THAT Qxb6000809aProg.lean LOADS. Nothing in Lean hashes anything: it is a label: what it is worth is what the hold of that sum in a sandbox is worth. -/
noncomputable def Try.pinned : Pinned := { name := "qxb6000809a", sum := "6eb770efcbaab3331f532c5140cf1af85303642db4c37817d8d831af9a2d6d6f", checked := Try.checked }
namespace Rows
def none {H : Type} : Left H := { results := [], args := [] }

/-- 'zzlaws_strace_b1.FnNextTopPrefixDecides': WHATEVER THE INPUT: true; the input reads as it did. -/
def fnNextTopPrefixDecidesSpec : ChangeSpec := { name := "fnNextTopPrefixDecides", fn := fun _ => fun
  | [d1, d2, d3, d4] => { results := [.lit (.bool true)], args := [d1, d2, d3, d4] }
  | _ => none }
def fnNextTopPrefixDecidesRow : OpenClaim := { program := "qxb6000809a", sum := "6eb770efcbaab3331f532c5140cf1af85303642db4c37817d8d831af9a2d6d6f", func := "example.com/strict-config/strict-config/zzlaws_strace_b1.FnNextTopPrefixDecides", spec := "fnNextTopPrefixDecides", inPlace := ["internal/bytealg.IndexByteString"], apart := false }
def FnNextTopPrefixDecidesSaid : Prop := fnNextTopPrefixDecidesRow.holds Try.pinned (OpenSpec.ofChange fnNextTopPrefixDecidesSpec)

/-- ITS FALSE NEIGHBOUR: 'it returns false'. Refute it at one input. -/
def fnNextTopPrefixDecidesWrong : ChangeSpec := { name := "fnNextTopPrefixDecides", fn := fun _ => fun
  | [d1, d2, d3, d4] => { results := [.lit (.bool false)], args := [d1, d2, d3, d4] }
  | _ => none }
def FnNextTopPrefixDecidesWrongFalsely : Prop := fnNextTopPrefixDecidesRow.holds Try.pinned (OpenSpec.ofChange fnNextTopPrefixDecidesWrong)

/-- 'zzlaws_strace_b1.FnNextTopFlatTextFindsFirstStop': WHATEVER THE INPUT: true; the input reads as it did. -/
def fnNextTopFlatTextFindsFirstStopSpec : ChangeSpec := { name := "fnNextTopFlatTextFindsFirstStop", fn := fun _ => fun
  | [d1, d2, d3] => { results := [.lit (.bool true)], args := [d1, d2, d3] }
  | _ => none }
def fnNextTopFlatTextFindsFirstStopRow : OpenClaim := { program := "qxb6000809a", sum := "6eb770efcbaab3331f532c5140cf1af85303642db4c37817d8d831af9a2d6d6f", func := "example.com/strict-config/strict-config/zzlaws_strace_b1.FnNextTopFlatTextFindsFirstStop", spec := "fnNextTopFlatTextFindsFirstStop", inPlace := ["internal/bytealg.IndexByteString"], apart := false }
def FnNextTopFlatTextFindsFirstStopSaid : Prop := fnNextTopFlatTextFindsFirstStopRow.holds Try.pinned (OpenSpec.ofChange fnNextTopFlatTextFindsFirstStopSpec)

/-- ITS FALSE NEIGHBOUR: 'it returns false'. Refute it at one input. -/
def fnNextTopFlatTextFindsFirstStopWrong : ChangeSpec := { name := "fnNextTopFlatTextFindsFirstStop", fn := fun _ => fun
  | [d1, d2, d3] => { results := [.lit (.bool false)], args := [d1, d2, d3] }
  | _ => none }
def FnNextTopFlatTextFindsFirstStopWrongFalsely : Prop := fnNextTopFlatTextFindsFirstStopRow.holds Try.pinned (OpenSpec.ofChange fnNextTopFlatTextFindsFirstStopWrong)

/-- 'zzlaws_strace_b1.FnNextTopSkipsClosedGroup': WHATEVER THE INPUT: true; the input reads as it did. -/
def fnNextTopSkipsClosedGroupSpec : ChangeSpec := { name := "fnNextTopSkipsClosedGroup", fn := fun _ => fun
  | [d1, d2, d3, d4] => { results := [.lit (.bool true)], args := [d1, d2, d3, d4] }
  | _ => none }
def fnNextTopSkipsClosedGroupRow : OpenClaim := { program := "qxb6000809a", sum := "6eb770efcbaab3331f532c5140cf1af85303642db4c37817d8d831af9a2d6d6f", func := "example.com/strict-config/strict-config/zzlaws_strace_b1.FnNextTopSkipsClosedGroup", spec := "fnNextTopSkipsClosedGroup", inPlace := ["internal/bytealg.IndexByteString"], apart := false }
def FnNextTopSkipsClosedGroupSaid : Prop := fnNextTopSkipsClosedGroupRow.holds Try.pinned (OpenSpec.ofChange fnNextTopSkipsClosedGroupSpec)

/-- ITS FALSE NEIGHBOUR: 'it returns false'. Refute it at one input. -/
def fnNextTopSkipsClosedGroupWrong : ChangeSpec := { name := "fnNextTopSkipsClosedGroup", fn := fun _ => fun
  | [d1, d2, d3, d4] => { results := [.lit (.bool false)], args := [d1, d2, d3, d4] }
  | _ => none }
def FnNextTopSkipsClosedGroupWrongFalsely : Prop := fnNextTopSkipsClosedGroupRow.holds Try.pinned (OpenSpec.ofChange fnNextTopSkipsClosedGroupWrong)

end Rows
end Go.Proofs.Qxb6000809a
