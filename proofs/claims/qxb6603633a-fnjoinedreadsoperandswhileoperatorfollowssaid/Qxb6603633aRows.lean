/-
  No cell of these rows narrows 'for every input' (looked for: loops, veiled, ifaces, maps, wideKeys, modest, calm, conditions, laid).
  DERIVED. THE GIVEN ROWS OF THIS SEAT. 4 by the template 'for every input the law returns true; each argument reads behind the call as it read before'; 0 by the template 'total and deterministic' (their statements: Qxb6603633aTotals.lean).
  GIVEN WITH THE SEED: the statements are not yours to turn. If you find one false, say at which input.
  Laid BY PROGRAM, IN A SANDBOX (cutbox-rows.mjs): the forced cells as the released guide's own fill.sh prints them over the translation f4e528b23d2cbcdb… (all of the seat's roots in one cut). By AI agents, Wed Nov 11 2026. No macro, syntax, notation, axiom, sorry.
-/
import Derived.Test.Qxb6603633aChecked
import GoSem.Claim
import GoSem.ClaimJoined
import GoSem.ClaimMapViews
import Derived.JoinedTies
import Derived.KernelRfl
namespace Go.Proofs.Qxb6603633a
/- THE CELL 'sum', in the pinned program and in every row, IS THE sha256 OF THE DUMP (.gsa) THAT Qxb6603633aProg.lean LOADS. Nothing in Lean hashes anything: it is a label: what it is worth is what the hold of that sum in a sandbox is worth. -/
noncomputable def Try.pinned : Pinned := { name := "qxb6603633a", sum := "f4e528b23d2cbcdb9298a8258fc12bde85219bd826f63b5c40d7437f2b3b5445", checked := Try.checked }
namespace Rows
def none {H : Type} : Left H := { results := [], args := [] }

/-- 'zzlaws_internal_rule_b1.FnJoinedReadsOperandsWhileOperatorFollows': WHATEVER THE INPUT: true; the input reads as it did. -/
def fnJoinedReadsOperandsWhileOperatorFollowsSpec : ChangeSpec := { name := "fnJoinedReadsOperandsWhileOperatorFollows", fn := fun _ => fun
  | [d1, d2, d3] => { results := [.lit (.bool true)], args := [d1, d2, d3] }
  | _ => none }
def fnJoinedReadsOperandsWhileOperatorFollowsRow : OpenClaim := { program := "qxb6603633a", sum := "f4e528b23d2cbcdb9298a8258fc12bde85219bd826f63b5c40d7437f2b3b5445", func := "example.com/originum/originum/zzlaws_internal_rule_b1.FnJoinedReadsOperandsWhileOperatorFollows", spec := "fnJoinedReadsOperandsWhileOperatorFollows", unfollowed := true, recurses := true, apart := false }
def FnJoinedReadsOperandsWhileOperatorFollowsSaid : Prop := fnJoinedReadsOperandsWhileOperatorFollowsRow.holds Try.pinned (OpenSpec.ofChange fnJoinedReadsOperandsWhileOperatorFollowsSpec)

/-- ITS FALSE NEIGHBOUR: 'it returns false'. Refute it at one input. -/
def fnJoinedReadsOperandsWhileOperatorFollowsWrong : ChangeSpec := { name := "fnJoinedReadsOperandsWhileOperatorFollows", fn := fun _ => fun
  | [d1, d2, d3] => { results := [.lit (.bool false)], args := [d1, d2, d3] }
  | _ => none }
def FnJoinedReadsOperandsWhileOperatorFollowsWrongFalsely : Prop := fnJoinedReadsOperandsWhileOperatorFollowsRow.holds Try.pinned (OpenSpec.ofChange fnJoinedReadsOperandsWhileOperatorFollowsWrong)

/-- 'zzlaws_internal_rule_b1.FnJoinedFlattensGroupsInPlace': WHATEVER THE INPUT: true; the input reads as it did. -/
def fnJoinedFlattensGroupsInPlaceSpec : ChangeSpec := { name := "fnJoinedFlattensGroupsInPlace", fn := fun _ => fun
  | [d1, d2, d3] => { results := [.lit (.bool true)], args := [d1, d2, d3] }
  | _ => none }
def fnJoinedFlattensGroupsInPlaceRow : OpenClaim := { program := "qxb6603633a", sum := "f4e528b23d2cbcdb9298a8258fc12bde85219bd826f63b5c40d7437f2b3b5445", func := "example.com/originum/originum/zzlaws_internal_rule_b1.FnJoinedFlattensGroupsInPlace", spec := "fnJoinedFlattensGroupsInPlace", unfollowed := true, recurses := true, apart := false }
def FnJoinedFlattensGroupsInPlaceSaid : Prop := fnJoinedFlattensGroupsInPlaceRow.holds Try.pinned (OpenSpec.ofChange fnJoinedFlattensGroupsInPlaceSpec)

/-- ITS FALSE NEIGHBOUR: 'it returns false'. Refute it at one input. -/
def fnJoinedFlattensGroupsInPlaceWrong : ChangeSpec := { name := "fnJoinedFlattensGroupsInPlace", fn := fun _ => fun
  | [d1, d2, d3] => { results := [.lit (.bool false)], args := [d1, d2, d3] }
  | _ => none }
def FnJoinedFlattensGroupsInPlaceWrongFalsely : Prop := fnJoinedFlattensGroupsInPlaceRow.holds Try.pinned (OpenSpec.ofChange fnJoinedFlattensGroupsInPlaceWrong)

/-- 'zzlaws_internal_rule_b1.FnShiftsExactly': WHATEVER THE INPUT: true; the input reads as it did. -/
def fnShiftsExactlySpec : ChangeSpec := { name := "fnShiftsExactly", fn := fun _ => fun
  | [d1, d2, d3, d4, d5] => { results := [.lit (.bool true)], args := [d1, d2, d3, d4, d5] }
  | _ => none }
def fnShiftsExactlyRow : OpenClaim := { program := "qxb6603633a", sum := "f4e528b23d2cbcdb9298a8258fc12bde85219bd826f63b5c40d7437f2b3b5445", func := "example.com/originum/originum/zzlaws_internal_rule_b1.FnShiftsExactly", spec := "fnShiftsExactly", apart := false }
def FnShiftsExactlySaid : Prop := fnShiftsExactlyRow.holds Try.pinned (OpenSpec.ofChange fnShiftsExactlySpec)

/-- ITS FALSE NEIGHBOUR: 'it returns false'. Refute it at one input. -/
def fnShiftsExactlyWrong : ChangeSpec := { name := "fnShiftsExactly", fn := fun _ => fun
  | [d1, d2, d3, d4, d5] => { results := [.lit (.bool false)], args := [d1, d2, d3, d4, d5] }
  | _ => none }
def FnShiftsExactlyWrongFalsely : Prop := fnShiftsExactlyRow.holds Try.pinned (OpenSpec.ofChange fnShiftsExactlyWrong)

/-- 'zzlaws_internal_rule_b1.FnShiftsExceptionsActOneByOne': WHATEVER THE INPUT: true; the input reads as it did. -/
def fnShiftsExceptionsActOneByOneSpec : ChangeSpec := { name := "fnShiftsExceptionsActOneByOne", fn := fun _ => fun
  | [d1, d2, d3, d4, d5] => { results := [.lit (.bool true)], args := [d1, d2, d3, d4, d5] }
  | _ => none }
def fnShiftsExceptionsActOneByOneRow : OpenClaim := { program := "qxb6603633a", sum := "f4e528b23d2cbcdb9298a8258fc12bde85219bd826f63b5c40d7437f2b3b5445", func := "example.com/originum/originum/zzlaws_internal_rule_b1.FnShiftsExceptionsActOneByOne", spec := "fnShiftsExceptionsActOneByOne", apart := false }
def FnShiftsExceptionsActOneByOneSaid : Prop := fnShiftsExceptionsActOneByOneRow.holds Try.pinned (OpenSpec.ofChange fnShiftsExceptionsActOneByOneSpec)

/-- ITS FALSE NEIGHBOUR: 'it returns false'. Refute it at one input. -/
def fnShiftsExceptionsActOneByOneWrong : ChangeSpec := { name := "fnShiftsExceptionsActOneByOne", fn := fun _ => fun
  | [d1, d2, d3, d4, d5] => { results := [.lit (.bool false)], args := [d1, d2, d3, d4, d5] }
  | _ => none }
def FnShiftsExceptionsActOneByOneWrongFalsely : Prop := fnShiftsExceptionsActOneByOneRow.holds Try.pinned (OpenSpec.ofChange fnShiftsExceptionsActOneByOneWrong)

end Rows
end Go.Proofs.Qxb6603633a
