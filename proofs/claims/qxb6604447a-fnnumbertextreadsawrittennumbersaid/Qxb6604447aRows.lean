/-
  No cell of these rows narrows 'for every input' (looked for: loops, veiled, ifaces, maps, wideKeys, modest, calm, conditions, laid).
  DERIVED. THE GIVEN ROWS OF THIS SEAT. 2 by the template 'for every input the law returns true; each argument reads behind the call as it read before'; 0 by the template 'total and deterministic' (their statements: Qxb6604447aTotals.lean).
  GIVEN WITH THE SEED: the statements are not yours to turn. If you find one false, say at which input.
  Laid BY PROGRAM, IN A SANDBOX (cutbox-rows.mjs): the forced cells as the released guide's own fill.sh prints them over the translation a4f61a9c4d8f94dc… (all of the seat's roots in one cut). By AI agents, Wed Nov 11 2026. No macro, syntax, notation, axiom, sorry.
-/
import Derived.Test.Qxb6604447aChecked
import GoSem.Claim
import GoSem.ClaimJoined
import GoSem.ClaimMapViews
import Derived.JoinedTies
import Derived.KernelRfl
namespace Go.Proofs.Qxb6604447a
/- THE CELL 'sum', in the pinned program and in every row, IS THE sha256 OF THE DUMP (.gsa) THAT Qxb6604447aProg.lean LOADS. Nothing in Lean hashes anything: it is a label: what it is worth is what the hold of that sum in a sandbox is worth. -/
noncomputable def Try.pinned : Pinned := { name := "qxb6604447a", sum := "a4f61a9c4d8f94dc203c292157e0958cee5dfc218190c4426a74f0d28e5688a2", checked := Try.checked }
namespace Rows
def none {H : Type} : Left H := { results := [], args := [] }

/-- 'zzlaws_jsonobj_b1.FnNumberTextFollowsTheJSONNumberAutomaton': WHATEVER THE INPUT: true; the input reads as it did. -/
def fnNumberTextFollowsTheJSONNumberAutomatonSpec : ChangeSpec := { name := "fnNumberTextFollowsTheJSONNumberAutomaton", fn := fun _ => fun
  | [d1, d2] => { results := [.lit (.bool true)], args := [d1, d2] }
  | _ => none }
def fnNumberTextFollowsTheJSONNumberAutomatonRow : OpenClaim := { program := "qxb6604447a", sum := "a4f61a9c4d8f94dc203c292157e0958cee5dfc218190c4426a74f0d28e5688a2", func := "example.com/claimcheck/claimcheck/zzlaws_jsonobj_b1.FnNumberTextFollowsTheJSONNumberAutomaton", spec := "fnNumberTextFollowsTheJSONNumberAutomaton", apart := false }
def FnNumberTextFollowsTheJSONNumberAutomatonSaid : Prop := fnNumberTextFollowsTheJSONNumberAutomatonRow.holds Try.pinned (OpenSpec.ofChange fnNumberTextFollowsTheJSONNumberAutomatonSpec)

/-- ITS FALSE NEIGHBOUR: 'it returns false'. Refute it at one input. -/
def fnNumberTextFollowsTheJSONNumberAutomatonWrong : ChangeSpec := { name := "fnNumberTextFollowsTheJSONNumberAutomaton", fn := fun _ => fun
  | [d1, d2] => { results := [.lit (.bool false)], args := [d1, d2] }
  | _ => none }
def FnNumberTextFollowsTheJSONNumberAutomatonWrongFalsely : Prop := fnNumberTextFollowsTheJSONNumberAutomatonRow.holds Try.pinned (OpenSpec.ofChange fnNumberTextFollowsTheJSONNumberAutomatonWrong)

/-- 'zzlaws_jsonobj_b1.FnNumberTextReadsAWrittenNumber': WHATEVER THE INPUT: true; the input reads as it did. -/
def fnNumberTextReadsAWrittenNumberSpec : ChangeSpec := { name := "fnNumberTextReadsAWrittenNumber", fn := fun _ => fun
  | [d1, d2, d3, d4, d5, d6, d7, d8, d9] => { results := [.lit (.bool true)], args := [d1, d2, d3, d4, d5, d6, d7, d8, d9] }
  | _ => none }
def fnNumberTextReadsAWrittenNumberRow : OpenClaim := { program := "qxb6604447a", sum := "a4f61a9c4d8f94dc203c292157e0958cee5dfc218190c4426a74f0d28e5688a2", func := "example.com/claimcheck/claimcheck/zzlaws_jsonobj_b1.FnNumberTextReadsAWrittenNumber", spec := "fnNumberTextReadsAWrittenNumber", apart := false }
def FnNumberTextReadsAWrittenNumberSaid : Prop := fnNumberTextReadsAWrittenNumberRow.holds Try.pinned (OpenSpec.ofChange fnNumberTextReadsAWrittenNumberSpec)

/-- ITS FALSE NEIGHBOUR: 'it returns false'. Refute it at one input. -/
def fnNumberTextReadsAWrittenNumberWrong : ChangeSpec := { name := "fnNumberTextReadsAWrittenNumber", fn := fun _ => fun
  | [d1, d2, d3, d4, d5, d6, d7, d8, d9] => { results := [.lit (.bool false)], args := [d1, d2, d3, d4, d5, d6, d7, d8, d9] }
  | _ => none }
def FnNumberTextReadsAWrittenNumberWrongFalsely : Prop := fnNumberTextReadsAWrittenNumberRow.holds Try.pinned (OpenSpec.ofChange fnNumberTextReadsAWrittenNumberWrong)

end Rows
end Go.Proofs.Qxb6604447a
