/-
  No cell of these rows narrows 'for every input' (looked for: loops, veiled, ifaces, maps, wideKeys, modest, calm, conditions, laid).
  DERIVED. THE GIVEN ROWS OF THIS SEAT. 2 by the template 'for every input the law returns true; each argument reads behind the call as it read before'; 0 by the template 'total and deterministic' (their statements: Qxb6604386aTotals.lean).
  GIVEN WITH THE SEED: the statements are not yours to turn. If you find one false, say at which input.
  Laid BY PROGRAM, IN A SANDBOX (cutbox-rows.mjs): the forced cells as the released guide's own fill.sh prints them over the translation 8b96fa61b5e65f27… (all of the seat's roots in one cut). By AI agents, Wed Nov 11 2026. No macro, syntax, notation, axiom, sorry.
-/
import Derived.Test.Qxb6604386aChecked
import GoSem.Claim
import GoSem.ClaimJoined
import GoSem.ClaimMapViews
import Derived.JoinedTies
import Derived.KernelRfl
namespace Go.Proofs.Qxb6604386a
/- THE CELL 'sum', in the pinned program and in every row, IS THE sha256 OF THE DUMP (.gsa) THAT Qxb6604386aProg.lean LOADS. Nothing in Lean hashes anything: it is a label: what it is worth is what the hold of that sum in a sandbox is worth. -/
noncomputable def Try.pinned : Pinned := { name := "qxb6604386a", sum := "8b96fa61b5e65f27ca40a269da32f5241e24a6c183296f47bc3716cdecc63ed9", checked := Try.checked }
namespace Rows
def none {H : Type} : Left H := { results := [], args := [] }

/-- 'zzlaws_internal_cli_b1.FnComparedMeasures': WHATEVER THE INPUT: true; the input reads as it did. -/
def fnComparedMeasuresSpec : ChangeSpec := { name := "fnComparedMeasures", fn := fun _ => fun
  | [d1, d2, d3, d4, d5, d6] => { results := [.lit (.bool true)], args := [d1, d2, d3, d4, d5, d6] }
  | _ => none }
def fnComparedMeasuresRow : OpenClaim := { program := "qxb6604386a", sum := "8b96fa61b5e65f27ca40a269da32f5241e24a6c183296f47bc3716cdecc63ed9", func := "example.com/sessionweave/sessionweave/zzlaws_internal_cli_b1.FnComparedMeasures", spec := "fnComparedMeasures", apart := false }
def FnComparedMeasuresSaid : Prop := fnComparedMeasuresRow.holds Try.pinned (OpenSpec.ofChange fnComparedMeasuresSpec)

/-- ITS FALSE NEIGHBOUR: 'it returns false'. Refute it at one input. -/
def fnComparedMeasuresWrong : ChangeSpec := { name := "fnComparedMeasures", fn := fun _ => fun
  | [d1, d2, d3, d4, d5, d6] => { results := [.lit (.bool false)], args := [d1, d2, d3, d4, d5, d6] }
  | _ => none }
def FnComparedMeasuresWrongFalsely : Prop := fnComparedMeasuresRow.holds Try.pinned (OpenSpec.ofChange fnComparedMeasuresWrong)

/-- 'zzlaws_internal_cli_b1.FnComparedColumnsApart': WHATEVER THE INPUT: true; the input reads as it did. -/
def fnComparedColumnsApartSpec : ChangeSpec := { name := "fnComparedColumnsApart", fn := fun _ => fun
  | [d1, d2, d3, d4, d5, d6, d7] => { results := [.lit (.bool true)], args := [d1, d2, d3, d4, d5, d6, d7] }
  | _ => none }
def fnComparedColumnsApartRow : OpenClaim := { program := "qxb6604386a", sum := "8b96fa61b5e65f27ca40a269da32f5241e24a6c183296f47bc3716cdecc63ed9", func := "example.com/sessionweave/sessionweave/zzlaws_internal_cli_b1.FnComparedColumnsApart", spec := "fnComparedColumnsApart", apart := false }
def FnComparedColumnsApartSaid : Prop := fnComparedColumnsApartRow.holds Try.pinned (OpenSpec.ofChange fnComparedColumnsApartSpec)

/-- ITS FALSE NEIGHBOUR: 'it returns false'. Refute it at one input. -/
def fnComparedColumnsApartWrong : ChangeSpec := { name := "fnComparedColumnsApart", fn := fun _ => fun
  | [d1, d2, d3, d4, d5, d6, d7] => { results := [.lit (.bool false)], args := [d1, d2, d3, d4, d5, d6, d7] }
  | _ => none }
def FnComparedColumnsApartWrongFalsely : Prop := fnComparedColumnsApartRow.holds Try.pinned (OpenSpec.ofChange fnComparedColumnsApartWrong)

end Rows
end Go.Proofs.Qxb6604386a
