/-
  No cell of these rows narrows 'for every input' (looked for: loops, veiled, ifaces, maps, wideKeys, modest, calm, conditions, laid).
  DERIVED. THE GIVEN ROWS OF THIS SEAT. 1 by the template 'for every input the law returns true; each argument reads behind the call as it read before'; 0 by the template 'total and deterministic' (their statements: Qxb6604368aTotals.lean).
  GIVEN WITH THE SEED: the statements are not yours to turn. If you find one false, say at which input.
  Laid BY PROGRAM, IN A SANDBOX (cutbox-rows.mjs): the forced cells as the released guide's own fill.sh prints them over the translation 71681e1b2fdb19fc… (all of the seat's roots in one cut). By AI agents, Wed Nov 11 2026. No macro, syntax, notation, axiom, sorry.
-/
import Derived.Test.Qxb6604368aChecked
import GoSem.Claim
import GoSem.ClaimJoined
import GoSem.ClaimMapViews
import Derived.JoinedTies
import Derived.KernelRfl
namespace Go.Proofs.Qxb6604368a
/- THE CELL 'sum', in the pinned program and in every row, IS THE sha256 OF THE DUMP (.gsa) THAT Qxb6604368aProg.lean LOADS. Nothing in Lean hashes anything: it is a label: what it is worth is what the hold of that sum in a sandbox is worth. -/
noncomputable def Try.pinned : Pinned := { name := "qxb6604368a", sum := "71681e1b2fdb19fcdf377a898c2999dd4e3e4c1a02b77986771df6d99bb813ef", checked := Try.checked }
namespace Rows
def none {H : Type} : Left H := { results := [], args := [] }

/-- 'zzlaws_root_b1.FnCheckTagJoins': WHATEVER THE INPUT: true; the input reads as it did. -/
def fnCheckTagJoinsSpec : ChangeSpec := { name := "fnCheckTagJoins", fn := fun _ => fun
  | [d1, d2] => { results := [.lit (.bool true)], args := [d1, d2] }
  | _ => none }
def fnCheckTagJoinsRow : OpenClaim := { program := "qxb6604368a", sum := "71681e1b2fdb19fcdf377a898c2999dd4e3e4c1a02b77986771df6d99bb813ef", func := "example.com/parley/parley/zzlaws_root_b1.FnCheckTagJoins", spec := "fnCheckTagJoins", apart := false }
def FnCheckTagJoinsSaid : Prop := fnCheckTagJoinsRow.holds Try.pinned (OpenSpec.ofChange fnCheckTagJoinsSpec)

/-- ITS FALSE NEIGHBOUR: 'it returns false'. Refute it at one input. -/
def fnCheckTagJoinsWrong : ChangeSpec := { name := "fnCheckTagJoins", fn := fun _ => fun
  | [d1, d2] => { results := [.lit (.bool false)], args := [d1, d2] }
  | _ => none }
def FnCheckTagJoinsWrongFalsely : Prop := fnCheckTagJoinsRow.holds Try.pinned (OpenSpec.ofChange fnCheckTagJoinsWrong)

end Rows
end Go.Proofs.Qxb6604368a
