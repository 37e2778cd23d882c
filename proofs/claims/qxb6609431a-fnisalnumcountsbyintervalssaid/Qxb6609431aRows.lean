/-
  No cell of these rows narrows 'for every input' (looked for: loops, veiled, ifaces, maps, wideKeys, modest, calm, conditions, laid).
  DERIVED. THE GIVEN ROWS OF THIS SEAT. 2 by the template 'for every input the law returns true; each argument reads behind the call as it read before'; 0 by the template 'total and deterministic' (their statements: Qxb6609431aTotals.lean).
  GIVEN WITH THE SEED: the statements are not yours to turn. If you find one false, say at which input.
  Laid BY PROGRAM, IN A SANDBOX (cutbox-rows.mjs): the forced cells as the released guide's own fill.sh prints them over the translation d54d9a3815e94def… (all of the seat's roots in one cut). By AI agents, Wed Nov 11 2026. No macro, syntax, notation, axiom, sorry.
-/
import Derived.Test.Qxb6609431aChecked
import GoSem.Claim
import GoSem.ClaimJoined
import GoSem.ClaimMapViews
import Derived.JoinedTies
import Derived.KernelRfl
namespace Go.Proofs.Qxb6609431a
/- THE CELL 'sum', in the pinned program and in every row, IS THE sha256 OF THE DUMP (.gsa) THAT Qxb6609431aProg.lean LOADS. Nothing in Lean hashes anything: it is a label: what it is worth is what the hold of that sum in a sandbox is worth. -/
noncomputable def Try.pinned : Pinned := { name := "qxb6609431a", sum := "d54d9a3815e94def2d71998d07e0fd79c47b496074cc7716c1aa8e23b8dc9942", checked := Try.checked }
namespace Rows
def none {H : Type} : Left H := { results := [], args := [] }

/-- 'zzlaws_internal_workflow_b1.FnIsAlnumIsMembershipInTheSixtyTwo': WHATEVER THE INPUT: true; the input reads as it did. -/
def fnIsAlnumIsMembershipInTheSixtyTwoSpec : ChangeSpec := { name := "fnIsAlnumIsMembershipInTheSixtyTwo", fn := fun _ => fun
  | [d] => { results := [.lit (.bool true)], args := [d] }
  | _ => none }
def fnIsAlnumIsMembershipInTheSixtyTwoRow : OpenClaim := { program := "qxb6609431a", sum := "d54d9a3815e94def2d71998d07e0fd79c47b496074cc7716c1aa8e23b8dc9942", func := "example.com/transition/transition/zzlaws_internal_workflow_b1.FnIsAlnumIsMembershipInTheSixtyTwo", spec := "fnIsAlnumIsMembershipInTheSixtyTwo", apart := false }
def FnIsAlnumIsMembershipInTheSixtyTwoSaid : Prop := fnIsAlnumIsMembershipInTheSixtyTwoRow.holds Try.pinned (OpenSpec.ofChange fnIsAlnumIsMembershipInTheSixtyTwoSpec)

/-- ITS FALSE NEIGHBOUR: 'it returns false'. Refute it at one input. -/
def fnIsAlnumIsMembershipInTheSixtyTwoWrong : ChangeSpec := { name := "fnIsAlnumIsMembershipInTheSixtyTwo", fn := fun _ => fun
  | [d] => { results := [.lit (.bool false)], args := [d] }
  | _ => none }
def FnIsAlnumIsMembershipInTheSixtyTwoWrongFalsely : Prop := fnIsAlnumIsMembershipInTheSixtyTwoRow.holds Try.pinned (OpenSpec.ofChange fnIsAlnumIsMembershipInTheSixtyTwoWrong)

/-- 'zzlaws_internal_workflow_b1.FnIsAlnumCountsByIntervals': WHATEVER THE INPUT: true; the input reads as it did. -/
def fnIsAlnumCountsByIntervalsSpec : ChangeSpec := { name := "fnIsAlnumCountsByIntervals", fn := fun _ => fun
  | [d1, d2] => { results := [.lit (.bool true)], args := [d1, d2] }
  | _ => none }
def fnIsAlnumCountsByIntervalsRow : OpenClaim := { program := "qxb6609431a", sum := "d54d9a3815e94def2d71998d07e0fd79c47b496074cc7716c1aa8e23b8dc9942", func := "example.com/transition/transition/zzlaws_internal_workflow_b1.FnIsAlnumCountsByIntervals", spec := "fnIsAlnumCountsByIntervals", apart := false }
def FnIsAlnumCountsByIntervalsSaid : Prop := fnIsAlnumCountsByIntervalsRow.holds Try.pinned (OpenSpec.ofChange fnIsAlnumCountsByIntervalsSpec)

/-- ITS FALSE NEIGHBOUR: 'it returns false'. Refute it at one input. -/
def fnIsAlnumCountsByIntervalsWrong : ChangeSpec := { name := "fnIsAlnumCountsByIntervals", fn := fun _ => fun
  | [d1, d2] => { results := [.lit (.bool false)], args := [d1, d2] }
  | _ => none }
def FnIsAlnumCountsByIntervalsWrongFalsely : Prop := fnIsAlnumCountsByIntervalsRow.holds Try.pinned (OpenSpec.ofChange fnIsAlnumCountsByIntervalsWrong)

end Rows
end Go.Proofs.Qxb6609431a
