/-
  No cell of these rows narrows 'for every input' (looked for: loops, veiled, ifaces, maps, wideKeys, modest, calm, conditions, laid).
  DERIVED. THE GIVEN ROWS OF THIS SEAT. 1 by the template 'for every input the law returns true; each argument reads behind the call as it read before'; 0 by the template 'total and deterministic' (their statements: Qxb6609533aTotals.lean).
  GIVEN WITH THE SEED: the statements are not yours to turn. If you find one false, say at which input.
  Laid BY PROGRAM, IN A SANDBOX (cutbox-rows.mjs): the forced cells as the released guide's own fill.sh prints them over the translation e8c9518abaf93ecd… (all of the seat's roots in one cut). By AI agents, Wed Nov 11 2026. No macro, syntax, notation, axiom, sorry.
-/
import Derived.Test.Qxb6609533aChecked
import GoSem.Claim
import GoSem.ClaimJoined
import GoSem.ClaimMapViews
import Derived.JoinedTies
import Derived.KernelRfl
namespace Go.Proofs.Qxb6609533a
/- THE CELL 'sum', in the pinned program and in every row, IS THE sha256 OF THE DUMP (.gsa) THAT Qxb6609533aProg.lean LOADS. Nothing in Lean hashes anything: it is a label: what it is worth is what the hold of that sum in a sandbox is worth. -/
noncomputable def Try.pinned : Pinned := { name := "qxb6609533a", sum := "e8c9518abaf93ecd1f6256dfaddce7e7d9c36350af0a953a18c02afd8d592362", checked := Try.checked }
namespace Rows
def none {H : Type} : Left H := { results := [], args := [] }

/-- 'zzlaws_plan_b1.FnMonthsFromIgnoresTheOtherDay': WHATEVER THE INPUT: true; the input reads as it did. -/
def fnMonthsFromIgnoresTheOtherDaySpec : ChangeSpec := { name := "fnMonthsFromIgnoresTheOtherDay", fn := fun _ => fun
  | [d1, d2, d3, d4, d5] => { results := [.lit (.bool true)], args := [d1, d2, d3, d4, d5] }
  | _ => none }
def fnMonthsFromIgnoresTheOtherDayRow : OpenClaim := { program := "qxb6609533a", sum := "e8c9518abaf93ecd1f6256dfaddce7e7d9c36350af0a953a18c02afd8d592362", func := "example.com/vestledger/vestledger/zzlaws_plan_b1.FnMonthsFromIgnoresTheOtherDay", spec := "fnMonthsFromIgnoresTheOtherDay", apart := false }
def FnMonthsFromIgnoresTheOtherDaySaid : Prop := fnMonthsFromIgnoresTheOtherDayRow.holds Try.pinned (OpenSpec.ofChange fnMonthsFromIgnoresTheOtherDaySpec)

/-- ITS FALSE NEIGHBOUR: 'it returns false'. Refute it at one input. -/
def fnMonthsFromIgnoresTheOtherDayWrong : ChangeSpec := { name := "fnMonthsFromIgnoresTheOtherDay", fn := fun _ => fun
  | [d1, d2, d3, d4, d5] => { results := [.lit (.bool false)], args := [d1, d2, d3, d4, d5] }
  | _ => none }
def FnMonthsFromIgnoresTheOtherDayWrongFalsely : Prop := fnMonthsFromIgnoresTheOtherDayRow.holds Try.pinned (OpenSpec.ofChange fnMonthsFromIgnoresTheOtherDayWrong)

end Rows
end Go.Proofs.Qxb6609533a
