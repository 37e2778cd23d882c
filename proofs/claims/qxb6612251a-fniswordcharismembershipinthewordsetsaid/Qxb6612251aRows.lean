/-
  No cell of these rows narrows 'for every input' (looked for: loops, veiled, ifaces, maps, wideKeys, modest, calm, conditions, laid).
  DERIVED. THE GIVEN ROWS OF THIS SEAT. 2 by the template 'for every input the law returns true; each argument reads behind the call as it read before'; 0 by the template 'total and deterministic' (their statements: Qxb6612251aTotals.lean).
  GIVEN WITH THE SEED: the statements are not yours to turn. If you find one false, say at which input.
  Laid BY PROGRAM, IN A SANDBOX (cutbox-rows.mjs): the forced cells as the released guide's own fill.sh prints them over the translation 48f79d58dc99b8ae… (all of the seat's roots in one cut). By AI agents, Wed Nov 11 2026. No macro, syntax, notation, axiom, sorry.
-/
import Derived.Test.Qxb6612251aChecked
import GoSem.Claim
import GoSem.ClaimJoined
import GoSem.ClaimMapViews
import Derived.JoinedTies
import Derived.KernelRfl
namespace Go.Proofs.Qxb6612251a
/- THE CELL 'sum', in the pinned program and in every row, IS THE sha256 OF THE DUMP (.gsa) THAT Qxb6612251aProg.lean LOADS. Nothing in Lean hashes anything: it is a label: what it is worth is what the hold of that sum in a sandbox is worth. -/
noncomputable def Try.pinned : Pinned := { name := "qxb6612251a", sum := "48f79d58dc99b8ae571b91822946e9c8c4ce4ee6d69698113f4dee0f29db8913", checked := Try.checked }
namespace Rows
def none {H : Type} : Left H := { results := [], args := [] }

/-- 'zzlaws_pkg_yamldata_b1.FnIsWordCharIsMembershipInTheWordSet': WHATEVER THE INPUT: true; the input reads as it did. -/
def fnIsWordCharIsMembershipInTheWordSetSpec : ChangeSpec := { name := "fnIsWordCharIsMembershipInTheWordSet", fn := fun _ => fun
  | [d] => { results := [.lit (.bool true)], args := [d] }
  | _ => none }
def fnIsWordCharIsMembershipInTheWordSetRow : OpenClaim := { program := "qxb6612251a", sum := "48f79d58dc99b8ae571b91822946e9c8c4ce4ee6d69698113f4dee0f29db8913", func := "example.com/espalier/espalier/zzlaws_pkg_yamldata_b1.FnIsWordCharIsMembershipInTheWordSet", spec := "fnIsWordCharIsMembershipInTheWordSet", apart := false }
def FnIsWordCharIsMembershipInTheWordSetSaid : Prop := fnIsWordCharIsMembershipInTheWordSetRow.holds Try.pinned (OpenSpec.ofChange fnIsWordCharIsMembershipInTheWordSetSpec)

/-- ITS FALSE NEIGHBOUR: 'it returns false'. Refute it at one input. -/
def fnIsWordCharIsMembershipInTheWordSetWrong : ChangeSpec := { name := "fnIsWordCharIsMembershipInTheWordSet", fn := fun _ => fun
  | [d] => { results := [.lit (.bool false)], args := [d] }
  | _ => none }
def FnIsWordCharIsMembershipInTheWordSetWrongFalsely : Prop := fnIsWordCharIsMembershipInTheWordSetRow.holds Try.pinned (OpenSpec.ofChange fnIsWordCharIsMembershipInTheWordSetWrong)

/-- 'zzlaws_pkg_yamldata_b1.FnIsWordCharCountsSixtyThreeASCIIBytes': WHATEVER THE INPUT: true; the input reads as it did. -/
def fnIsWordCharCountsSixtyThreeASCIIBytesSpec : ChangeSpec := { name := "fnIsWordCharCountsSixtyThreeASCIIBytes", fn := fun _ => fun
  | [] => { results := [.lit (.bool true)], args := [] }
  | _ => none }
def fnIsWordCharCountsSixtyThreeASCIIBytesRow : OpenClaim := { program := "qxb6612251a", sum := "48f79d58dc99b8ae571b91822946e9c8c4ce4ee6d69698113f4dee0f29db8913", func := "example.com/espalier/espalier/zzlaws_pkg_yamldata_b1.FnIsWordCharCountsSixtyThreeASCIIBytes", spec := "fnIsWordCharCountsSixtyThreeASCIIBytes", apart := false }
def FnIsWordCharCountsSixtyThreeASCIIBytesSaid : Prop := fnIsWordCharCountsSixtyThreeASCIIBytesRow.holds Try.pinned (OpenSpec.ofChange fnIsWordCharCountsSixtyThreeASCIIBytesSpec)

/-- ITS FALSE NEIGHBOUR: 'it returns false'. Refute it at one input. -/
def fnIsWordCharCountsSixtyThreeASCIIBytesWrong : ChangeSpec := { name := "fnIsWordCharCountsSixtyThreeASCIIBytes", fn := fun _ => fun
  | [] => { results := [.lit (.bool false)], args := [] }
  | _ => none }
def FnIsWordCharCountsSixtyThreeASCIIBytesWrongFalsely : Prop := fnIsWordCharCountsSixtyThreeASCIIBytesRow.holds Try.pinned (OpenSpec.ofChange fnIsWordCharCountsSixtyThreeASCIIBytesWrong)

end Rows
end Go.Proofs.Qxb6612251a
