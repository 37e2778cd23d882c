/-
  NARROWER THAN 'FOR EVERY INPUT', by the rows' own cells (each row's printed sentence says how): FnSelectingAddressPrefersRelayAddress: laid.
  DERIVED. THE GIVEN ROWS OF THIS SEAT. 1 by the template 'for every input the law returns true; each argument reads behind the call as it read before'; 0 by the template 'total and deterministic' (their statements: Qxb6609530aDoorTotals.lean).
  GIVEN WITH THE SEED: the statements are not yours to turn. If you find one false, say at which input.
  Laid BY PROGRAM, IN A SANDBOX (cutbox-rows.mjs): the forced cells as the released guide's own fill.sh prints them over the translation bd02442afd3fbe6e… (all of the seat's roots in one cut). By AI agents, Wed Nov 11 2026. No macro, syntax, notation, axiom, sorry.
-/
import Derived.Test.Qxb6609530aDoorChecked
import GoSem.Claim
import GoSem.ClaimJoined
import GoSem.ClaimMapViews
import Derived.JoinedTies
import Derived.KernelRfl
namespace Go.Proofs.Qxb6609530aDoor
/- THE CELL 'sum', in the pinned program and in every row, IS THE sha256 OF THE DUMP (.gsa) THAT Qxb6609530aDoorProg.lean LOADS. Nothing in Lean hashes anything: it is a label: what it is worth is what the hold of that sum in a sandbox is worth. -/
noncomputable def Tryd.pinned : Pinned := { name := "qxb6609530adoor", sum := "bd02442afd3fbe6e8def545f1fb88c4842cd2fbb89aefaeef426da69e40a3648", checked := Tryd.checked }
namespace Rows
def none {H : Type} : Left H := { results := [], args := [] }

/- WHAT THE LISTED PACKAGE-LEVEL VARIABLES READ AS WHEN THE CALL BEGINS. Each datum BY PROGRAM (the guide's laid-datum.mjs) off the statement by which the dump's own 'gosem.cut.vars' lays the variable. In a bare row this is a premise. The card (Qxb6609530aDoorCards.lean) ties it to the program's text. -/
def laid_net_netip_z4 {H : Type} : DataW H := .agg [.ptr (.agg [.lit (.bool false), .lit (.string [])])]
def laid_net_netip_z6noz {H : Type} : DataW H := .agg [.ptr (.agg [.lit (.bool true), .lit (.string [])])]
def laid_net_netip_z0 {H : Type} : DataW H := .agg [.nil]

/-- 'zzlaws_root_b1.FnSelectingAddressPrefersRelayAddress': WHATEVER THE INPUT: true; the input reads as it did. -/
def fnSelectingAddressPrefersRelayAddressSpec : ChangeSpec := { name := "fnSelectingAddressPrefersRelayAddress", fn := fun _ => fun
  | [d1, d2] => { results := [.lit (.bool true)], args := [d1, d2] }
  | _ => none }
def fnSelectingAddressPrefersRelayAddressRow : OpenClaim := { program := "qxb6609530adoor", sum := "bd02442afd3fbe6e8def545f1fb88c4842cd2fbb89aefaeef426da69e40a3648", func := "example.com/lewisburg/lewisburg/zzlaws_root_b1.FnSelectingAddressPrefersRelayAddress", spec := "fnSelectingAddressPrefersRelayAddress", named := ["net/netip.z4", "net/netip.z6noz", "net/netip.z0"], apart := false, laid := [("net/netip.z4", laid_net_netip_z4), ("net/netip.z6noz", laid_net_netip_z6noz), ("net/netip.z0", laid_net_netip_z0)] }
def FnSelectingAddressPrefersRelayAddressSaid : Prop := fnSelectingAddressPrefersRelayAddressRow.holds Tryd.pinned (OpenSpec.ofChange fnSelectingAddressPrefersRelayAddressSpec)

/-- ITS FALSE NEIGHBOUR: 'it returns false'. Refute it at one input. -/
def fnSelectingAddressPrefersRelayAddressWrong : ChangeSpec := { name := "fnSelectingAddressPrefersRelayAddress", fn := fun _ => fun
  | [d1, d2] => { results := [.lit (.bool false)], args := [d1, d2] }
  | _ => none }
def FnSelectingAddressPrefersRelayAddressWrongFalsely : Prop := fnSelectingAddressPrefersRelayAddressRow.holds Tryd.pinned (OpenSpec.ofChange fnSelectingAddressPrefersRelayAddressWrong)

end Rows
end Go.Proofs.Qxb6609530aDoor
