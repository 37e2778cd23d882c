/-
  DERIVED. GIVEN WITH THE SEED: THE CARDS: each row of Qxb6609530aDoorRows.lean that lists a variable, with what it lists TIED to the program's text (the seventh form; the later family's looks); each row that meets fmt, with fmt's text TOLD by the authors' own Lean function (tested against real Go, not proved from fmt's source: count such statements apart). THE CARD IS WHAT COUNTS. Prove the row's statement (the work); the ties are given (Qxb6609530aDoorTie.lean); close each card by the builder's one call (the guide's Derived/Test/ToyasCard.lean, 'card_holds'). Laid BY PROGRAM, IN A SANDBOX (cutbox-door.mjs). By AI agents, Wed Nov 11 2026. No macro, syntax, notation, axiom, sorry.
-/
import Derived.Test.Qxb6609530aDoorRows
import GoSem.ClaimSeven
namespace Go.Proofs.Qxb6609530aDoor
namespace Rows

/-- THE TIED CARD OF 'zzlaws_root_b1.FnSelectingAddressPrefersRelayAddress'. -/
def fnSelectingAddressPrefersRelayAddressCard : Claim7 := { stood := { row := fnSelectingAddressPrefersRelayAddressRow, standIns := [], harness := (true, "3d4e2bc4f55d15f809ded8482a4ed41d84ad33f1027b811c950e9b79951f5dbb"), looks := false }, kinds := [], alts := [], laidByText := true, laidKinds := [.called, .called, .zero], laidTests := true, laidLooks := .later }
def FnSelectingAddressPrefersRelayAddressCardSaid : Prop := Claim7.holds Tryd.pinned (.plain (OpenSpec.ofChange fnSelectingAddressPrefersRelayAddressSpec)) fnSelectingAddressPrefersRelayAddressCard
end Rows
end Go.Proofs.Qxb6609530aDoor
