/-
  OWN TEXT of this seat: THE TIED CARD of FnSelectingAddressPrefersRelayAddress, out of the proved row and the given tie, by the builder's one call.
-/
import Derived.Test.Qxb6609530aDoorRowProof
import Derived.Test.Qxb6609530aDoorTie
import Derived.Test.Qxb6609530aDoorCards
import Derived.SevenTiedAt
namespace Go.Proofs.Qxb6609530aDoor
open Go

/-- THE STATEMENT -/
theorem card_holds : Rows.FnSelectingAddressPrefersRelayAddressCardSaid :=
  Claim7.holds_tied_plain_at .later [] [.called, .called, .zero] true (true, "3d4e2bc4f55d15f809ded8482a4ed41d84ad33f1027b811c950e9b79951f5dbb") false
    row_holds (fun _ h => by cases h) (by kernel_rfl) (fun _ h => by cases h) fnSelectingAddressPrefersRelayAddress_row_tie rfl ⟨rfl, rfl⟩ (by kernel_rfl) rfl
    (fun f fn hf hfn => by
      obtain rfl : f = 3 := Option.some.inj ((show Tryd.prog.funcNamed Rows.fnSelectingAddressPrefersRelayAddressRow.func = some 3 by kernel_rfl).symm.trans hf) |>.symm
      obtain rfl : fn = Tryd.f3 := (Option.some.inj (Tryd.func3.symm.trans hfn)).symm
      exact ⟨by kernel_rfl, fun j t ht => by
        rw [Tryd.params3] at ht
        have hm : t ∈ [22, 23] := by simpa using Array.mem_of_getElem? ht
        have hall : ([22, 23].all fun u => !Tryd.prog.wantsStandIn u) = true := by kernel_rfl
        exact (show Tryd.prog.wantsStandIn t = false by simpa using List.all_eq_true.1 hall t hm)⟩)
    (by kernel_rfl)

end Go.Proofs.Qxb6609530aDoor
