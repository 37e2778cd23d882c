/-
  OWN TEXT of this seat: what 'isAlnum' and 'ZZisAlnum' answer, and the table of the 62 bytes.
-/
import Derived.Test.Qxb6609431aRows
import Derived.WalkKit
import Derived.ProofKit
namespace Go.Proofs.Qxb6609431a
open Go.ChangeShapes Go.WideShapes Go.ChangeAt Go.RowKit

/-- an ASCII digit or letter, on numbers -/
def alnB (n : Int) : Bool := decide ((48 ≤ n ∧ n ≤ 57) ∨ (97 ≤ n ∧ n ≤ 122) ∨ (65 ≤ n ∧ n ≤ 90))

theorem aln7 (n : Int) (w : World) :
    Calls Try.prog 7 #[.int .u8 n] w fun e w' => e = .returned (.bool (alnB n)) ∧ w' = w := by
  by_cases c1 : 48 ≤ n <;> by_cases c2 : n ≤ 57 <;> by_cases c3 : 97 ≤ n <;> by_cases c4 : n ≤ 122 <;> by_cases c5 : 65 ≤ n <;> by_cases c6 : n ≤ 90 <;>
    first
    | (exfalso; omega)
    | (rw [show alnB n = true from decide_eq_true (by omega)]
       go_enter Try.func7, Try.ntmps7
       go_wp2
       go_ret
       exact ⟨rfl, rfl⟩)
    | (rw [show alnB n = false from decide_eq_false (by omega)]
       go_enter Try.func7, Try.ntmps7
       go_wp2
       go_ret
       exact ⟨rfl, rfl⟩)

theorem aln5 (n : Int) (w : World) :
    Calls Try.prog 5 #[.int .u8 n] w fun e w' => e = .returned (.bool (alnB n)) ∧ w' = w := by
  go_enter Try.func5, Try.ntmps5
  go_wp2_with (go_at_call 7; refine (aln7 _ _).mono ?_; rintro e w' ⟨rfl, rfl⟩)
  go_ret
  exact ⟨rfl, rfl⟩

end Go.Proofs.Qxb6609431a
