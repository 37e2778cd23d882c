/-
  OWN TEXT of this seat: what 'isWordChar' and 'ZZisWordChar' answer.
-/
import Derived.Test.Qxb6612251aRows
import Derived.WalkKit
import Derived.ProofKit
namespace Go.Proofs.Qxb6612251a
open Go.ChangeShapes Go.WideShapes Go.ChangeAt Go.RowKit

/-- an ASCII letter, a digit or a dash, on numbers -/
def wordB (n : Int) : Bool := decide ((97 ≤ n ∧ n ≤ 122) ∨ (65 ≤ n ∧ n ≤ 90) ∨ (48 ≤ n ∧ n ≤ 57) ∨ n = 45)

theorem word6 (n : Int) (w : World) :
    Calls Try.prog 6 #[.int .u8 n] w fun e w' => e = .returned (.bool (wordB n)) ∧ w' = w := by
  by_cases c0 : n = 45
  · subst c0
    rw [show wordB 45 = true from rfl]
    go_enter Try.func6, Try.ntmps6
    go_wp2
    go_ret
    exact ⟨rfl, rfl⟩
  · have c7 : (n == 45) = false := by simpa using c0
    by_cases c1 : 48 ≤ n <;> by_cases c2 : n ≤ 57 <;> by_cases c3 : 97 ≤ n <;> by_cases c4 : n ≤ 122 <;> by_cases c5 : 65 ≤ n <;> by_cases c6 : n ≤ 90 <;>
      first
      | (exfalso; omega)
      | (rw [show wordB n = true from decide_eq_true (by omega)]
         clear c0
         go_enter Try.func6, Try.ntmps6
         go_wp2
         go_ret
         exact ⟨rfl, rfl⟩)
      | (rw [show wordB n = false from decide_eq_false (by omega)]
         clear c0
         go_enter Try.func6, Try.ntmps6
         go_wp2
         go_ret
         exact ⟨rfl, rfl⟩)

theorem word5 (n : Int) (w : World) :
    Calls Try.prog 5 #[.int .u8 n] w fun e w' => e = .returned (.bool (wordB n)) ∧ w' = w := by
  go_enter Try.func5, Try.ntmps5
  go_wp2_with (go_at_call 6; refine (word6 _ _).mono ?_; rintro e w' ⟨rfl, rfl⟩)
  go_ret
  exact ⟨rfl, rfl⟩

end Go.Proofs.Qxb6612251a
