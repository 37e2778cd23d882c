/-
  OWN TEXT of this seat: what zzBytes_.., zzZero4, zzSameAddr, zzIs4 answer.
-/
import Derived.Test.Qxb6609530aDoorSel
import Derived.WalkSpells
import Derived.Deep.QuietTactic
import Derived.BigQuiet
namespace Go.Proofs.Qxb6609530aDoor
open Go.RowKit

theorem belowN {B : Nat} {a w : World} (h : Below B a w) (n : Nat) : Below B a (w.drewN n) := h.trans ⟨rfl, rfl, rfl, Nat.le_refl _, fun _ _ => rfl⟩

set_option maxHeartbeats 400000 in
theorem bytesOk (s : Option Addr) (n cap : Nat) (x0 x1 x2 x3 : Value) (w : World) (hn : n ≤ 1048576) :
    Calls Tryd.prog 4 #[.slice s n cap, .agg #[x0, x1, x2, x3]] w fun e w' => e = .returned (.bool true) ∧ Below w.heap.size w w' := by
  go_enter Tryd.func4, Tryd.ntmps4
  go_wp2
  go_ret
  exact ⟨rfl, (Below.refl _ _).alloc (Nat.le_refl _) _⟩
set_option maxHeartbeats 400000 in
theorem bytesNo (s : Option Addr) (n cap : Nat) (x0 x1 x2 x3 : Value) (w : World) (hn : 1048576 < n) :
    Calls Tryd.prog 4 #[.slice s n cap, .agg #[x0, x1, x2, x3]] w fun e w' => e = .returned (.bool false) ∧ Below w.heap.size w w' := by
  go_enter Tryd.func4, Tryd.ntmps4
  go_wp2
  go_ret
  exact ⟨rfl, (Below.refl _ _).alloc (Nat.le_refl _) _⟩

set_option maxHeartbeats 400000 in
theorem is4 (nb : Nat) (a b c d : Int) (w : World) (h : Four w nb 0 a b c d) :
    Calls Tryd.prog 10 #[.slice (some ⟨nb, 0, none⟩) 4 4, .agg #[.int .u8 a, .int .u8 b, .int .u8 c, .int .u8 d]] w fun e w' => e = .returned (.bool true) ∧ Below w.heap.size w w' := by
  obtain ⟨c0, c1, c2, c3, _, _, _, _, _, _, _, _⟩ := h
  have hz := World.block_lt_of_cell? _ _ c0
  simp only at hz
  simp only [Nat.zero_add] at c1 c2 c3
  go_enter Tryd.func10, Tryd.ntmps10
  go_wp2
  go_quiet (fail)
  go_wp2
  go_ret
  exact ⟨rfl, belowN ((Below.refl _ _).alloc (Nat.le_refl _) _) _⟩
set_option maxHeartbeats 400000 in
theorem same0 (w : World) :
    Calls Tryd.prog 9 #[.slice none 0 0, .slice none 0 0] w fun e w' => e = .returned (.bool true) ∧ Below w.heap.size w w' := by
  have q := fun W => Lib.run_eql_slice_nil (P := Tryd.prog) W 22 5 none 0 0 0 0 Tryd.underlying22
  go_enter Tryd.func9, Tryd.ntmps9
  go_wp2
  go_ret
  exact ⟨rfl, Below.refl _ _⟩
set_option maxHeartbeats 400000 in
theorem same4 (nb mb mo cap : Nat) (a b c d : Int) (w : World) (h : Four w nb 0 a b c d) (m : Four w mb mo a b c d) :
    Calls Tryd.prog 9 #[.slice (some ⟨nb, 0, none⟩) 4 4, .slice (some ⟨mb, mo, none⟩) 4 cap] w fun e w' => e = .returned (.bool true) ∧ Below w.heap.size w w' := by
  obtain ⟨c0, c1, c2, c3, _, _, _, _, _, _, _, _⟩ := h
  obtain ⟨m0, m1, m2, m3, _, _, _, _, _, _, _, _⟩ := m
  simp only [Nat.zero_add] at c1 c2 c3
  have q := fun W => Lib.run_eql_slice_nil (P := Tryd.prog) W 22 5 (some ⟨mb, mo, none⟩) 4 cap 0 0 Tryd.underlying22
  go_enter Tryd.func9, Tryd.ntmps9
  go_wp2
  refine wp_loop_rounds 5 ?_
  rw [rounds_succ]
  go_wp2
  go_quiet (fail)
  go_wp2
  rw [rounds_succ]
  go_wp2
  go_quiet (fail)
  go_wp2
  rw [rounds_succ]
  go_wp2
  go_quiet (fail)
  go_wp2
  rw [rounds_succ]
  go_wp2
  go_quiet (fail)
  go_wp2
  rw [rounds_succ]
  go_wp2
  go_ret
  exact ⟨rfl, belowN (Below.refl _ _) _⟩

set_option maxHeartbeats 400000 in
theorem zero4_yes (mb mo n cap : Nat) (w : World) (h : Four w mb (mo + 12) 0 0 0 0) (hn : 16 ≤ n) :
    Calls Tryd.prog 8 #[.slice (some ⟨mb, mo, none⟩) n cap, .int .i64 12] w fun e w' => e = .returned (.bool true) ∧ w' = w := by
  obtain ⟨c0, c1, c2, c3, _, _, _, _, _, _, _, _⟩ := h
  simp only [Nat.add_assoc, Nat.reduceAdd] at c1 c2 c3
  go_enter Tryd.func8, Tryd.ntmps8
  go_wp2
  go_ret
  exact ⟨rfl, rfl⟩
set_option maxHeartbeats 400000 in
theorem zero4_no (mb mo n cap : Nat) (a b c d : Int) (w : World) (h : Four w mb (mo + 12) a b c d) (hn : 16 ≤ n) (hnz : ¬ (a = 0 ∧ b = 0 ∧ c = 0 ∧ d = 0)) :
    Calls Tryd.prog 8 #[.slice (some ⟨mb, mo, none⟩) n cap, .int .i64 12] w fun e w' => e = .returned (.bool false) ∧ w' = w := by
  obtain ⟨c0, c1, c2, c3, _, _, _, _, _, _, _, _⟩ := h
  simp only [Nat.add_assoc, Nat.reduceAdd] at c1 c2 c3
  by_cases k0 : a = 0
  · by_cases k1 : b = 0
    · by_cases k2 : c = 0
      · have k3 : (d == 0) = false := by simp; omega
        clear hnz
        subst k0 k1 k2
        go_enter Tryd.func8, Tryd.ntmps8
        go_wp2
        go_ret
        exact ⟨rfl, rfl⟩
      · have k3 : (c == 0) = false := by simpa using k2
        clear hnz k2
        subst k0 k1
        go_enter Tryd.func8, Tryd.ntmps8
        go_wp2
        go_ret
        exact ⟨rfl, rfl⟩
    · have k3 : (b == 0) = false := by simpa using k1
      clear hnz k1
      subst k0
      go_enter Tryd.func8, Tryd.ntmps8
      go_wp2
      go_ret
      exact ⟨rfl, rfl⟩
  · have k3 : (a == 0) = false := by simpa using k0
    clear hnz k0
    go_enter Tryd.func8, Tryd.ntmps8
    go_wp2
    go_ret
    exact ⟨rfl, rfl⟩
end Go.Proofs.Qxb6609530aDoor
