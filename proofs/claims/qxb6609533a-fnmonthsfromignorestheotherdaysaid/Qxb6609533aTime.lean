/-
  OWN TEXT of this seat: what zzTime hands back: the zero time, moved on by d nanoseconds.
-/
import Derived.Test.Qxb6609533aRows
import Derived.WalkKit
import Derived.Laws.BitsAllLaws
namespace Go.Proofs.Qxb6609533a
open Go.RowKit
theorem and0 : bits .and .u64 0 1073741823 = 0 := by decide
theorem andNot0 : bits .andNot .u64 0 1073741823 = 0 := by decide
theorem or0 (n : Int) (h0 : 0 ≤ n) (h1 : n < 1000000000) : bits .or .u64 0 n = n := by
  rw [u64_or 0 n (by omega) (by omega) h0 (by omega)]
  simp; omega
theorem mono0 (n : Int) (h0 : 0 ≤ n) (h1 : n < 1000000000) : (bits .and .u64 n 9223372036854775808 != 0) = false := by
  rw [u64_and n 9223372036854775808 h0 (by omega) (by omega) (by omega)]
  have e : (n.toNat &&& (9223372036854775808 : Int).toNat) = 0 := by
    rw [show (9223372036854775808 : Int).toNat = 2 ^ 63 from rfl]
    apply Nat.eq_of_testBit_eq
    intro i
    rw [Nat.testBit_and, Nat.testBit_two_pow, Nat.zero_testBit]
    by_cases hi : 63 = i
    · subst hi; rw [Nat.testBit_lt_two_pow (by omega)]; rfl
    · simp [hi]
  rw [e]; rfl
theorem tq (d : Int) (h : d < 0) : d.tdiv 1000000000 = -((-d) / 1000000000) := by
  have := Int.neg_tdiv (a := -d) (b := 1000000000)
  rw [Int.neg_neg, Int.tdiv_eq_ediv_of_nonneg (a := -d) (by omega)] at this
  exact this
theorem tr (d : Int) (h : d < 0) : d.tmod 1000000000 = -((-d) % 1000000000) := by
  have := Int.neg_tmod (-d) 1000000000
  rw [Int.neg_neg, Int.tmod_eq_emod_of_nonneg (a := -d) (by omega)] at this
  exact this
set_option maxHeartbeats 400000 in
theorem nsec0 (b : Nat) (w : World) (h : w.cell? ⟨b, 0, none⟩ = some (.int .u64 0)) :
    Calls Try.prog 9 #[.pointer (some ⟨b, 0, none⟩)] w fun e w' => e = .returned (.int .i32 0) ∧ w' = w := by
  have z := and0
  go_enter Try.func9, Try.ntmps9
  go_wp2
  go_ret
  exact ⟨rfl, rfl⟩
set_option maxHeartbeats 400000 in
theorem addSec0 (b : Nat) (n d : Int) (w : World) (h0 : w.cell? ⟨b, 0, none⟩ = some (.int .u64 n)) (h1 : w.cell? ⟨b, 1, none⟩ = some (.int .i64 0)) (f1 : w.frozen? ⟨b, 1, none⟩ = false) (n0 : 0 ≤ n) (n1 : n < 1000000000) (d0 : -9223372037 ≤ d) (d1 : d ≤ 9223372036)  :
    Calls Try.prog 10 #[.pointer (some ⟨b, 0, none⟩), .int .i64 d] w fun e w' => e = .returned (.tuple #[]) ∧ w.setCell ⟨b, 1, none⟩ (.int .i64 d) = w' := by
  have z := mono0 n n0 n1
  go_enter Try.func10, Try.ntmps10
  go_wp2
  go_end0
  exact ⟨rfl, rfl⟩

set_option maxHeartbeats 400000 in
theorem add_pos (d : Int) (w : World) (d0 : 0 ≤ d) (d1 : d ≤ 9223372036854775807) :
    Calls Try.prog 7 #[.agg #[.int .u64 0, .int .i64 0, .pointer none], .int .i64 d] w fun e w' => e = .returned (.agg #[.int .u64 (d % 1000000000), .int .i64 (d / 1000000000), .pointer none]) ∧ Below w.heap.size w w' := by
  have z1 := andNot0
  have z2 := or0 (d % 1000000000) (by omega) (by omega)
  have z3 := mono0 (d % 1000000000) (by omega) (by omega)
  go_enter Try.func7, Try.ntmps7
  go_wp2_with fail
  refine (nsec0 _ _ ?_).mono ?_
  · go_simp
  rintro e w1 ⟨rfl, rfl⟩
  go_wp2_with fail
  refine (addSec0 _ (d % 1000000000) _ _ ?_ ?_ ?_ (by omega) (by omega) (by omega) (by omega)).mono ?_
  · go_simp
  · go_simp
  · go_simp
  rintro e w1 ⟨rfl, rfl⟩
  go_wp2
  refine bodyPost_ret (v := .agg #[.int .u64 (d % 1000000000), .int .i64 (d / 1000000000), .pointer none]) (by simp [results, Try.results7, go_sem]) rfl ⟨rfl, ?_⟩
  exact ((Below.refl _ _).alloc (Nat.le_refl _) _).alloc (by simp) _

set_option maxHeartbeats 400000 in
theorem add_neg (d : Int) (w : World) (d0 : d < 0) (d1 : -9223372036854775808 ≤ d) (hr : d.tmod 1000000000 < 0) :
    Calls Try.prog 7 #[.agg #[.int .u64 0, .int .i64 0, .pointer none], .int .i64 d] w fun e w' => e = .returned (.agg #[.int .u64 (d % 1000000000), .int .i64 (d / 1000000000), .pointer none]) ∧ Below w.heap.size w w' := by
  have eq := tq d d0
  have er := tr d d0
  have r0 : -999999999 ≤ d.tmod 1000000000 := by omega
  have q0 : -9223372036 ≤ d.tdiv 1000000000 := by omega
  have q1 : d.tdiv 1000000000 ≤ 0 := by omega
  have HM : Hid (d.tmod 1000000000 + 1000000000 = d % 1000000000) := (by omega : d.tmod 1000000000 + 1000000000 = d % 1000000000)
  have HD : Hid (d.tdiv 1000000000 - 1 = d / 1000000000) := (by omega : d.tdiv 1000000000 - 1 = d / 1000000000)
  clear eq er
  have z1 := andNot0
  have z2 := or0 (d.tmod 1000000000 + 1000000000) (by omega) (by omega)
  have z3 := mono0 (d.tmod 1000000000 + 1000000000) (by omega) (by omega)
  go_enter Try.func7, Try.ntmps7
  go_wp2_with fail
  refine (nsec0 _ _ ?_).mono ?_
  · go_simp
  rintro e w1 ⟨rfl, rfl⟩
  go_wp2_with fail
  refine (addSec0 _ (d.tmod 1000000000 + 1000000000) _ _ ?_ ?_ ?_ (by omega) (by omega) (by omega) (by omega)).mono ?_
  · go_simp
  · go_simp
  · go_simp
  rintro e w1 ⟨rfl, rfl⟩
  go_wp2
  refine bodyPost_ret (v := .agg #[.int .u64 (d.tmod 1000000000 + 1000000000), .int .i64 (d.tdiv 1000000000 - 1), .pointer none]) (by simp [results, Try.results7, go_sem]) rfl ⟨by rw [HM.out, HD.out], ?_⟩
  exact ((Below.refl _ _).alloc (Nat.le_refl _) _).alloc (by simp) _

set_option maxHeartbeats 400000 in
theorem add_neg0 (d : Int) (w : World) (d0 : d < 0) (d1 : -9223372036854775808 ≤ d) (hr : 0 ≤ d.tmod 1000000000) :
    Calls Try.prog 7 #[.agg #[.int .u64 0, .int .i64 0, .pointer none], .int .i64 d] w fun e w' => e = .returned (.agg #[.int .u64 (d % 1000000000), .int .i64 (d / 1000000000), .pointer none]) ∧ Below w.heap.size w w' := by
  have eq := tq d d0
  have er := tr d d0
  have r1 : d.tmod 1000000000 ≤ 0 := by omega
  have q0 : -9223372036 ≤ d.tdiv 1000000000 := by omega
  have q1 : d.tdiv 1000000000 ≤ 0 := by omega
  have HM : Hid (d.tmod 1000000000 = d % 1000000000) := (by omega : d.tmod 1000000000 = d % 1000000000)
  have HD : Hid (d.tdiv 1000000000 = d / 1000000000) := (by omega : d.tdiv 1000000000 = d / 1000000000)
  clear eq er
  have z1 := andNot0
  have z2 := or0 (d.tmod 1000000000) (by omega) (by omega)
  have z3 := mono0 (d.tmod 1000000000) (by omega) (by omega)
  go_enter Try.func7, Try.ntmps7
  go_wp2_with fail
  refine (nsec0 _ _ ?_).mono ?_
  · go_simp
  rintro e w1 ⟨rfl, rfl⟩
  go_wp2_with fail
  refine (addSec0 _ (d.tmod 1000000000) _ _ ?_ ?_ ?_ (by omega) (by omega) (by omega) (by omega)).mono ?_
  · go_simp
  · go_simp
  · go_simp
  rintro e w1 ⟨rfl, rfl⟩
  go_wp2
  refine bodyPost_ret (v := .agg #[.int .u64 (d.tmod 1000000000), .int .i64 (d.tdiv 1000000000), .pointer none]) (by simp [results, Try.results7, go_sem]) rfl ⟨by rw [HM.out, HD.out], ?_⟩
  exact ((Below.refl _ _).alloc (Nat.le_refl _) _).alloc (by simp) _

theorem add (d : Int) (w : World) (d0 : -9223372036854775808 ≤ d) (d1 : d ≤ 9223372036854775807) :
    Calls Try.prog 7 #[.agg #[.int .u64 0, .int .i64 0, .pointer none], .int .i64 d] w fun e w' => e = .returned (.agg #[.int .u64 (d % 1000000000), .int .i64 (d / 1000000000), .pointer none]) ∧ Below w.heap.size w w' := by
  by_cases h : 0 ≤ d
  · exact add_pos d w h d1
  · by_cases hr : d.tmod 1000000000 < 0
    · exact add_neg d w (by omega) d0 hr
    · exact add_neg0 d w (by omega) d0 (by omega)

theorem bcell {W w1 : World} (hb : Below W.heap.size W w1) : (∀ b o, b < W.heap.size → w1.cell? ⟨b, o, none⟩ = W.cell? ⟨b, o, none⟩) ∧ (∀ b o, b < W.heap.size → w1.frozen? ⟨b, o, none⟩ = W.frozen? ⟨b, o, none⟩) :=
  ⟨fun b o h => hb.cell (p := ⟨b, o, none⟩) h, fun b o h => hb.frozen (p := ⟨b, o, none⟩) h⟩

/-- the two words of the time that zzTime hands back -/
def wl (d : Int) : Int := d % 1000000000
def xt (d : Int) : Int := d / 1000000000

set_option maxHeartbeats 400000 in
theorem zzT (d : Int) (w : World) (d0 : -9223372036854775808 ≤ d) (d1 : d ≤ 9223372036854775807) :
    Calls Try.prog 5 #[.int .i64 d] w fun e w' => e = .returned (.agg #[.int .u64 (wl d), .int .i64 (xt d), .pointer none]) ∧ Below w.heap.size w w' := by
  go_enter Try.func5, Try.ntmps5
  go_wp2_with fail
  refine (add d _ d0 d1).mono ?_
  rintro e w1 ⟨rfl, hb⟩
  obtain ⟨hc, hf⟩ := bcell hb
  go_wp2
  refine bodyPost_ret (v := .agg #[.int .u64 (d % 1000000000), .int .i64 (d / 1000000000), .pointer none]) (by simp [results, Try.results5, go_sem, hc]) rfl ⟨rfl, ?_⟩
  exact (((((Below.refl _ _).alloc (Nat.le_refl _) _).trans (hb.mono (by simp))).setCell (Nat.le_refl _) _).setCell (Nat.le_refl _) _).setCell (Nat.le_refl _) _

end Go.Proofs.Qxb6609533a
