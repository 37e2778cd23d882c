/-
  THE PROOF of 'Rows.FnIsAlnumCountsByIntervalsSaid': the frame by the kit's proof-skeleton.mjs for this program; the walk is this seat's own.
-/
import Derived.Test.Qxb6609431aRows
import Derived.Test.Qxb6609431aAln
import Derived.WalkKit
import Derived.ProofKit
import Derived.OpenShut
import Derived.ShutString
namespace Go.Proofs.Qxb6609431a.fnIsAlnumCountsByIntervals
open Go.ChangeShapes Go.WideShapes Go.ChangeAt Go.RowKit
open Go.ChangeMaps (open_string shut_string)
set_option linter.unusedVariables false      -- a walk need not use every 'w<i>' (that an integer argument fits its kind)

theorem own : ownKnob Try.prog.godebug = none := by kernel_rfl

/-! ### STEP 1: THE WALK: the Go text returns true. 'Grown w w'': the world has at most new blocks (Derived/RowKit3.lean). Part the cases AHEAD of 'go_enter' where a test parts the walk; take each callee by a contract of your own. -/
/-- how many digits and letters lie below n -/
def pre (n : Int) : Int := min (max (n - 48) 0) 10 + min (max (n - 65) 0) 26 + min (max (n - 97) 0) 26
/-- what 'overlap' answers -/
def ovl (lo hi a b : Int) : Int := if min hi b < max lo a then 0 else min hi b - max lo a + 1
theorem pre_yes (n : Int) (h : alnB n = true) : pre (n + 1) = pre n + 1 := by
  have h := of_decide_eq_true h
  unfold pre; omega
theorem pre_no (n : Int) (h : alnB n = false) : pre (n + 1) = pre n := by
  have h := of_decide_eq_false h
  unfold pre; omega
theorem pre_bd (n : Int) : 0 ≤ pre n ∧ pre n ≤ 62 := by unfold pre; omega
theorem ovl_bd (lo hi a b : Int) (h0 : 0 ≤ lo) (h1 : hi ≤ 255) : 0 ≤ ovl lo hi a b ∧ ovl lo hi a b ≤ 256 := by
  unfold ovl; split <;> omega
theorem seg_ovl (lo hi b a z : Int) (hz : a ≤ z) (h : b ≤ hi + 1 ∨ b = lo) (h2 : hi < b) (h3 : lo ≤ b) :
    min (max (b - a) 0) (z - a + 1) - min (max (lo - a) 0) (z - a + 1) = ovl lo hi a z := by
  unfold ovl; rcases h with h | h <;> split <;> omega
theorem pre_ovl (lo hi b : Int) (h : b ≤ hi + 1 ∨ b = lo) (h2 : hi < b) (h3 : lo ≤ b) :
    pre b - pre lo = ovl lo hi 48 57 + ovl lo hi 65 90 + ovl lo hi 97 122 := by
  rw [← seg_ovl lo hi b 48 57 (by omega) h h2 h3, ← seg_ovl lo hi b 65 90 (by omega) h h2 h3, ← seg_ovl lo hi b 97 122 (by omega) h h2 h3]
  unfold pre
  simp only [show (57 : Int) - 48 + 1 = 10 from rfl, show (90 : Int) - 65 + 1 = 26 from rfl, show (122 : Int) - 97 + 1 = 26 from rfl]
  generalize min (max (b - 48) 0) 10 = x1
  generalize min (max (b - 65) 0) 26 = x2
  generalize min (max (b - 97) 0) 26 = x3
  omega

theorem ovl6 (lo hi a b : Int) (w : World) (h0 : 0 ≤ lo) (h1 : hi ≤ 255) (h2 : 0 ≤ hi) (h3 : lo ≤ 255) (a0 : 0 ≤ a) (a1 : a ≤ 255) (b0 : 0 ≤ b) (b1 : b ≤ 255) :
    Calls Try.prog 6 #[.int .i64 lo, .int .i64 hi, .int .i64 a, .int .i64 b] w fun e w' => e = .returned (.int .i64 (ovl lo hi a b)) ∧ w' = w := by
  by_cases c1 : lo < a <;> by_cases c2 : b < hi
  · by_cases c3 : b < a
    · rw [show ovl lo hi a b = 0 from by unfold ovl; split <;> omega]
      go_enter Try.func6, Try.ntmps6
      go_wp2
      go_ret
      exact ⟨rfl, rfl⟩
    · rw [show ovl lo hi a b = b - a + 1 from by unfold ovl; split <;> omega]
      go_enter Try.func6, Try.ntmps6
      go_wp2
      go_ret
      exact ⟨rfl, rfl⟩
  · by_cases c3 : hi < a
    · rw [show ovl lo hi a b = 0 from by unfold ovl; split <;> omega]
      go_enter Try.func6, Try.ntmps6
      go_wp2
      go_ret
      exact ⟨rfl, rfl⟩
    · rw [show ovl lo hi a b = hi - a + 1 from by unfold ovl; split <;> omega]
      go_enter Try.func6, Try.ntmps6
      go_wp2
      go_ret
      exact ⟨rfl, rfl⟩
  · by_cases c3 : b < lo
    · rw [show ovl lo hi a b = 0 from by unfold ovl; split <;> omega]
      go_enter Try.func6, Try.ntmps6
      go_wp2
      go_ret
      exact ⟨rfl, rfl⟩
    · rw [show ovl lo hi a b = b - lo + 1 from by unfold ovl; split <;> omega]
      go_enter Try.func6, Try.ntmps6
      go_wp2
      go_ret
      exact ⟨rfl, rfl⟩
  · by_cases c3 : hi < lo
    · rw [show ovl lo hi a b = 0 from by unfold ovl; split <;> omega]
      go_enter Try.func6, Try.ntmps6
      go_wp2
      go_ret
      exact ⟨rfl, rfl⟩
    · rw [show ovl lo hi a b = hi - lo + 1 from by unfold ovl; split <;> omega]
      go_enter Try.func6, Try.ntmps6
      go_wp2
      go_ret
      exact ⟨rfl, rfl⟩

theorem walk (a0 : Int) (a1 : Int) (w0 : (Lit.int .u8 a0).wf = true) (w1 : (Lit.int .u8 a1).wf = true) (w : World) :
    Calls Try.prog 4 #[.int .u8 a0, .int .u8 a1] w fun e w' => e = .returned (.bool true) ∧ Grown w w' := by
  obtain ⟨h0, h1⟩ := Go.bounds_u8 w0
  obtain ⟨h2, h3⟩ := Go.bounds_u8 w1
  clear w0 w1
  go_enter Try.func4, Try.ntmps4
  go_wp2
  go_loop [5, 6] (fun t i => ∃ b : Int, a0 ≤ b ∧ (b ≤ a1 + 1 ∨ b = a0) ∧ i = .int .i64 b ∧ t = .int .i64 (pre b - pre a0)) (fun _ i => (256 - intOf i).toNat)
  case atStart => exact ⟨a0, by omega, Or.inr rfl, rfl, by rw [Int.sub_self]⟩
  case round =>
    obtain ⟨b, hb1, hb2, rfl, rfl⟩ := hrel
    have p0 := pre_bd b
    have p1 := pre_bd a0
    by_cases hlt : b ≤ a1
    · cases hal : alnB b with
      | true =>
        have HS : Hid (pre (b + 1) = pre b + 1) := pre_yes b hal
        clear hb2
        go_wp2_with (go_at_call 5; refine (aln5 _ _).mono ?_; rintro e w' ⟨rfl, rfl⟩)
        go_round
        case rel => exact ⟨b + 1, by omega, Or.inl (by omega), rfl, by rw [HS.out]; go_num⟩
        case measure => simp [intOf]; omega
      | false =>
        have HS : Hid (pre (b + 1) = pre b) := pre_no b hal
        clear hb2
        go_wp2_with (go_at_call 5; refine (aln5 _ _).mono ?_; rintro e w' ⟨rfl, rfl⟩)
        go_round
        case rel => exact ⟨b + 1, by omega, Or.inl (by omega), rfl, by rw [HS.out]⟩
        case measure => simp [intOf]; omega
    · have HP : Hid (pre b - pre a0 = ovl a0 a1 48 57 + ovl a0 a1 65 90 + ovl a0 a1 97 122) := pre_ovl a0 a1 b hb2 (by omega) hb1
      have o1 := ovl_bd a0 a1 48 57 h0 h3
      have o2 := ovl_bd a0 a1 65 90 h0 h3
      have o3 := ovl_bd a0 a1 97 122 h0 h3
      clear hb2
      go_wp2_with (go_at_call 6; refine (ovl6 _ _ _ _ _ (by omega) (by omega) (by omega) (by omega) (by omega) (by omega) (by omega) (by omega)).mono ?_; rintro e w' ⟨rfl, rfl⟩)
      go_ret
      refine ⟨?_, Grown.refl _⟩
      rw [HP.out]; simp

/-! ### THE ROW's STEP: WRITTEN OUT: LEAVE IT -/
set_option maxRecDepth 100000 in
theorem lifted (os : Os) (started : os.Started) (H : Type) (enc : TypeId × Value → H) :
    ReturnsInHanded {} Try.checked os 4 .any (Rows.fnIsAlnumCountsByIntervalsSpec.pre6 enc Try.prog Try.f4 Rows.fnIsAlnumCountsByIntervalsRow.domain false) (Rows.fnIsAlnumCountsByIntervalsSpec.post enc Try.prog Try.f4 false true false false) := by
  refine returnsInHanded_of_change (C := Try.checked) own started (by kernel_rfl) Try.func4
    (ChangeSpec.witness6 (enc := enc) (C := Try.checked) false ⟨#[], #[.int .u8 0, .int .u8 0], []⟩ 8 (by kernel_rfl) (by kernel_rfl) (by kernel_rfl) (by kernel_rfl)) ?_
  intro W base args ds gs before hval0 hW hcnd _
  have hval : ∀ (j : Nat) t v, Try.f4.params[j]? = some t → args[j]? = some v → Value.okWide Try.prog W .any base t v := hval0
  have hW' := hW
  obtain ⟨p, q, hA0, hV, rfl, hfz, hnd⟩ := hW
  have hA : DataW.TrodAll enc Try.prog W 0 (fun _ => true) true Try.f4.params.toList args.toList ds p := hA0
  rw [Try.params4] at hA hval
  obtain ⟨v0, vs0, d0, ds0, p0, q0, hargs, rfl, rfl, h0, r0⟩ := trodAll_cons hA
  obtain ⟨v1, vs1, d1, ds1, p1, q1, rfl, rfl, rfl, h1, r1⟩ := trodAll_cons r0
  obtain ⟨rfl, rfl, rfl⟩ := trodAll_nil r1
  obtain rfl : args = #[v0, v1] := by cases args; simp_all
  obtain ⟨rfl, rfl⟩ := trodVars_none hV
  obtain ⟨a0, rfl, rfl, rfl, w0⟩ := open_int Try.underlying5 (hval 0 5 v0 rfl rfl) h0
  obtain ⟨a1, rfl, rfl, rfl, w1⟩ := open_int Try.underlying5 (hval 1 5 v1 rfl rfl) h1
  clear hA0 hval0
  simp only [List.append_nil] at hW'
  refine (walk a0 a1 w0 w1 W).mono fun e W' ⟨he, hg⟩ => ?_
  subst he
  exact ⟨_, rfl, post_of_same (pa := []) (pv := []) hW' (fun _ _ _ => (trodAll_cons_mk (shut_bool Try.underlying4 _) trodAll_mk0)) (fun sp _ => (trodAll_cons_mk (shut_int Try.underlying5 w0) (trodAll_cons_mk (shut_int Try.underlying5 w1) trodAll_mk0))) (fun _ _ => rfl) rfl
    (hg.frame _) hg.2.1 (ok_one (by kernel_rfl) rfl (okWide_bool_mk Try.underlying4 _))⟩

theorem over : Rows.fnIsAlnumCountsByIntervalsRow.holds Try.pinned (OpenSpec.ofChange Rows.fnIsAlnumCountsByIntervalsSpec) :=
  OpenClaim.holds_of_wide 4 Try.f4 rfl rfl rfl rfl rfl rfl rfl ⟨rfl, rfl, rfl, rfl, rfl⟩ rfl rfl rfl rfl rfl (by kernel_rfl) Try.func4 (by kernel_rfl)
    (of_decide_eq_true (by kernel_rfl)) (by unfold Func.isWrapper; first | (rw [if_pos (by decide +kernel)]; kernel_rfl) | (rw [if_neg (by decide +kernel)]; exact ⟨rfl, rfl⟩))
    (fun os started H enc _ => lifted os started H enc)

/-- ████ THE STATEMENT ████ -/
theorem proved : Rows.FnIsAlnumCountsByIntervalsSaid :=
  over
end Go.Proofs.Qxb6609431a.fnIsAlnumCountsByIntervals
