/-
  THE PROOF of 'Rows.FnIsWordCharCountsSixtyThreeASCIIBytesSaid': the frame by the kit's proof-skeleton.mjs for this program; the walk is this seat's own.
-/
import Derived.Test.Qxb6612251aRows
import Derived.Test.Qxb6612251aWord
import Derived.WalkKit
import Derived.ProofKit
import Derived.OpenShut
import Derived.ShutString
namespace Go.Proofs.Qxb6612251a.fnIsWordCharCountsSixtyThreeASCIIBytes
open Go.ChangeShapes Go.WideShapes Go.ChangeAt Go.RowKit
open Go.ChangeMaps (open_string shut_string)
set_option linter.unusedVariables false      -- a walk need not use every 'w<i>' (that an integer argument fits its kind)

theorem own : ownKnob Try.prog.godebug = none := by kernel_rfl

/-! ### STEP 1: THE WALK: the Go text returns true. 'Grown w w'': the world has at most new blocks (Derived/RowKit3.lean). Part the cases AHEAD of 'go_enter' where a test parts the walk; take each callee by a contract of your own. -/
/-- how many word characters lie below n -/
def pre (n : Int) : Int := min (max (n - 45) 0) 1 + min (max (n - 48) 0) 10 + min (max (n - 65) 0) 26 + min (max (n - 97) 0) 26
theorem pre_yes (n : Int) (h : wordB n = true) : pre (n + 1) = pre n + 1 ∧ n < 128 := by
  have h := of_decide_eq_true h
  unfold pre; omega
theorem pre_no (n : Int) (h : wordB n = false) : pre (n + 1) = pre n := by
  have h := of_decide_eq_false h
  unfold pre; omega
theorem pre_bd (n : Int) : 0 ≤ pre n ∧ pre n ≤ 63 := by unfold pre; omega
theorem pre_end : pre 256 = 63 := by decide
theorem dash : wordB 45 = true := by decide
theorem under : wordB 95 = false := by decide
theorem blank : wordB 32 = false := by decide

theorem walk  (w : World) :
    Calls Try.prog 4 #[] w fun e w' => e = .returned (.bool true) ∧ Grown w w' := by
  go_enter Try.func4, Try.ntmps4
  go_wp2
  go_loop [1, 2, 3] (fun c h i => ∃ k : Int, 0 ≤ k ∧ k ≤ 256 ∧ i = .int .i64 k ∧ h = .bool false ∧ c = .int .i64 (pre k)) (fun _ _ i => (256 - intOf i).toNat)
  case atStart => exact ⟨0, by omega, by omega, rfl, rfl, rfl⟩
  case round =>
    obtain ⟨k, hk0, hk1, rfl, rfl, rfl⟩ := hrel
    have p0 := pre_bd k
    by_cases hlt : k < 256
    · cases hal : wordB k with
      | true =>
        have HS : Hid (pre (k + 1) = pre k + 1) := (pre_yes k hal).1
        have hk := (pre_yes k hal).2
        go_wp2_with (go_at_call 5; refine (word5 _ _).mono ?_; rintro e w' ⟨rfl, rfl⟩)
        go_round
        case rel => exact ⟨k + 1, by omega, by omega, rfl, rfl, by rw [HS.out]⟩
        case measure => simp [intOf]; omega
      | false =>
        have HS : Hid (pre (k + 1) = pre k) := pre_no k hal
        go_wp2_with (go_at_call 5; refine (word5 _ _).mono ?_; rintro e w' ⟨rfl, rfl⟩)
        go_round
        case rel => exact ⟨k + 1, by omega, by omega, rfl, rfl, by rw [HS.out]⟩
        case measure => simp [intOf]; omega
    · obtain rfl : k = 256 := by omega
      have e := pre_end
      have c1 := dash
      have c2 := under
      have c3 := blank
      go_wp2_with (go_at_call 5; refine (word5 _ _).mono ?_; rintro e w' ⟨rfl, rfl⟩)
      go_ret
      exact ⟨rfl, Grown.refl _⟩

/-! ### THE ROW's STEP: WRITTEN OUT: LEAVE IT -/
set_option maxRecDepth 100000 in
theorem lifted (os : Os) (started : os.Started) (H : Type) (enc : TypeId × Value → H) :
    ReturnsInHanded {} Try.checked os 4 .any (Rows.fnIsWordCharCountsSixtyThreeASCIIBytesSpec.pre6 enc Try.prog Try.f4 Rows.fnIsWordCharCountsSixtyThreeASCIIBytesRow.domain false) (Rows.fnIsWordCharCountsSixtyThreeASCIIBytesSpec.post enc Try.prog Try.f4 false true false false) := by
  refine returnsInHanded_of_change (C := Try.checked) own started (by kernel_rfl) Try.func4
    (ChangeSpec.witness6 (enc := enc) (C := Try.checked) false ⟨#[], #[], []⟩ 8 (by kernel_rfl) (by kernel_rfl) (by kernel_rfl) (by kernel_rfl)) ?_
  intro W base args ds gs before hval0 hW hcnd _
  have hval : ∀ (j : Nat) t v, Try.f4.params[j]? = some t → args[j]? = some v → Value.okWide Try.prog W .any base t v := hval0
  have hW' := hW
  obtain ⟨p, q, hA0, hV, rfl, hfz, hnd⟩ := hW
  have hA : DataW.TrodAll enc Try.prog W 0 (fun _ => true) true Try.f4.params.toList args.toList ds p := hA0
  rw [Try.params4] at hA hval
  obtain ⟨rfl, rfl, rfl⟩ := trodAll_none hA
  obtain ⟨rfl, rfl⟩ := trodVars_none hV
  clear hA0 hval0
  simp only [List.append_nil] at hW'
  refine (walk  W).mono fun e W' ⟨he, hg⟩ => ?_
  subst he
  exact ⟨_, rfl, post_of_same (pa := []) (pv := []) hW' (fun _ _ _ => (trodAll_cons_mk (shut_bool Try.underlying4 _) trodAll_mk0)) (fun sp _ => rfl) (fun _ _ => rfl) rfl
    (hg.frame _) hg.2.1 (ok_one (by kernel_rfl) rfl (okWide_bool_mk Try.underlying4 _))⟩

theorem over : Rows.fnIsWordCharCountsSixtyThreeASCIIBytesRow.holds Try.pinned (OpenSpec.ofChange Rows.fnIsWordCharCountsSixtyThreeASCIIBytesSpec) :=
  OpenClaim.holds_of_wide 4 Try.f4 rfl rfl rfl rfl rfl rfl rfl ⟨rfl, rfl, rfl, rfl, rfl⟩ rfl rfl rfl rfl rfl (by kernel_rfl) Try.func4 (by kernel_rfl)
    (of_decide_eq_true (by kernel_rfl)) (by unfold Func.isWrapper; first | (rw [if_pos (by decide +kernel)]; kernel_rfl) | (rw [if_neg (by decide +kernel)]; exact ⟨rfl, rfl⟩))
    (fun os started H enc _ => lifted os started H enc)

/-- ████ THE STATEMENT ████ -/
theorem proved : Rows.FnIsWordCharCountsSixtyThreeASCIIBytesSaid :=
  over
end Go.Proofs.Qxb6612251a.fnIsWordCharCountsSixtyThreeASCIIBytes
