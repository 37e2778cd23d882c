/-
  THE PROOF of 'Rows.FnIsWordCharIsMembershipInTheWordSetSaid': the frame by the kit's proof-skeleton.mjs for this program; the walk is this seat's own.
-/
import Derived.Test.Qxb6612251aRows
import Derived.Test.Qxb6612251aWord
import Derived.WalkKit
import Derived.ProofKit
import Derived.OpenShut
import Derived.ShutString
namespace Go.Proofs.Qxb6612251a.fnIsWordCharIsMembershipInTheWordSet
open Go.ChangeShapes Go.WideShapes Go.ChangeAt Go.RowKit
open Go.ChangeMaps (open_string shut_string)
set_option linter.unusedVariables false      -- a walk need not use every 'w<i>' (that an integer argument fits its kind)

theorem own : ownKnob Try.prog.godebug = none := by kernel_rfl

/-! ### STEP 1: THE WALK: the Go text returns true. 'Grown w w'': the world has at most new blocks (Derived/RowKit3.lean). Part the cases AHEAD of 'go_enter' where a test parts the walk; take each callee by a contract of your own. -/
/-- the table of the law's text -/
def tblB : ByteArray := { data := #[97, 98, 99, 100, 101, 102, 103, 104, 105, 106, 107, 108, 109, 110, 111, 112, 113, 114, 115, 116, 117, 118, 119, 120, 121, 122, 65, 66, 67, 68, 69, 70, 71, 72, 73, 74, 75, 76, 77, 78, 79, 80, 81, 82, 83, 84, 85, 86, 87, 88, 89, 90, 48, 49, 50, 51, 52, 53, 54, 55, 56, 57, 45] }
def tbl : List Int := tblB.data.toList.map fun c => (c.toNat : Int)
/-- is a among the table's first k bytes? -/
def memB (k : Nat) (a : Int) : Bool := (tbl.take k).any fun x => x == a
theorem memB_succ (k : Nat) (a : Int) (h : k < 63) : memB (k + 1) a = (memB k a || ((tblB[k]'h).toNat : Int) == a) := by
  have hl : k < tbl.length := h
  unfold memB
  rw [List.take_succ_eq_append_getElem hl, List.any_append]
  congr 1
  simp only [List.any_cons, List.any_nil, Bool.or_false]
  congr 1
  simp only [tbl, List.getElem_map]
  rfl
theorem memB_all (n : Fin 256) : memB 63 (n.val : Int) = wordB (n.val : Int) := by
  revert n; decide +kernel
theorem mem_is_word (a : Int) (h : 0 ≤ a ∧ a ≤ 255) : memB 63 a = wordB a := by
  have := memB_all ⟨a.toNat, by omega⟩
  simp only at this
  rwa [show ((a.toNat : Nat) : Int) = a from by omega] at this

theorem walk (a0 : Int) (w0 : (Lit.int .u8 a0).wf = true) (w : World) :
    Calls Try.prog 3 #[.int .u8 a0] w fun e w' => e = .returned (.bool true) ∧ Grown w w' := by
  have hb := Go.bounds_u8 w0
  go_enter Try.func3, Try.ntmps3
  go_wp2
  go_loop [3, 4] (fun t i => ∃ k : Nat, k ≤ 63 ∧ i = .int .i64 k ∧ t = .bool (memB k a0)) (fun _ i => 63 - (intOf i).toNat)
  case atStart => exact ⟨0, Nat.zero_le _, rfl, rfl⟩
  case round =>
    obtain ⟨k, hk, rfl, rfl⟩ := hrel
    by_cases hlt : k < 63
    · have HS : Hid (memB (k + 1) a0 = (memB k a0 || ((tblB[k]'hlt).toNat : Int) == a0)) := memB_succ k a0 hlt
      go_wp2
      · have ht : (((tblB[k]'hlt).toNat : Int) == a0) = true := by assumption
        go_round
        case rel => exact ⟨k + 1, by omega, by go_num, by rw [HS.out, ht]; simp⟩
        case measure => simp [intOf]; omega
      · have ht : (((tblB[k]'hlt).toNat : Int) == a0) = false := by assumption
        go_round
        case rel => exact ⟨k + 1, by omega, by go_num, by rw [HS.out, ht]; simp⟩
        case measure => simp [intOf]; omega
    · obtain rfl : k = 63 := by omega
      go_wp2_with (go_at_call 5; refine (word5 _ _).mono ?_; rintro e w' ⟨rfl, rfl⟩)
      go_ret
      refine ⟨?_, Grown.refl _⟩
      rw [mem_is_word a0 hb]; simp

/-! ### THE ROW's STEP: WRITTEN OUT: LEAVE IT -/
set_option maxRecDepth 100000 in
theorem lifted (os : Os) (started : os.Started) (H : Type) (enc : TypeId × Value → H) :
    ReturnsInHanded {} Try.checked os 3 .any (Rows.fnIsWordCharIsMembershipInTheWordSetSpec.pre6 enc Try.prog Try.f3 Rows.fnIsWordCharIsMembershipInTheWordSetRow.domain false) (Rows.fnIsWordCharIsMembershipInTheWordSetSpec.post enc Try.prog Try.f3 false true false false) := by
  refine returnsInHanded_of_change (C := Try.checked) own started (by kernel_rfl) Try.func3
    (ChangeSpec.witness6 (enc := enc) (C := Try.checked) false ⟨#[], #[.int .u8 0], []⟩ 8 (by kernel_rfl) (by kernel_rfl) (by kernel_rfl) (by kernel_rfl)) ?_
  intro W base args ds gs before hval0 hW hcnd _
  have hval : ∀ (j : Nat) t v, Try.f3.params[j]? = some t → args[j]? = some v → Value.okWide Try.prog W .any base t v := hval0
  have hW' := hW
  obtain ⟨p, q, hA0, hV, rfl, hfz, hnd⟩ := hW
  have hA : DataW.TrodAll enc Try.prog W 0 (fun _ => true) true Try.f3.params.toList args.toList ds p := hA0
  rw [Try.params3] at hA hval
  obtain ⟨v0, vs0, d0, ds0, p0, q0, hargs, rfl, rfl, h0, r0⟩ := trodAll_cons hA
  obtain ⟨rfl, rfl, rfl⟩ := trodAll_nil r0
  obtain rfl : args = #[v0] := by cases args; simp_all
  obtain ⟨rfl, rfl⟩ := trodVars_none hV
  obtain ⟨a0, rfl, rfl, rfl, w0⟩ := open_int Try.underlying5 (hval 0 5 v0 rfl rfl) h0
  clear hA0 hval0
  simp only [List.append_nil] at hW'
  refine (walk a0 w0 W).mono fun e W' ⟨he, hg⟩ => ?_
  subst he
  exact ⟨_, rfl, post_of_same (pa := []) (pv := []) hW' (fun _ _ _ => (trodAll_cons_mk (shut_bool Try.underlying4 _) trodAll_mk0)) (fun sp _ => (trodAll_cons_mk (shut_int Try.underlying5 w0) trodAll_mk0)) (fun _ _ => rfl) rfl
    (hg.frame _) hg.2.1 (ok_one (by kernel_rfl) rfl (okWide_bool_mk Try.underlying4 _))⟩

theorem over : Rows.fnIsWordCharIsMembershipInTheWordSetRow.holds Try.pinned (OpenSpec.ofChange Rows.fnIsWordCharIsMembershipInTheWordSetSpec) :=
  OpenClaim.holds_of_wide 3 Try.f3 rfl rfl rfl rfl rfl rfl rfl ⟨rfl, rfl, rfl, rfl, rfl⟩ rfl rfl rfl rfl rfl (by kernel_rfl) Try.func3 (by kernel_rfl)
    (of_decide_eq_true (by kernel_rfl)) (by unfold Func.isWrapper; first | (rw [if_pos (by decide +kernel)]; kernel_rfl) | (rw [if_neg (by decide +kernel)]; exact ⟨rfl, rfl⟩))
    (fun os started H enc _ => lifted os started H enc)

/-- ████ THE STATEMENT ████ -/
theorem proved : Rows.FnIsWordCharIsMembershipInTheWordSetSaid :=
  over
end Go.Proofs.Qxb6612251a.fnIsWordCharIsMembershipInTheWordSet
