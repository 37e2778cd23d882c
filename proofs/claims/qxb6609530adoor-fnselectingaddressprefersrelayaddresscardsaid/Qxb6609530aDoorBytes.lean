/-
  OWN TEXT of this seat: what (netip.Addr).AsSlice answers at the zero address and at an IPv4 address.
-/
import Derived.Test.Qxb6609530aDoorUnspec
import Derived.Deep.RegionWith
namespace Go.Proofs.Qxb6609530aDoor
open Go.RowKit
set_option maxHeartbeats 400000 in
theorem put32 (v : Int) (nb : Nat) (x0 x1 x2 x3 : Int) (w : World)
    (c0 : w.cell? ⟨nb, 0, none⟩ = some (.int .u8 x0)) (c1 : w.cell? ⟨nb, 1, none⟩ = some (.int .u8 x1)) (c2 : w.cell? ⟨nb, 2, none⟩ = some (.int .u8 x2)) (c3 : w.cell? ⟨nb, 3, none⟩ = some (.int .u8 x3))
    (f0 : w.frozen? ⟨nb, 0, none⟩ = false) (f1 : w.frozen? ⟨nb, 1, none⟩ = false) (f2 : w.frozen? ⟨nb, 2, none⟩ = false) (f3 : w.frozen? ⟨nb, 3, none⟩ = false)
    (hv0 : 0 ≤ v) (hv1 : v ≤ 4294967295) :
    Calls Tryd.prog 18 #[.slice (some ⟨nb, 0, none⟩) 4 4, .int .u32 v] w fun e w' => e = .returned (.tuple #[]) ∧
      (((w.setCell ⟨nb, 0, none⟩ (.int .u8 (v / 16777216))).setCell ⟨nb, 1, none⟩ (.int .u8 (v / 65536 % 256))).setCell ⟨nb, 2, none⟩ (.int .u8 (v / 256 % 256))).setCell ⟨nb, 3, none⟩ (.int .u8 (v % 256)) = w' := by
  go_enter Tryd.func18, Tryd.ntmps18
  go_wp2
  go_end0
  exact ⟨rfl, rfl⟩
theorem ptr_nil (p : Option Addr) (w : World) (d : Nat) : (Op.equalIn (d + 1) 37 (.pointer p) (.pointer none)).run Tryd.prog w = .ok p.isNone w := by
  cases p <;> simp [Op.equalIn, run_underlying und37, sizeOf, typeInfo]
set_option maxHeartbeats 400000 in
theorem as0 (w : World) (hz : 2 < w.heap.size) (h0 : w.cell? ⟨0, 0, none⟩ = some (.pointer none)) :
    Calls Tryd.prog 14 #[.agg #[.int .u64 0, .int .u64 0, .pointer none]] w fun e w' => e = .returned (.slice none 0 0) ∧ Below w.heap.size w w' := by
  have z0 : 0 < w.heap.size := by omega
  have n := fun W => ptr_nil none W 9998
  go_enter Tryd.func14, Tryd.ntmps14
  go_wp2
  go_ret
  exact ⟨rfl, (Below.refl _ _).alloc (Nat.le_refl _) _⟩
set_option maxHeartbeats 400000 in
theorem as4 (lo : Int) (p4 : Addr) (w : World) (hz : 2 < w.heap.size) (h0 : w.cell? ⟨0, 0, none⟩ = some (.pointer none)) (hg : w.cell? ⟨1, 0, none⟩ = some (.pointer (some p4)))
    :
    Calls Tryd.prog 14 #[.agg #[.int .u64 0, .int .u64 lo, .pointer (some p4)]] w fun e w' => e = .returned (.slice (some ⟨w.heap.size + 1, 0, none⟩) 4 4) ∧ Below w.heap.size w w' ∧ w.heap.size + 1 < w'.heap.size ∧
      w'.cell? ⟨w.heap.size + 1, 0, none⟩ = some (.int .u8 (lo % 4294967296 / 16777216)) ∧ w'.cell? ⟨w.heap.size + 1, 1, none⟩ = some (.int .u8 (lo % 4294967296 / 65536 % 256)) ∧
      w'.cell? ⟨w.heap.size + 1, 2, none⟩ = some (.int .u8 (lo % 4294967296 / 256 % 256)) ∧ w'.cell? ⟨w.heap.size + 1, 3, none⟩ = some (.int .u8 (lo % 4294967296 % 256)) := by
  have z0 : 0 < w.heap.size := by omega
  have z1 : 1 < w.heap.size := by omega
  have z2 : 1 < w.heap.size + 1 := by omega
  have q := fun W => ptr_same p4 W 9998
  have n := fun W => ptr_nil (some p4) W 9998
  have u0 : 0 ≤ IntKind.u32.wrap lo := by rw [IntKind.wrap_u32]; omega
  have u1 : IntKind.u32.wrap lo ≤ 4294967295 := by rw [IntKind.wrap_u32]; omega
  go_enter Tryd.func14, Tryd.ntmps14
  go_wp2
  go_region_with (go_at_call 18; refine (put32 _ _ 0 0 0 0 _ ?c0 ?c1 ?c2 ?c3 ?f0 ?f1 ?f2 ?f3 ?v0 ?v1).mono ?_; (case c0 => go_simp); (case c1 => go_simp); (case c2 => go_simp); (case c3 => go_simp); (case f0 => go_simp); (case f1 => go_simp); (case f2 => go_simp); (case f3 => go_simp); (case v0 => omega); (case v1 => omega); (rintro e w1 ⟨rfl, rfl⟩))
  all_goals
    go_wp2
    go_ret
    exact ⟨rfl, (((Below.refl _ _).alloc (Nat.le_refl _) _).alloc (by simp) _).drew, by simp, by go_simp, by go_simp, by go_simp, by go_simp⟩

/-- the four bytes again -/
theorem as4b (a b c d : Int) (p4 : Addr) (w : World) (hz : 2 < w.heap.size) (h0 : w.cell? ⟨0, 0, none⟩ = some (.pointer none)) (hg : w.cell? ⟨1, 0, none⟩ = some (.pointer (some p4)))
    (ha0 : 0 ≤ a) (ha1 : a ≤ 255) (hb0 : 0 ≤ b) (hb1 : b ≤ 255) (hc0 : 0 ≤ c) (hc1 : c ≤ 255) (hd0 : 0 ≤ d) (hd1 : d ≤ 255) :
    Calls Tryd.prog 14 #[.agg #[.int .u64 0, .int .u64 (lo4 a b c d), .pointer (some p4)]] w fun e w' => ∃ nb, e = .returned (.slice (some ⟨nb, 0, none⟩) 4 4) ∧ Below w.heap.size w w' ∧ w.heap.size ≤ nb ∧ nb < w'.heap.size ∧
      w'.cell? ⟨nb, 0, none⟩ = some (.int .u8 a) ∧ w'.cell? ⟨nb, 1, none⟩ = some (.int .u8 b) ∧ w'.cell? ⟨nb, 2, none⟩ = some (.int .u8 c) ∧ w'.cell? ⟨nb, 3, none⟩ = some (.int .u8 d) := by
  have e0 : lo4 a b c d % 4294967296 / 16777216 = a := by unfold lo4; omega
  have e1 : lo4 a b c d % 4294967296 / 65536 % 256 = b := by unfold lo4; omega
  have e2 : lo4 a b c d % 4294967296 / 256 % 256 = c := by unfold lo4; omega
  have e3 : lo4 a b c d % 4294967296 % 256 = d := by unfold lo4; omega
  refine (as4 (lo4 a b c d) p4 w hz h0 hg).mono ?_
  rintro e w' ⟨he, hb, hs, k0, k1, k2, k3⟩
  rw [e0] at k0; rw [e1] at k1; rw [e2] at k2; rw [e3] at k3
  exact ⟨_, he, hb, by omega, hs, k0, k1, k2, k3⟩

end Go.Proofs.Qxb6609530aDoor
