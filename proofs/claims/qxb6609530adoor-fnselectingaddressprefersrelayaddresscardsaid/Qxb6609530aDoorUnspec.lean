/-
  OWN TEXT of this seat: what (netip.Addr).IsUnspecified answers at an IPv4 address.
-/
import Derived.Test.Qxb6609530aDoorAddr
import Derived.Deep.RegionWith
import Derived.LaidEqlPtr
namespace Go.Proofs.Qxb6609530aDoor
open Go.RowKit
theorem info38 : ∃ j, Tryd.prog.info? (Tryd.prog.pointee 37) = some j := Option.isSome_iff_exists.1 (by kernel_rfl)
theorem und37 : Tryd.prog.underlying 37 = some (.pointer (Tryd.prog.pointee 37)) := by kernel_rfl
theorem ptr_same (a : Addr) (w : World) (d : Nat) : (Op.equalIn (d + 1) 37 (.pointer (some a)) (.pointer (some a))).run Tryd.prog w = .ok true w := by
  obtain ⟨j, hj⟩ := info38
  simp [Op.equalIn, run_underlying und37, sizeOf, typeInfo, hj, run_sameAddr_same]
set_option maxHeartbeats 400000 in
theorem isUn_yes (p4 : Addr) (w : World) (hz : 2 < w.heap.size) (hg : w.cell? ⟨1, 0, none⟩ = some (.pointer (some p4))) :
    Calls Tryd.prog 16 #[.agg #[.int .u64 0, .int .u64 281470681743360, .pointer (some p4)]] w fun e w' => e = .returned (.bool true) ∧ Below w.heap.size w w' := by
  have z1 : 1 < w.heap.size := by omega
  have q := fun W => ptr_same p4 W 9997
  go_enter Tryd.func16, Tryd.ntmps16
  go_wp2
  go_region_with (go_at_call 21; refine (unspec4 p4 _ ?hz ?hg).mono ?_; (case hz => (simp; omega)); (case hg => go_simp); (rintro e w1 ⟨rfl, hb⟩; obtain ⟨hc, hf⟩ := bcell hb))
  all_goals
    go_wp2
    go_ret
    exact ⟨rfl, (((Below.refl _ _).alloc (Nat.le_refl _) _).drew).trans (hb.mono (by simp))⟩
set_option maxHeartbeats 400000 in
theorem isUn_no (p4 p6 : Addr) (lo : Int) (w : World) (hz : 2 < w.heap.size) (hg : w.cell? ⟨1, 0, none⟩ = some (.pointer (some p4))) (hg6 : w.cell? ⟨2, 0, none⟩ = some (.pointer (some p6)))
    (n1 : (lo == 281470681743360) = false) (n0 : (lo == 0) = false) :
    Calls Tryd.prog 16 #[.agg #[.int .u64 0, .int .u64 lo, .pointer (some p4)]] w fun e w' => e = .returned (.bool false) ∧ Below w.heap.size w w' := by
  have z1 : 1 < w.heap.size := by omega
  go_enter Tryd.func16, Tryd.ntmps16
  go_wp2
  have z2 : 2 < w.heap.size + 1 := by omega
  go_region_with (first | (go_at_call 21; refine (unspec4 p4 _ ?hz ?hg).mono ?_; (case hz => (simp; omega)); (case hg => go_simp); (rintro e w1 ⟨rfl, hb⟩; obtain ⟨hc, hf⟩ := bcell hb; have hz1 : 2 < w1.heap.size := (by have := hb.size; simp at this; omega); have hz2 : w.heap.size < w1.heap.size := (by have := hb.size; simp at this; omega); have hg1 : w1.cell? ⟨2, 0, none⟩ = some (.pointer (some p6)) := (by rw [hc 2 0 (by simp; omega)]; go_simp))) | (go_at_call 22; refine (unspec6 p6 _ ?hz ?hg).mono ?_; (case hz => assumption); (case hg => assumption); (rintro e w2 ⟨rfl, hb2⟩; obtain ⟨hc2, hf2⟩ := bcell hb2)))
  all_goals
    go_wp2
    go_ret
    have hs := hb.size
    simp at hs
    exact ⟨rfl, ((((Below.refl _ _).alloc (Nat.le_refl _) _).drew).trans (hb.mono (by simp))).trans (hb2.mono (by omega))⟩

end Go.Proofs.Qxb6609530aDoor
