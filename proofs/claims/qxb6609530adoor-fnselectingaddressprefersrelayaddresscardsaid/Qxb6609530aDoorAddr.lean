/-
  OWN TEXT of this seat: what netip.AddrFrom4, IPv4Unspecified, IPv6Unspecified answer, in a world whose variables z4, z6noz hold pointers p4, p6.
-/
import Derived.Test.Qxb6609530aDoorRows
import Derived.Test.Qxb6609530aDoorBits
import Derived.WalkKit
namespace Go.Proofs.Qxb6609530aDoor
open Go.RowKit

theorem bcell {W w1 : World} (hb : Below W.heap.size W w1) : (∀ b o, b < W.heap.size → w1.cell? ⟨b, o, none⟩ = W.cell? ⟨b, o, none⟩) ∧ (∀ b o, b < W.heap.size → w1.frozen? ⟨b, o, none⟩ = W.frozen? ⟨b, o, none⟩) :=
  ⟨fun b o h => hb.cell (p := ⟨b, o, none⟩) h, fun b o h => hb.frozen (p := ⟨b, o, none⟩) h⟩

set_option maxHeartbeats 400000 in
theorem from4 (a b c d : Int) (p4 : Addr) (w : World) (hz : 2 < w.heap.size) (hg : w.cell? ⟨1, 0, none⟩ = some (.pointer (some p4)))
    (ha0 : 0 ≤ a) (ha1 : a ≤ 255) (hb0 : 0 ≤ b) (hb1 : b ≤ 255) (hc0 : 0 ≤ c) (hc1 : c ≤ 255) (hd0 : 0 ≤ d) (hd1 : d ≤ 255) :
    Calls Tryd.prog 20 #[.agg #[.int .u8 a, .int .u8 b, .int .u8 c, .int .u8 d]] w fun e w' => e = .returned (.agg #[.int .u64 0, .int .u64 (lo4 a b c d), .pointer (some p4)]) ∧ Below w.heap.size w w' := by
  have H : Hid (bits .or .u64 (bits .or .u64 (bits .or .u64 (bits .or .u64 281470681743360 (a * 16777216)) (b * 65536)) (c * 256)) d = lo4 a b c d) := or4 a b c d ha0 ha1 hb0 hb1 hc0 hc1 hd0 hd1
  have z0 : 1 < w.heap.size := by omega
  have z1 : 1 < w.heap.size + 1 := by omega
  go_enter Tryd.func20, Tryd.ntmps20
  go_wp2
  refine bodyPost_ret (v := .agg #[.int .u64 0, .int .u64 (bits .or .u64 (bits .or .u64 (bits .or .u64 (bits .or .u64 281470681743360 (a * 16777216)) (b * 65536)) (c * 256)) d), .pointer (some p4)]) (by simp [results, Tryd.results20, go_sem]) rfl ⟨by rw [H.out], ?_⟩
  exact ((Below.refl _ _).alloc (Nat.le_refl _) _).alloc (by simp) _

set_option maxHeartbeats 400000 in
theorem unspec4 (p4 : Addr) (w : World) (hz : 2 < w.heap.size) (hg : w.cell? ⟨1, 0, none⟩ = some (.pointer (some p4))) :
    Calls Tryd.prog 21 #[] w fun e w' => e = .returned (.agg #[.int .u64 0, .int .u64 281470681743360, .pointer (some p4)]) ∧ Below w.heap.size w w' := by
  have z0 : 1 < w.heap.size := by omega
  go_enter Tryd.func21, Tryd.ntmps21
  go_wp2_with fail
  refine (from4 0 0 0 0 p4 _ ?_ ?_ (by omega) (by omega) (by omega) (by omega) (by omega) (by omega) (by omega) (by omega)).mono ?_
  · simp; omega
  · go_simp
  rintro e w1 ⟨rfl, hb⟩
  obtain ⟨hc, hf⟩ := bcell hb
  have hz1 : w.heap.size < w1.heap.size := by have := hb.size; simp at this; omega
  go_wp2
  refine bodyPost_ret (v := .agg #[.int .u64 0, .int .u64 (lo4 0 0 0 0), .pointer (some p4)]) (by simp [results, Tryd.results21, go_sem, hc]) rfl ⟨rfl, ?_⟩
  exact (((((Below.refl _ _).alloc (Nat.le_refl _) _).trans (hb.mono (by simp))).setCell (Nat.le_refl _) _).setCell (Nat.le_refl _) _).setCell (Nat.le_refl _) _

set_option maxHeartbeats 400000 in
theorem unspec6 (p6 : Addr) (w : World) (hz : 2 < w.heap.size) (hg : w.cell? ⟨2, 0, none⟩ = some (.pointer (some p6))) :
    Calls Tryd.prog 22 #[] w fun e w' => e = .returned (.agg #[.int .u64 0, .int .u64 0, .pointer (some p6)]) ∧ Below w.heap.size w w' := by
  go_enter Tryd.func22, Tryd.ntmps22
  go_wp2
  refine bodyPost_ret (v := .agg #[.int .u64 0, .int .u64 0, .pointer (some p6)]) (by simp [results, Tryd.results22, go_sem]) rfl ⟨rfl, ?_⟩
  exact ((Below.refl _ _).alloc (Nat.le_refl _) _)
end Go.Proofs.Qxb6609530aDoor
