/-
  OWN TEXT of this seat: what (*messageIndex).headerAddress answers.
-/
import Derived.Test.Qxb6609530aDoorAddr
import Derived.Laws.Cover3
namespace Go.Proofs.Qxb6609530aDoor
open Go.RowKit
set_option maxHeartbeats 400000 in
theorem head4 (k : Nat) (a b c d : Int) (mb bb : Nat) (len cap : Nat) (p4 : Addr) (w : World) (hz : 2 < w.heap.size) (hg : w.cell? ⟨1, 0, none⟩ = some (.pointer (some p4)))
    (hm : w.cell? ⟨mb, 0, none⟩ = some (.slice (some ⟨bb, 0, none⟩) len cap)) (hmz : mb < w.heap.size) (hbz : bb < w.heap.size) (hk : k + 4 ≤ len) (hl : len ≤ cap)
    (c0 : w.cell? ⟨bb, k, none⟩ = some (.int .u8 a)) (c1 : w.cell? ⟨bb, k + 1, none⟩ = some (.int .u8 b)) (c2 : w.cell? ⟨bb, k + 2, none⟩ = some (.int .u8 c)) (c3 : w.cell? ⟨bb, k + 3, none⟩ = some (.int .u8 d))
    (ha0 : 0 ≤ a) (ha1 : a ≤ 255) (hb0 : 0 ≤ b) (hb1 : b ≤ 255) (hc0 : 0 ≤ c) (hc1 : c ≤ 255) (hd0 : 0 ≤ d) (hd1 : d ≤ 255) :
    Calls Tryd.prog 15 #[.pointer (some ⟨mb, 0, none⟩), .int .i64 k] w fun e w' => e = .returned (.agg #[.int .u64 0, .int .u64 (lo4 a b c d), .pointer (some p4)]) ∧ Below w.heap.size w w' := by
  have z0 : 1 < w.heap.size := by omega
  have ar := fun W => run_arrayAt (P := Tryd.prog) W 23 5 4 (some ⟨bb, k, none⟩) (len - k) (cap - k) Tryd.underlying23 (by omega)
  go_enter Tryd.func15, Tryd.ntmps15
  go_wp2_with fail
  refine (from4 a b c d p4 _ ?_ ?_ ha0 ha1 hb0 hb1 hc0 hc1 hd0 hd1).mono ?_
  · simp; omega
  · go_simp
  rintro e w1 ⟨rfl, hb⟩
  obtain ⟨hc, hf⟩ := bcell hb
  have hz1 : w.heap.size < w1.heap.size := by have := hb.size; simp at this; omega
  go_wp2
  refine bodyPost_ret (v := .agg #[.int .u64 0, .int .u64 (lo4 a b c d), .pointer (some p4)]) (by simp [results, Tryd.results15, go_sem, hc]) rfl ⟨rfl, ?_⟩
  exact (((((Below.refl _ _).alloc (Nat.le_refl _) _).trans (hb.mono (by simp))).setCell (Nat.le_refl _) _).setCell (Nat.le_refl _) _).setCell (Nat.le_refl _) _


end Go.Proofs.Qxb6609530aDoor
