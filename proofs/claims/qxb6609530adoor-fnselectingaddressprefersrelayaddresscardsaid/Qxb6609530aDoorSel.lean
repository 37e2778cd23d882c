/-
  OWN TEXT of this seat: what selectingAddress answers for DHCPv4: giaddr, else ciaddr, else the zero address.
-/
import Derived.Test.Qxb6609530aDoorHead
import Derived.Test.Qxb6609530aDoorBytes
namespace Go.Proofs.Qxb6609530aDoor
open Go.RowKit
/-- what the walks below ask of a world: the three variables of package netip, a message index at mb whose message is the len bytes of block bb -/
structure Ready (w : World) (p4 p6 : Addr) : Prop where
  size : 2 < w.heap.size
  z0 : w.cell? ⟨0, 0, none⟩ = some (.pointer none)
  z4 : w.cell? ⟨1, 0, none⟩ = some (.pointer (some p4))
  z6 : w.cell? ⟨2, 0, none⟩ = some (.pointer (some p6))
theorem Ready.below {w w' : World} {p4 p6 : Addr} (h : Ready w p4 p6) (hb : Below w.heap.size w w') : Ready w' p4 p6 :=
  ⟨by have := hb.size; have := h.size; omega, by rw [hb.cell (p := ⟨0, 0, none⟩) (by have := h.size; simp; omega)]; exact h.z0, by rw [hb.cell (p := ⟨1, 0, none⟩) (by have := h.size; simp; omega)]; exact h.z4, by rw [hb.cell (p := ⟨2, 0, none⟩) (by have := h.size; simp; omega)]; exact h.z6⟩
/-- four bytes at offset k of block bb -/
structure Four (w : World) (bb k : Nat) (a b c d : Int) : Prop where
  c0 : w.cell? ⟨bb, k, none⟩ = some (.int .u8 a)
  c1 : w.cell? ⟨bb, k + 1, none⟩ = some (.int .u8 b)
  c2 : w.cell? ⟨bb, k + 2, none⟩ = some (.int .u8 c)
  c3 : w.cell? ⟨bb, k + 3, none⟩ = some (.int .u8 d)
  a0 : 0 ≤ a
  a1 : a ≤ 255
  b0 : 0 ≤ b
  b1 : b ≤ 255
  e0 : 0 ≤ c
  e1 : c ≤ 255
  d0 : 0 ≤ d
  d1 : d ≤ 255
theorem Four.below {w w' : World} {bb k B : Nat} {a b c d : Int} (h : Four w bb k a b c d) (hb : Below B w w') (hB : bb < B) : Four w' bb k a b c d :=
  ⟨by rw [hb.cell hB]; exact h.c0, by rw [hb.cell hB]; exact h.c1, by rw [hb.cell hB]; exact h.c2, by rw [hb.cell hB]; exact h.c3, h.a0, h.a1, h.b0, h.b1, h.e0, h.e1, h.d0, h.d1⟩
theorem head4' (k : Nat) (a b c d : Int) (mb bb : Nat) (len cap : Nat) (p4 p6 : Addr) (w : World) (hr : Ready w p4 p6)
    (hm : w.cell? ⟨mb, 0, none⟩ = some (.slice (some ⟨bb, 0, none⟩) len cap)) (hk : k + 4 ≤ len) (hl : len ≤ cap) (h4 : Four w bb k a b c d) :
    Calls Tryd.prog 15 #[.pointer (some ⟨mb, 0, none⟩), .int .i64 k] w fun e w' => e = .returned (.agg #[.int .u64 0, .int .u64 (lo4 a b c d), .pointer (some p4)]) ∧ Below w.heap.size w w' :=
  head4 k a b c d mb bb len cap p4 w hr.size hr.z4 hm (World.block_lt_of_cell? _ _ hm) (World.block_lt_of_cell? _ _ h4.c0) hk hl h4.c0 h4.c1 h4.c2 h4.c3 h4.a0 h4.a1 h4.b0 h4.b1 h4.e0 h4.e1 h4.d0 h4.d1

theorem ix0 (w : World) : (Instr.index 51 (.agg #[.int .i64 24, .int .i64 12]) (.int .i64 0)).run Tryd.prog w = .ok (.int .i64 24) w := by kernel_rfl
theorem ix1 (w : World) : (Instr.index 51 (.agg #[.int .i64 24, .int .i64 12]) (.int .i64 1)).run Tryd.prog w = .ok (.int .i64 12) w := by kernel_rfl
theorem isUn_no' (a b c d : Int) (p4 p6 : Addr) (w : World) (hr : Ready w p4 p6) (h4 : ¬ (a = 0 ∧ b = 0 ∧ c = 0 ∧ d = 0)) (a0 : 0 ≤ a) (b0 : 0 ≤ b) (e0 : 0 ≤ c) (d0 : 0 ≤ d) :
    Calls Tryd.prog 16 #[.agg #[.int .u64 0, .int .u64 (lo4 a b c d), .pointer (some p4)]] w fun e w' => e = .returned (.bool false) ∧ Below w.heap.size w w' :=
  isUn_no p4 p6 _ w hr.size hr.z4 hr.z6 (by have := lo4_zero a b c d a0 b0 e0 d0; simp; omega) (by unfold lo4; simp; omega)
theorem isUn_yes' (p4 p6 : Addr) (w : World) (hr : Ready w p4 p6) :
    Calls Tryd.prog 16 #[.agg #[.int .u64 0, .int .u64 (lo4 0 0 0 0), .pointer (some p4)]] w fun e w' => e = .returned (.bool true) ∧ Below w.heap.size w w' :=
  isUn_yes p4 w hr.size hr.z4

set_option maxHeartbeats 400000 in
theorem selA (g0 g1 g2 g3 : Int) (mb bb : Nat) (len cap : Nat) (p4 p6 : Addr) (w : World) (hr : Ready w p4 p6)
    (hm : w.cell? ⟨mb, 0, none⟩ = some (.slice (some ⟨bb, 0, none⟩) len cap)) (hk : 28 ≤ len) (hl : len ≤ cap) (hG : Four w bb 24 g0 g1 g2 g3) (hnz : ¬ (g0 = 0 ∧ g1 = 0 ∧ g2 = 0 ∧ g3 = 0)) :
    Calls Tryd.prog 13 #[.pointer (some ⟨mb, 0, none⟩), .int .u8 4] w fun e w' => e = .returned (.agg #[.int .u64 0, .int .u64 (lo4 g0 g1 g2 g3), .pointer (some p4)]) ∧ Below w.heap.size w w' := by
  have hmz := World.block_lt_of_cell? _ _ hm
  have hbz := World.block_lt_of_cell? _ _ hG.c0
  simp only at hmz hbz
  have i0 := ix0
  go_enter Tryd.func13, Tryd.ntmps13
  go_wp2
  refine wp_loop_rounds 1 ?_
  rw [rounds_succ]
  go_wp2_with fail
  have hb0 : Below w.heap.size w (w.alloc (.cells #[.int .u64 0, .int .u64 0, .pointer none] 41)) := (Below.refl _ _).alloc (Nat.le_refl _) _
  refine (head4' 24 g0 g1 g2 g3 mb bb len cap p4 p6 _ (hr.below hb0) ?_ (by omega) hl (hG.below hb0 hbz)).mono ?_
  · rw [hb0.cell hmz]; exact hm
  rintro e w1 ⟨rfl, hb1⟩
  have hs1 : w.heap.size < w1.heap.size := by have := hb1.size; simp at this; omega
  have hq1 : Below w.heap.size w w1 := hb0.trans (hb1.mono (by simp))
  obtain ⟨hc1, hf1⟩ := bcell hb1
  go_wp2_with fail
  refine (isUn_no' g0 g1 g2 g3 p4 p6 _ (hr.below (hq1.alloc (by omega) _)) hnz hG.a0 hG.b0 hG.e0 hG.d0).mono ?_
  rintro e w2 ⟨rfl, hb2⟩
  obtain ⟨hc2, hf2⟩ := bcell hb2
  have hs2 : w1.heap.size < w2.heap.size := by have := hb2.size; simp at this; omega
  have hs3 : w.heap.size < w1.heap.size + 1 := by omega
  go_wp2
  refine bodyPost_ret (v := .agg #[.int .u64 0, .int .u64 (lo4 g0 g1 g2 g3), .pointer (some p4)]) (by simp [results, Tryd.results13, go_sem, hc2, hs3, hc1, hs1]) rfl ⟨rfl, ?_⟩
  exact (((((hq1.alloc (by omega) _).trans (hb2.mono (by simp; omega))).setCell (Nat.le_refl _) _).setCell (Nat.le_refl _) _).setCell (Nat.le_refl _) _)

set_option maxHeartbeats 400000 in
theorem selB (x0 x1 x2 x3 : Int) (mb bb : Nat) (len cap : Nat) (p4 p6 : Addr) (w : World) (hr : Ready w p4 p6)
    (hm : w.cell? ⟨mb, 0, none⟩ = some (.slice (some ⟨bb, 0, none⟩) len cap)) (hk : 28 ≤ len) (hl : len ≤ cap) (hG : Four w bb 24 0 0 0 0) (hX : Four w bb 12 x0 x1 x2 x3) (hnz : ¬ (x0 = 0 ∧ x1 = 0 ∧ x2 = 0 ∧ x3 = 0)) :
    Calls Tryd.prog 13 #[.pointer (some ⟨mb, 0, none⟩), .int .u8 4] w fun e w' => e = .returned (.agg #[.int .u64 0, .int .u64 (lo4 x0 x1 x2 x3), .pointer (some p4)]) ∧ Below w.heap.size w w' := by
  have hmz := World.block_lt_of_cell? _ _ hm
  have hbz := World.block_lt_of_cell? _ _ hG.c0
  simp only at hmz hbz
  have i0 := ix0
  have i1 := ix1
  go_enter Tryd.func13, Tryd.ntmps13
  go_wp2
  refine wp_loop_rounds 2 ?_
  rw [rounds_succ]
  go_wp2_with fail
  have hb0 : Below w.heap.size w (w.alloc (.cells #[.int .u64 0, .int .u64 0, .pointer none] 41)) := (Below.refl _ _).alloc (Nat.le_refl _) _
  refine (head4' 24 0 0 0 0 mb bb len cap p4 p6 _ (hr.below hb0) ?_ (by omega) hl (hG.below hb0 hbz)).mono ?_
  · rw [hb0.cell hmz]; exact hm
  rintro e w1 ⟨rfl, hb1⟩
  have hs1 : w.heap.size < w1.heap.size := by have := hb1.size; simp at this; omega
  have hq1 : Below w.heap.size w w1 := hb0.trans (hb1.mono (by simp))
  obtain ⟨hc1, hf1⟩ := bcell hb1
  go_wp2_with fail
  refine (isUn_yes' p4 p6 _ (hr.below (hq1.alloc (by omega) _))).mono ?_
  rintro e w2 ⟨rfl, hb2⟩
  obtain ⟨hc2, hf2⟩ := bcell hb2
  have hs2 : w1.heap.size < w2.heap.size := by have := hb2.size; simp at this; omega
  have hs3 : w.heap.size < w1.heap.size + 1 := by omega
  have hs4 : w.heap.size < w2.heap.size := by omega
  have hq2 : Below w.heap.size w w2 := (hq1.alloc (by omega) _).trans (hb2.mono (by simp; omega))
  go_wp2_with fail
  rw [rounds_succ]
  go_wp2_with fail
  refine (head4' 12 x0 x1 x2 x3 mb bb len cap p4 p6 _ (hr.below hq2) ?_ (by omega) hl (hX.below hq2 hbz)).mono ?_
  · rw [hq2.cell hmz]; exact hm
  rintro e w3 ⟨rfl, hb3⟩
  have hs5 : w.heap.size < w3.heap.size := by have := hb3.size; omega
  have hq3 : Below w.heap.size w w3 := hq2.trans (hb3.mono (by omega))
  obtain ⟨hc3, hf3⟩ := bcell hb3
  go_wp2_with fail
  refine (isUn_no' x0 x1 x2 x3 p4 p6 _ (hr.below (hq3.alloc (by omega) _)) hnz hX.a0 hX.b0 hX.e0 hX.d0).mono ?_
  rintro e w4 ⟨rfl, hb4⟩
  obtain ⟨hc4, hf4⟩ := bcell hb4
  have hs6 : w3.heap.size < w4.heap.size := by have := hb4.size; simp at this; omega
  have hs7 : w.heap.size < w3.heap.size + 1 := by omega
  go_wp2
  refine bodyPost_ret (v := .agg #[.int .u64 0, .int .u64 (lo4 x0 x1 x2 x3), .pointer (some p4)]) (by simp [results, Tryd.results13, go_sem, hc4, hc3, hc2, hs3, hs4, hs5, hs7, hc1, hs1]) rfl ⟨rfl, ?_⟩
  exact (((((hq3.alloc (by omega) _).trans (hb4.mono (by simp; omega))).setCell (Nat.le_refl _) _).setCell (Nat.le_refl _) _).setCell (Nat.le_refl _) _)

set_option maxHeartbeats 400000 in
theorem selC (mb bb : Nat) (len cap : Nat) (p4 p6 : Addr) (w : World) (hr : Ready w p4 p6)
    (hm : w.cell? ⟨mb, 0, none⟩ = some (.slice (some ⟨bb, 0, none⟩) len cap)) (hk : 28 ≤ len) (hl : len ≤ cap) (hG : Four w bb 24 0 0 0 0) (hX : Four w bb 12 0 0 0 0) :
    Calls Tryd.prog 13 #[.pointer (some ⟨mb, 0, none⟩), .int .u8 4] w fun e w' => e = .returned (.agg #[.int .u64 0, .int .u64 0, .pointer none]) ∧ Below w.heap.size w w' := by
  have hmz := World.block_lt_of_cell? _ _ hm
  have hbz := World.block_lt_of_cell? _ _ hG.c0
  simp only at hmz hbz
  have i0 := ix0
  have i1 := ix1
  go_enter Tryd.func13, Tryd.ntmps13
  go_wp2
  refine wp_loop_rounds 3 ?_
  rw [rounds_succ]
  go_wp2_with fail
  have hb0 : Below w.heap.size w (w.alloc (.cells #[.int .u64 0, .int .u64 0, .pointer none] 41)) := (Below.refl _ _).alloc (Nat.le_refl _) _
  refine (head4' 24 0 0 0 0 mb bb len cap p4 p6 _ (hr.below hb0) ?_ (by omega) hl (hG.below hb0 hbz)).mono ?_
  · rw [hb0.cell hmz]; exact hm
  rintro e w1 ⟨rfl, hb1⟩
  have hs1 : w.heap.size < w1.heap.size := by have := hb1.size; simp at this; omega
  have hq1 : Below w.heap.size w w1 := hb0.trans (hb1.mono (by simp))
  obtain ⟨hc1, hf1⟩ := bcell hb1
  go_wp2_with fail
  refine (isUn_yes' p4 p6 _ (hr.below (hq1.alloc (by omega) _))).mono ?_
  rintro e w2 ⟨rfl, hb2⟩
  obtain ⟨hc2, hf2⟩ := bcell hb2
  have hs2 : w1.heap.size < w2.heap.size := by have := hb2.size; simp at this; omega
  have hs3 : w.heap.size < w1.heap.size + 1 := by omega
  have hs4 : w.heap.size < w2.heap.size := by omega
  have hq2 : Below w.heap.size w w2 := (hq1.alloc (by omega) _).trans (hb2.mono (by simp; omega))
  go_wp2_with fail
  rw [rounds_succ]
  go_wp2_with fail
  refine (head4' 12 0 0 0 0 mb bb len cap p4 p6 _ (hr.below hq2) ?_ (by omega) hl (hX.below hq2 hbz)).mono ?_
  · rw [hq2.cell hmz]; exact hm
  rintro e w3 ⟨rfl, hb3⟩
  have hs5 : w.heap.size < w3.heap.size := by have := hb3.size; omega
  have hq3 : Below w.heap.size w w3 := hq2.trans (hb3.mono (by omega))
  obtain ⟨hc3, hf3⟩ := bcell hb3
  go_wp2_with fail
  refine (isUn_yes' p4 p6 _ (hr.below (hq3.alloc (by omega) _))).mono ?_
  rintro e w4 ⟨rfl, hb4⟩
  obtain ⟨hc4, hf4⟩ := bcell hb4
  have hs6 : w3.heap.size < w4.heap.size := by have := hb4.size; simp at this; omega
  have hs7 : w.heap.size < w3.heap.size + 1 := by omega
  go_wp2_with fail
  rw [rounds_succ]
  go_wp2
  refine bodyPost_ret (v := .agg #[.int .u64 0, .int .u64 0, .pointer none]) (by simp [results, Tryd.results13, go_sem, hc4, hc3, hc2, hs3, hs4, hs5, hs7, hc1, hs1]) rfl ⟨rfl, ?_⟩
  exact (((((hq3.alloc (by omega) _).trans (hb4.mono (by simp; omega))).setCell (Nat.le_refl _) _).setCell (Nat.le_refl _) _).setCell (Nat.le_refl _) _)

end Go.Proofs.Qxb6609530aDoor
