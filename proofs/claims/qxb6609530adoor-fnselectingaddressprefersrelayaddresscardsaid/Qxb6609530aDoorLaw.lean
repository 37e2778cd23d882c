/-
  OWN TEXT of this seat: THE WALK OF THE LAW FnSelectingAddressPrefersRelayAddress, a theorem a way. (Three of the ways are one text, turned by program.)
-/
import Derived.Test.Qxb6609530aDoorState
namespace Go.Proofs.Qxb6609530aDoor
open Go.RowKit

set_option maxRecDepth 100000 in
set_option maxHeartbeats 400000 in
theorem law_big (s : Option Addr) (n cap : Nat) (x0 x1 x2 x3 : Value) (w : World) (hn : 1048576 < n) :
    Calls Tryd.prog 3 #[.slice s n cap, .agg #[x0, x1, x2, x3]] w fun e w' => e = .returned (.bool true) ∧ Below w.heap.size w w' := by
  go_enter Tryd.func3, Tryd.ntmps3
  go_wp2_with fail
  refine (bytesNo _ _ _ _ _ _ _ _ hn).mono ?_
  rintro e w1 ⟨rfl, hb⟩
  go_wp2
  go_ret
  exact ⟨rfl, ((Below.refl _ _).alloc (Nat.le_refl _) _).trans (hb.mono (by simp))⟩

set_option maxRecDepth 100000 in
set_option maxHeartbeats 400000 in
theorem law_short (s : Option Addr) (n cap : Nat) (x0 x1 x2 x3 : Value) (w : World) (hn : n < 236) :
    Calls Tryd.prog 3 #[.slice s n cap, .agg #[x0, x1, x2, x3]] w fun e w' => e = .returned (.bool true) ∧ Below w.heap.size w w' := by
  go_enter Tryd.func3, Tryd.ntmps3
  go_wp2_with fail
  refine (bytesOk _ _ _ _ _ _ _ _ (by omega)).mono ?_
  rintro e w1 ⟨rfl, hb⟩
  go_wp2
  go_ret
  exact ⟨rfl, ((Below.refl _ _).alloc (Nat.le_refl _) _).trans (hb.mono (by simp))⟩

theorem Four.lt {w : World} {g k : Nat} {a b c d : Int} (h : Four w g k a b c d) : g < w.heap.size := World.block_lt_of_cell? _ _ h.c0

set_option maxRecDepth 100000 in
set_option maxHeartbeats 1000000 in
theorem law_nz0 (mb mo n cap : Nat) (f : Nat → Int) (g0 g1 g2 g3 : Int) (p4 p6 : Addr) (w : World) (hn : n ≤ 1048576) (h236 : 236 ≤ n) (hf : Bd f) (hr : Ready w p4 p6)
    (hm : ∀ j, j < n → w.cell? ⟨mb, mo + j, none⟩ = some (.int .u8 (f j))) (a0 : 0 ≤ g0) (a1 : g0 ≤ 255) (b0 : 0 ≤ g1) (b1 : g1 ≤ 255) (e0 : 0 ≤ g2) (e1 : g2 ≤ 255) (d0 : 0 ≤ g3) (d1 : g3 ≤ 255) (ht : (g0 == 0) = false) :
    Calls Tryd.prog 3 #[.slice (some ⟨mb, mo, none⟩) n cap, .agg #[.int .u8 g0, .int .u8 g1, .int .u8 g2, .int .u8 g3]] w fun e w' => e = .returned (.bool true) ∧ Below w.heap.size w w' := by
  have hmz : mb < w.heap.size := World.block_lt_of_cell? _ _ (hm 0 (by omega))
  have st0 : St w (w.alloc (.cells #[.int .u8 g0, .int .u8 g1, .int .u8 g2, .int .u8 g3] 23)) p4 p6 mb mo n f g0 g1 g2 g3 := by
    have hb := (Below.refl w.heap.size w).alloc (Nat.le_refl _) (.cells #[.int .u8 g0, .int .u8 g1, .int .u8 g2, .int .u8 g3] 23)
    refine ⟨hr.below hb, ⟨by go_simp, by go_simp, by go_simp, by go_simp, by omega, by omega, by omega, by omega, by omega, by omega, by omega, by omega⟩, fun j hj => ?_, hb, hmz, hr.size⟩
    rw [hb.cell (p := ⟨mb, mo + j, none⟩) hmz]; exact hm j hj
  have HM : Hid (∀ j, j < n → w.cell? ⟨mb, mo + j, none⟩ = some (.int .u8 (f j))) := hm
  clear hm
  go_enter Tryd.func3, Tryd.ntmps3
  go_wp2_with fail
  refine (bytesOk _ _ _ _ _ _ _ _ hn).mono ?_
  rintro e w1 ⟨rfl, hb1⟩
  have st1 := st0.step hb1 st0.lt
  go_wp2_with fail
  refine (clone' mb mo n cap f _ hn (by omega) hf st1).mono ?_
  rintro e w2 ⟨rfl, hb2, r2⟩
  have st2 := st1.step hb2 st1.lt
  have l1 := st1.lt
  have q2 := st2.g
  obtain ⟨k0, k1, k2, k3, _, _, _, _, _, _, _, _⟩ := q2
  simp only [Nat.zero_add] at k1 k2 k3
  go_wp2_with fail
  clear k0 k1 k2 k3
  refine (put4' 24 _ n n f g0 g1 g2 g3 _ (by omega) hn r2 (by omega) (by omega) (by omega) (by omega) (by omega) (by omega) (by omega) (by omega)).mono ?_
  rintro e w3 ⟨rfl, hb3, r3⟩
  have st3 := st2.step hb3 l1
  have z3 : w1.heap.size < w3.heap.size := World.block_lt_of_cell? _ _ (r3.cell 0 (by omega))
  go_wp2_with fail
  refine (clone' mb mo n cap f _ hn (by omega) hf st3).mono ?_
  rintro e w4 ⟨rfl, hb4, d4⟩
  have st4 := st3.step hb4 st3.lt
  have l3 := st3.lt
  have r4 := r3.below hb4 z3
  go_wp2_with fail
  refine (put4' 24 _ n n f 0 0 0 0 _ (by omega) hn d4 (by omega) (by omega) (by omega) (by omega) (by omega) (by omega) (by omega) (by omega)).mono ?_
  rintro e w5 ⟨rfl, hb5, d5⟩
  have st5 := st4.step hb5 l3
  have r5 := r4.below hb5 z3
  have q5 := st5.g
  obtain ⟨k0, k1, k2, k3, _, _, _, _, _, _, _, _⟩ := q5
  simp only [Nat.zero_add] at k1 k2 k3
  go_wp2_with fail
  clear k0 k1 k2 k3
  refine (put4' 12 _ n n _ g0 g1 g2 g3 _ (by omega) hn d5 (by omega) (by omega) (by omega) (by omega) (by omega) (by omega) (by omega) (by omega)).mono ?_
  rintro e w6 ⟨rfl, hb6, d6⟩
  have st6 := st5.step hb6 l3
  have r6 := r5.below hb6 z3
  have z6 : w3.heap.size < w6.heap.size := World.block_lt_of_cell? _ _ (d6.cell 0 (by omega))
  go_wp2_with fail
  refine (clone' mb mo n cap f _ hn (by omega) hf st6).mono ?_
  rintro e w7 ⟨rfl, hb7, m7⟩
  have st7 := st6.step hb7 st6.lt
  have l6 := st6.lt
  have r7 := r6.below hb7 (by omega)
  have d7 := d6.below hb7 z6
  go_wp2_with fail
  refine (put4' 24 _ n n f 0 0 0 0 _ (by omega) hn m7 (by omega) (by omega) (by omega) (by omega) (by omega) (by omega) (by omega) (by omega)).mono ?_
  rintro e w8 ⟨rfl, hb8, m8⟩
  have st8 := st7.step hb8 l6
  have r8 := r7.below hb8 (by omega)
  have d8 := d7.below hb8 z6
  go_wp2_with fail
  refine (put4' 12 _ n n _ 0 0 0 0 _ (by omega) hn m8 (by omega) (by omega) (by omega) (by omega) (by omega) (by omega) (by omega) (by omega)).mono ?_
  rintro e w9 ⟨rfl, hb9, m9⟩
  have st9 := st8.step hb9 l6
  have r9 := r8.below hb9 (by omega)
  have d9 := d8.below hb9 z6
  have l9 := st9.lt
  have z9 : w6.heap.size < w9.heap.size := World.block_lt_of_cell? _ _ (m9.cell 0 (by omega))
  clear hb1 hb2 hb3 hb4 hb5 hb6 hb7 hb8 hb9 st1 st2 st3 st4 st5 st6 st7 st8 r2 r3 r4 r5 r6 r7 r8 d4 d5 d6 d7 d8 m7 m8 l1 l3 l6
  go_wp2_with fail
  have hnz : ¬ ((g0 : Int) = 0 ∧ (g1 : Int) = 0 ∧ (g2 : Int) = 0 ∧ (g3 : Int) = 0) := by simp at ht; omega
  refine (selectA g0 g1 g2 g3 _ n n p4 p6 _ st9.ready (by omega) (Nat.le_refl _) (r9.four 24 (by omega)) hnz).mono ?_
  rintro e w10 ⟨na, rfl, hb10, ha, A10⟩
  clear hnz
  have st10 := st9.step hb10 l9
  have d10 := d9.below hb10 (by omega)
  have m10 := m9.below hb10 z9
  have l10 := st10.lt
  have z10 : w9.heap.size ≤ w10.heap.size := hb10.size
  go_wp2_with fail
  have hnz : ¬ ((g0 : Int) = 0 ∧ (g1 : Int) = 0 ∧ (g2 : Int) = 0 ∧ (g3 : Int) = 0) := by simp at ht; omega
  refine (selectB g0 g1 g2 g3 _ n n p4 p6 _ st10.ready (by omega) (Nat.le_refl _) (d10.four 24 (by omega)) (d10.four 12 (by omega)) hnz).mono ?_
  rintro e w11 ⟨nb, rfl, hb11, hbb, B11⟩
  clear hnz
  have st11 := st10.step hb11 l10
  have m11 := m10.below hb11 (by omega)
  have l11 := st11.lt
  have z11 : w10.heap.size ≤ w11.heap.size := hb11.size
  go_wp2_with fail
  refine (selectC _ n n p4 p6 _ st11.ready (by omega) (Nat.le_refl _) (m11.four 24 (by omega)) (m11.four 12 (by omega))).mono ?_
  rintro e w12 ⟨rfl, hb12⟩
  have st12 := st11.step hb12 l11
  have q12 := st12.g
  obtain ⟨k0, k1, k2, k3, _, _, _, _, _, _, _, _⟩ := q12
  simp only [Nat.zero_add] at k1 k2 k3
  clear m9 m10 m11 d9 d10 r9
  have A12 := (A10.below hb11 A10.lt).below hb12 (by have := A10.lt; omega)
  have B12 := B11.below hb12 B11.lt
  go_wp2_with fail
  refine (is4 na _ _ _ _ _ A12).mono ?_
  rintro e w13 ⟨rfl, hb13⟩
  have st13 := st12.step hb13 st12.lt
  have B13 := B12.below hb13 B12.lt
  have q13 := st13.g
  clear k0 k1 k2 k3
  obtain ⟨k0, k1, k2, k3, _, _, _, _, _, _, _, _⟩ := q13
  simp only [Nat.zero_add] at k1 k2 k3
  go_wp2_with fail
  refine (is4 nb _ _ _ _ _ B13).mono ?_
  rintro e w14 ⟨rfl, hb14⟩
  have st14 := st13.step hb14 st13.lt
  go_wp2
  go_ret
  exact ⟨rfl, st14.below⟩
set_option maxRecDepth 100000 in
set_option maxHeartbeats 1000000 in
theorem law_nz1 (mb mo n cap : Nat) (f : Nat → Int) (g1 g2 g3 : Int) (p4 p6 : Addr) (w : World) (hn : n ≤ 1048576) (h236 : 236 ≤ n) (hf : Bd f) (hr : Ready w p4 p6)
    (hm : ∀ j, j < n → w.cell? ⟨mb, mo + j, none⟩ = some (.int .u8 (f j))) (b0 : 0 ≤ g1) (b1 : g1 ≤ 255) (e0 : 0 ≤ g2) (e1 : g2 ≤ 255) (d0 : 0 ≤ g3) (d1 : g3 ≤ 255) (ht : (g1 == 0) = false) :
    Calls Tryd.prog 3 #[.slice (some ⟨mb, mo, none⟩) n cap, .agg #[.int .u8 0, .int .u8 g1, .int .u8 g2, .int .u8 g3]] w fun e w' => e = .returned (.bool true) ∧ Below w.heap.size w w' := by
  have hmz : mb < w.heap.size := World.block_lt_of_cell? _ _ (hm 0 (by omega))
  have st0 : St w (w.alloc (.cells #[.int .u8 0, .int .u8 g1, .int .u8 g2, .int .u8 g3] 23)) p4 p6 mb mo n f 0 g1 g2 g3 := by
    have hb := (Below.refl w.heap.size w).alloc (Nat.le_refl _) (.cells #[.int .u8 0, .int .u8 g1, .int .u8 g2, .int .u8 g3] 23)
    refine ⟨hr.below hb, ⟨by go_simp, by go_simp, by go_simp, by go_simp, by omega, by omega, by omega, by omega, by omega, by omega, by omega, by omega⟩, fun j hj => ?_, hb, hmz, hr.size⟩
    rw [hb.cell (p := ⟨mb, mo + j, none⟩) hmz]; exact hm j hj
  have HM : Hid (∀ j, j < n → w.cell? ⟨mb, mo + j, none⟩ = some (.int .u8 (f j))) := hm
  clear hm
  go_enter Tryd.func3, Tryd.ntmps3
  go_wp2_with fail
  refine (bytesOk _ _ _ _ _ _ _ _ hn).mono ?_
  rintro e w1 ⟨rfl, hb1⟩
  have st1 := st0.step hb1 st0.lt
  go_wp2_with fail
  refine (clone' mb mo n cap f _ hn (by omega) hf st1).mono ?_
  rintro e w2 ⟨rfl, hb2, r2⟩
  have st2 := st1.step hb2 st1.lt
  have l1 := st1.lt
  have q2 := st2.g
  obtain ⟨k0, k1, k2, k3, _, _, _, _, _, _, _, _⟩ := q2
  simp only [Nat.zero_add] at k1 k2 k3
  go_wp2_with fail
  clear k0 k1 k2 k3
  refine (put4' 24 _ n n f 0 g1 g2 g3 _ (by omega) hn r2 (by omega) (by omega) (by omega) (by omega) (by omega) (by omega) (by omega) (by omega)).mono ?_
  rintro e w3 ⟨rfl, hb3, r3⟩
  have st3 := st2.step hb3 l1
  have z3 : w1.heap.size < w3.heap.size := World.block_lt_of_cell? _ _ (r3.cell 0 (by omega))
  go_wp2_with fail
  refine (clone' mb mo n cap f _ hn (by omega) hf st3).mono ?_
  rintro e w4 ⟨rfl, hb4, d4⟩
  have st4 := st3.step hb4 st3.lt
  have l3 := st3.lt
  have r4 := r3.below hb4 z3
  go_wp2_with fail
  refine (put4' 24 _ n n f 0 0 0 0 _ (by omega) hn d4 (by omega) (by omega) (by omega) (by omega) (by omega) (by omega) (by omega) (by omega)).mono ?_
  rintro e w5 ⟨rfl, hb5, d5⟩
  have st5 := st4.step hb5 l3
  have r5 := r4.below hb5 z3
  have q5 := st5.g
  obtain ⟨k0, k1, k2, k3, _, _, _, _, _, _, _, _⟩ := q5
  simp only [Nat.zero_add] at k1 k2 k3
  go_wp2_with fail
  clear k0 k1 k2 k3
  refine (put4' 12 _ n n _ 0 g1 g2 g3 _ (by omega) hn d5 (by omega) (by omega) (by omega) (by omega) (by omega) (by omega) (by omega) (by omega)).mono ?_
  rintro e w6 ⟨rfl, hb6, d6⟩
  have st6 := st5.step hb6 l3
  have r6 := r5.below hb6 z3
  have z6 : w3.heap.size < w6.heap.size := World.block_lt_of_cell? _ _ (d6.cell 0 (by omega))
  go_wp2_with fail
  refine (clone' mb mo n cap f _ hn (by omega) hf st6).mono ?_
  rintro e w7 ⟨rfl, hb7, m7⟩
  have st7 := st6.step hb7 st6.lt
  have l6 := st6.lt
  have r7 := r6.below hb7 (by omega)
  have d7 := d6.below hb7 z6
  go_wp2_with fail
  refine (put4' 24 _ n n f 0 0 0 0 _ (by omega) hn m7 (by omega) (by omega) (by omega) (by omega) (by omega) (by omega) (by omega) (by omega)).mono ?_
  rintro e w8 ⟨rfl, hb8, m8⟩
  have st8 := st7.step hb8 l6
  have r8 := r7.below hb8 (by omega)
  have d8 := d7.below hb8 z6
  go_wp2_with fail
  refine (put4' 12 _ n n _ 0 0 0 0 _ (by omega) hn m8 (by omega) (by omega) (by omega) (by omega) (by omega) (by omega) (by omega) (by omega)).mono ?_
  rintro e w9 ⟨rfl, hb9, m9⟩
  have st9 := st8.step hb9 l6
  have r9 := r8.below hb9 (by omega)
  have d9 := d8.below hb9 z6
  have l9 := st9.lt
  have z9 : w6.heap.size < w9.heap.size := World.block_lt_of_cell? _ _ (m9.cell 0 (by omega))
  clear hb1 hb2 hb3 hb4 hb5 hb6 hb7 hb8 hb9 st1 st2 st3 st4 st5 st6 st7 st8 r2 r3 r4 r5 r6 r7 r8 d4 d5 d6 d7 d8 m7 m8 l1 l3 l6
  go_wp2_with fail
  have hnz : ¬ ((0 : Int) = 0 ∧ (g1 : Int) = 0 ∧ (g2 : Int) = 0 ∧ (g3 : Int) = 0) := by simp at ht; omega
  refine (selectA 0 g1 g2 g3 _ n n p4 p6 _ st9.ready (by omega) (Nat.le_refl _) (r9.four 24 (by omega)) hnz).mono ?_
  rintro e w10 ⟨na, rfl, hb10, ha, A10⟩
  clear hnz
  have st10 := st9.step hb10 l9
  have d10 := d9.below hb10 (by omega)
  have m10 := m9.below hb10 z9
  have l10 := st10.lt
  have z10 : w9.heap.size ≤ w10.heap.size := hb10.size
  go_wp2_with fail
  have hnz : ¬ ((0 : Int) = 0 ∧ (g1 : Int) = 0 ∧ (g2 : Int) = 0 ∧ (g3 : Int) = 0) := by simp at ht; omega
  refine (selectB 0 g1 g2 g3 _ n n p4 p6 _ st10.ready (by omega) (Nat.le_refl _) (d10.four 24 (by omega)) (d10.four 12 (by omega)) hnz).mono ?_
  rintro e w11 ⟨nb, rfl, hb11, hbb, B11⟩
  clear hnz
  have st11 := st10.step hb11 l10
  have m11 := m10.below hb11 (by omega)
  have l11 := st11.lt
  have z11 : w10.heap.size ≤ w11.heap.size := hb11.size
  go_wp2_with fail
  refine (selectC _ n n p4 p6 _ st11.ready (by omega) (Nat.le_refl _) (m11.four 24 (by omega)) (m11.four 12 (by omega))).mono ?_
  rintro e w12 ⟨rfl, hb12⟩
  have st12 := st11.step hb12 l11
  have q12 := st12.g
  obtain ⟨k0, k1, k2, k3, _, _, _, _, _, _, _, _⟩ := q12
  simp only [Nat.zero_add] at k1 k2 k3
  clear m9 m10 m11 d9 d10 r9
  have A12 := (A10.below hb11 A10.lt).below hb12 (by have := A10.lt; omega)
  have B12 := B11.below hb12 B11.lt
  go_wp2_with fail
  refine (is4 na _ _ _ _ _ A12).mono ?_
  rintro e w13 ⟨rfl, hb13⟩
  have st13 := st12.step hb13 st12.lt
  have B13 := B12.below hb13 B12.lt
  have q13 := st13.g
  clear k0 k1 k2 k3
  obtain ⟨k0, k1, k2, k3, _, _, _, _, _, _, _, _⟩ := q13
  simp only [Nat.zero_add] at k1 k2 k3
  go_wp2_with fail
  refine (is4 nb _ _ _ _ _ B13).mono ?_
  rintro e w14 ⟨rfl, hb14⟩
  have st14 := st13.step hb14 st13.lt
  go_wp2
  go_ret
  exact ⟨rfl, st14.below⟩
set_option maxRecDepth 100000 in
set_option maxHeartbeats 1000000 in
theorem law_nz2 (mb mo n cap : Nat) (f : Nat → Int) (g2 g3 : Int) (p4 p6 : Addr) (w : World) (hn : n ≤ 1048576) (h236 : 236 ≤ n) (hf : Bd f) (hr : Ready w p4 p6)
    (hm : ∀ j, j < n → w.cell? ⟨mb, mo + j, none⟩ = some (.int .u8 (f j))) (e0 : 0 ≤ g2) (e1 : g2 ≤ 255) (d0 : 0 ≤ g3) (d1 : g3 ≤ 255) (ht : (g2 == 0) = false) :
    Calls Tryd.prog 3 #[.slice (some ⟨mb, mo, none⟩) n cap, .agg #[.int .u8 0, .int .u8 0, .int .u8 g2, .int .u8 g3]] w fun e w' => e = .returned (.bool true) ∧ Below w.heap.size w w' := by
  have hmz : mb < w.heap.size := World.block_lt_of_cell? _ _ (hm 0 (by omega))
  have st0 : St w (w.alloc (.cells #[.int .u8 0, .int .u8 0, .int .u8 g2, .int .u8 g3] 23)) p4 p6 mb mo n f 0 0 g2 g3 := by
    have hb := (Below.refl w.heap.size w).alloc (Nat.le_refl _) (.cells #[.int .u8 0, .int .u8 0, .int .u8 g2, .int .u8 g3] 23)
    refine ⟨hr.below hb, ⟨by go_simp, by go_simp, by go_simp, by go_simp, by omega, by omega, by omega, by omega, by omega, by omega, by omega, by omega⟩, fun j hj => ?_, hb, hmz, hr.size⟩
    rw [hb.cell (p := ⟨mb, mo + j, none⟩) hmz]; exact hm j hj
  have HM : Hid (∀ j, j < n → w.cell? ⟨mb, mo + j, none⟩ = some (.int .u8 (f j))) := hm
  clear hm
  go_enter Tryd.func3, Tryd.ntmps3
  go_wp2_with fail
  refine (bytesOk _ _ _ _ _ _ _ _ hn).mono ?_
  rintro e w1 ⟨rfl, hb1⟩
  have st1 := st0.step hb1 st0.lt
  go_wp2_with fail
  refine (clone' mb mo n cap f _ hn (by omega) hf st1).mono ?_
  rintro e w2 ⟨rfl, hb2, r2⟩
  have st2 := st1.step hb2 st1.lt
  have l1 := st1.lt
  have q2 := st2.g
  obtain ⟨k0, k1, k2, k3, _, _, _, _, _, _, _, _⟩ := q2
  simp only [Nat.zero_add] at k1 k2 k3
  go_wp2_with fail
  clear k0 k1 k2 k3
  refine (put4' 24 _ n n f 0 0 g2 g3 _ (by omega) hn r2 (by omega) (by omega) (by omega) (by omega) (by omega) (by omega) (by omega) (by omega)).mono ?_
  rintro e w3 ⟨rfl, hb3, r3⟩
  have st3 := st2.step hb3 l1
  have z3 : w1.heap.size < w3.heap.size := World.block_lt_of_cell? _ _ (r3.cell 0 (by omega))
  go_wp2_with fail
  refine (clone' mb mo n cap f _ hn (by omega) hf st3).mono ?_
  rintro e w4 ⟨rfl, hb4, d4⟩
  have st4 := st3.step hb4 st3.lt
  have l3 := st3.lt
  have r4 := r3.below hb4 z3
  go_wp2_with fail
  refine (put4' 24 _ n n f 0 0 0 0 _ (by omega) hn d4 (by omega) (by omega) (by omega) (by omega) (by omega) (by omega) (by omega) (by omega)).mono ?_
  rintro e w5 ⟨rfl, hb5, d5⟩
  have st5 := st4.step hb5 l3
  have r5 := r4.below hb5 z3
  have q5 := st5.g
  obtain ⟨k0, k1, k2, k3, _, _, _, _, _, _, _, _⟩ := q5
  simp only [Nat.zero_add] at k1 k2 k3
  go_wp2_with fail
  clear k0 k1 k2 k3
  refine (put4' 12 _ n n _ 0 0 g2 g3 _ (by omega) hn d5 (by omega) (by omega) (by omega) (by omega) (by omega) (by omega) (by omega) (by omega)).mono ?_
  rintro e w6 ⟨rfl, hb6, d6⟩
  have st6 := st5.step hb6 l3
  have r6 := r5.below hb6 z3
  have z6 : w3.heap.size < w6.heap.size := World.block_lt_of_cell? _ _ (d6.cell 0 (by omega))
  go_wp2_with fail
  refine (clone' mb mo n cap f _ hn (by omega) hf st6).mono ?_
  rintro e w7 ⟨rfl, hb7, m7⟩
  have st7 := st6.step hb7 st6.lt
  have l6 := st6.lt
  have r7 := r6.below hb7 (by omega)
  have d7 := d6.below hb7 z6
  go_wp2_with fail
  refine (put4' 24 _ n n f 0 0 0 0 _ (by omega) hn m7 (by omega) (by omega) (by omega) (by omega) (by omega) (by omega) (by omega) (by omega)).mono ?_
  rintro e w8 ⟨rfl, hb8, m8⟩
  have st8 := st7.step hb8 l6
  have r8 := r7.below hb8 (by omega)
  have d8 := d7.below hb8 z6
  go_wp2_with fail
  refine (put4' 12 _ n n _ 0 0 0 0 _ (by omega) hn m8 (by omega) (by omega) (by omega) (by omega) (by omega) (by omega) (by omega) (by omega)).mono ?_
  rintro e w9 ⟨rfl, hb9, m9⟩
  have st9 := st8.step hb9 l6
  have r9 := r8.below hb9 (by omega)
  have d9 := d8.below hb9 z6
  have l9 := st9.lt
  have z9 : w6.heap.size < w9.heap.size := World.block_lt_of_cell? _ _ (m9.cell 0 (by omega))
  clear hb1 hb2 hb3 hb4 hb5 hb6 hb7 hb8 hb9 st1 st2 st3 st4 st5 st6 st7 st8 r2 r3 r4 r5 r6 r7 r8 d4 d5 d6 d7 d8 m7 m8 l1 l3 l6
  go_wp2_with fail
  have hnz : ¬ ((0 : Int) = 0 ∧ (0 : Int) = 0 ∧ (g2 : Int) = 0 ∧ (g3 : Int) = 0) := by simp at ht; omega
  refine (selectA 0 0 g2 g3 _ n n p4 p6 _ st9.ready (by omega) (Nat.le_refl _) (r9.four 24 (by omega)) hnz).mono ?_
  rintro e w10 ⟨na, rfl, hb10, ha, A10⟩
  clear hnz
  have st10 := st9.step hb10 l9
  have d10 := d9.below hb10 (by omega)
  have m10 := m9.below hb10 z9
  have l10 := st10.lt
  have z10 : w9.heap.size ≤ w10.heap.size := hb10.size
  go_wp2_with fail
  have hnz : ¬ ((0 : Int) = 0 ∧ (0 : Int) = 0 ∧ (g2 : Int) = 0 ∧ (g3 : Int) = 0) := by simp at ht; omega
  refine (selectB 0 0 g2 g3 _ n n p4 p6 _ st10.ready (by omega) (Nat.le_refl _) (d10.four 24 (by omega)) (d10.four 12 (by omega)) hnz).mono ?_
  rintro e w11 ⟨nb, rfl, hb11, hbb, B11⟩
  clear hnz
  have st11 := st10.step hb11 l10
  have m11 := m10.below hb11 (by omega)
  have l11 := st11.lt
  have z11 : w10.heap.size ≤ w11.heap.size := hb11.size
  go_wp2_with fail
  refine (selectC _ n n p4 p6 _ st11.ready (by omega) (Nat.le_refl _) (m11.four 24 (by omega)) (m11.four 12 (by omega))).mono ?_
  rintro e w12 ⟨rfl, hb12⟩
  have st12 := st11.step hb12 l11
  have q12 := st12.g
  obtain ⟨k0, k1, k2, k3, _, _, _, _, _, _, _, _⟩ := q12
  simp only [Nat.zero_add] at k1 k2 k3
  clear m9 m10 m11 d9 d10 r9
  have A12 := (A10.below hb11 A10.lt).below hb12 (by have := A10.lt; omega)
  have B12 := B11.below hb12 B11.lt
  go_wp2_with fail
  refine (is4 na _ _ _ _ _ A12).mono ?_
  rintro e w13 ⟨rfl, hb13⟩
  have st13 := st12.step hb13 st12.lt
  have B13 := B12.below hb13 B12.lt
  have q13 := st13.g
  clear k0 k1 k2 k3
  obtain ⟨k0, k1, k2, k3, _, _, _, _, _, _, _, _⟩ := q13
  simp only [Nat.zero_add] at k1 k2 k3
  go_wp2_with fail
  refine (is4 nb _ _ _ _ _ B13).mono ?_
  rintro e w14 ⟨rfl, hb14⟩
  have st14 := st13.step hb14 st13.lt
  go_wp2
  go_ret
  exact ⟨rfl, st14.below⟩
set_option maxRecDepth 100000 in
set_option maxHeartbeats 1000000 in
theorem law_nz3 (mb mo n cap : Nat) (f : Nat → Int) (g3 : Int) (p4 p6 : Addr) (w : World) (hn : n ≤ 1048576) (h236 : 236 ≤ n) (hf : Bd f) (hr : Ready w p4 p6)
    (hm : ∀ j, j < n → w.cell? ⟨mb, mo + j, none⟩ = some (.int .u8 (f j))) (d0 : 0 ≤ g3) (d1 : g3 ≤ 255) (ht : (g3 == 0) = false) :
    Calls Tryd.prog 3 #[.slice (some ⟨mb, mo, none⟩) n cap, .agg #[.int .u8 0, .int .u8 0, .int .u8 0, .int .u8 g3]] w fun e w' => e = .returned (.bool true) ∧ Below w.heap.size w w' := by
  have hmz : mb < w.heap.size := World.block_lt_of_cell? _ _ (hm 0 (by omega))
  have st0 : St w (w.alloc (.cells #[.int .u8 0, .int .u8 0, .int .u8 0, .int .u8 g3] 23)) p4 p6 mb mo n f 0 0 0 g3 := by
    have hb := (Below.refl w.heap.size w).alloc (Nat.le_refl _) (.cells #[.int .u8 0, .int .u8 0, .int .u8 0, .int .u8 g3] 23)
    refine ⟨hr.below hb, ⟨by go_simp, by go_simp, by go_simp, by go_simp, by omega, by omega, by omega, by omega, by omega, by omega, by omega, by omega⟩, fun j hj => ?_, hb, hmz, hr.size⟩
    rw [hb.cell (p := ⟨mb, mo + j, none⟩) hmz]; exact hm j hj
  have HM : Hid (∀ j, j < n → w.cell? ⟨mb, mo + j, none⟩ = some (.int .u8 (f j))) := hm
  clear hm
  go_enter Tryd.func3, Tryd.ntmps3
  go_wp2_with fail
  refine (bytesOk _ _ _ _ _ _ _ _ hn).mono ?_
  rintro e w1 ⟨rfl, hb1⟩
  have st1 := st0.step hb1 st0.lt
  go_wp2_with fail
  refine (clone' mb mo n cap f _ hn (by omega) hf st1).mono ?_
  rintro e w2 ⟨rfl, hb2, r2⟩
  have st2 := st1.step hb2 st1.lt
  have l1 := st1.lt
  have q2 := st2.g
  obtain ⟨k0, k1, k2, k3, _, _, _, _, _, _, _, _⟩ := q2
  simp only [Nat.zero_add] at k1 k2 k3
  go_wp2_with fail
  clear k0 k1 k2 k3
  refine (put4' 24 _ n n f 0 0 0 g3 _ (by omega) hn r2 (by omega) (by omega) (by omega) (by omega) (by omega) (by omega) (by omega) (by omega)).mono ?_
  rintro e w3 ⟨rfl, hb3, r3⟩
  have st3 := st2.step hb3 l1
  have z3 : w1.heap.size < w3.heap.size := World.block_lt_of_cell? _ _ (r3.cell 0 (by omega))
  go_wp2_with fail
  refine (clone' mb mo n cap f _ hn (by omega) hf st3).mono ?_
  rintro e w4 ⟨rfl, hb4, d4⟩
  have st4 := st3.step hb4 st3.lt
  have l3 := st3.lt
  have r4 := r3.below hb4 z3
  go_wp2_with fail
  refine (put4' 24 _ n n f 0 0 0 0 _ (by omega) hn d4 (by omega) (by omega) (by omega) (by omega) (by omega) (by omega) (by omega) (by omega)).mono ?_
  rintro e w5 ⟨rfl, hb5, d5⟩
  have st5 := st4.step hb5 l3
  have r5 := r4.below hb5 z3
  have q5 := st5.g
  obtain ⟨k0, k1, k2, k3, _, _, _, _, _, _, _, _⟩ := q5
  simp only [Nat.zero_add] at k1 k2 k3
  go_wp2_with fail
  clear k0 k1 k2 k3
  refine (put4' 12 _ n n _ 0 0 0 g3 _ (by omega) hn d5 (by omega) (by omega) (by omega) (by omega) (by omega) (by omega) (by omega) (by omega)).mono ?_
  rintro e w6 ⟨rfl, hb6, d6⟩
  have st6 := st5.step hb6 l3
  have r6 := r5.below hb6 z3
  have z6 : w3.heap.size < w6.heap.size := World.block_lt_of_cell? _ _ (d6.cell 0 (by omega))
  go_wp2_with fail
  refine (clone' mb mo n cap f _ hn (by omega) hf st6).mono ?_
  rintro e w7 ⟨rfl, hb7, m7⟩
  have st7 := st6.step hb7 st6.lt
  have l6 := st6.lt
  have r7 := r6.below hb7 (by omega)
  have d7 := d6.below hb7 z6
  go_wp2_with fail
  refine (put4' 24 _ n n f 0 0 0 0 _ (by omega) hn m7 (by omega) (by omega) (by omega) (by omega) (by omega) (by omega) (by omega) (by omega)).mono ?_
  rintro e w8 ⟨rfl, hb8, m8⟩
  have st8 := st7.step hb8 l6
  have r8 := r7.below hb8 (by omega)
  have d8 := d7.below hb8 z6
  go_wp2_with fail
  refine (put4' 12 _ n n _ 0 0 0 0 _ (by omega) hn m8 (by omega) (by omega) (by omega) (by omega) (by omega) (by omega) (by omega) (by omega)).mono ?_
  rintro e w9 ⟨rfl, hb9, m9⟩
  have st9 := st8.step hb9 l6
  have r9 := r8.below hb9 (by omega)
  have d9 := d8.below hb9 z6
  have l9 := st9.lt
  have z9 : w6.heap.size < w9.heap.size := World.block_lt_of_cell? _ _ (m9.cell 0 (by omega))
  clear hb1 hb2 hb3 hb4 hb5 hb6 hb7 hb8 hb9 st1 st2 st3 st4 st5 st6 st7 st8 r2 r3 r4 r5 r6 r7 r8 d4 d5 d6 d7 d8 m7 m8 l1 l3 l6
  go_wp2_with fail
  have hnz : ¬ ((0 : Int) = 0 ∧ (0 : Int) = 0 ∧ (0 : Int) = 0 ∧ (g3 : Int) = 0) := by simp at ht; omega
  refine (selectA 0 0 0 g3 _ n n p4 p6 _ st9.ready (by omega) (Nat.le_refl _) (r9.four 24 (by omega)) hnz).mono ?_
  rintro e w10 ⟨na, rfl, hb10, ha, A10⟩
  clear hnz
  have st10 := st9.step hb10 l9
  have d10 := d9.below hb10 (by omega)
  have m10 := m9.below hb10 z9
  have l10 := st10.lt
  have z10 : w9.heap.size ≤ w10.heap.size := hb10.size
  go_wp2_with fail
  have hnz : ¬ ((0 : Int) = 0 ∧ (0 : Int) = 0 ∧ (0 : Int) = 0 ∧ (g3 : Int) = 0) := by simp at ht; omega
  refine (selectB 0 0 0 g3 _ n n p4 p6 _ st10.ready (by omega) (Nat.le_refl _) (d10.four 24 (by omega)) (d10.four 12 (by omega)) hnz).mono ?_
  rintro e w11 ⟨nb, rfl, hb11, hbb, B11⟩
  clear hnz
  have st11 := st10.step hb11 l10
  have m11 := m10.below hb11 (by omega)
  have l11 := st11.lt
  have z11 : w10.heap.size ≤ w11.heap.size := hb11.size
  go_wp2_with fail
  refine (selectC _ n n p4 p6 _ st11.ready (by omega) (Nat.le_refl _) (m11.four 24 (by omega)) (m11.four 12 (by omega))).mono ?_
  rintro e w12 ⟨rfl, hb12⟩
  have st12 := st11.step hb12 l11
  have q12 := st12.g
  obtain ⟨k0, k1, k2, k3, _, _, _, _, _, _, _, _⟩ := q12
  simp only [Nat.zero_add] at k1 k2 k3
  clear m9 m10 m11 d9 d10 r9
  have A12 := (A10.below hb11 A10.lt).below hb12 (by have := A10.lt; omega)
  have B12 := B11.below hb12 B11.lt
  go_wp2_with fail
  refine (is4 na _ _ _ _ _ A12).mono ?_
  rintro e w13 ⟨rfl, hb13⟩
  have st13 := st12.step hb13 st12.lt
  have B13 := B12.below hb13 B12.lt
  have q13 := st13.g
  clear k0 k1 k2 k3
  obtain ⟨k0, k1, k2, k3, _, _, _, _, _, _, _, _⟩ := q13
  simp only [Nat.zero_add] at k1 k2 k3
  go_wp2_with fail
  refine (is4 nb _ _ _ _ _ B13).mono ?_
  rintro e w14 ⟨rfl, hb14⟩
  have st14 := st13.step hb14 st13.lt
  go_wp2
  go_ret
  exact ⟨rfl, st14.below⟩
set_option maxRecDepth 100000 in
set_option maxHeartbeats 1000000 in
theorem law_zx (mb mo n cap : Nat) (f : Nat → Int) (p4 p6 : Addr) (w : World) (hn : n ≤ 1048576) (h236 : 236 ≤ n) (hcap : n ≤ cap) (hf : Bd f) (hr : Ready w p4 p6)
    (hm : ∀ j, j < n → w.cell? ⟨mb, mo + j, none⟩ = some (.int .u8 (f j))) (hnx : ¬ (f 12 = 0 ∧ f 13 = 0 ∧ f 14 = 0 ∧ f 15 = 0)) :
    Calls Tryd.prog 3 #[.slice (some ⟨mb, mo, none⟩) n cap, .agg #[.int .u8 0, .int .u8 0, .int .u8 0, .int .u8 0]] w fun e w' => e = .returned (.bool true) ∧ Below w.heap.size w w' := by
  have hmz : mb < w.heap.size := World.block_lt_of_cell? _ _ (hm 0 (by omega))
  have st0 : St w (w.alloc (.cells #[.int .u8 0, .int .u8 0, .int .u8 0, .int .u8 0] 23)) p4 p6 mb mo n f 0 0 0 0 := by
    have hb := (Below.refl w.heap.size w).alloc (Nat.le_refl _) (.cells #[.int .u8 0, .int .u8 0, .int .u8 0, .int .u8 0] 23)
    refine ⟨hr.below hb, ⟨by go_simp, by go_simp, by go_simp, by go_simp, by omega, by omega, by omega, by omega, by omega, by omega, by omega, by omega⟩, fun j hj => ?_, hb, hmz, hr.size⟩
    rw [hb.cell (p := ⟨mb, mo + j, none⟩) hmz]; exact hm j hj
  have HM : Hid (∀ j, j < n → w.cell? ⟨mb, mo + j, none⟩ = some (.int .u8 (f j))) := hm
  clear hm
  go_enter Tryd.func3, Tryd.ntmps3
  go_wp2_with fail
  refine (bytesOk _ _ _ _ _ _ _ _ hn).mono ?_
  rintro e w1 ⟨rfl, hb1⟩
  have st1 := st0.step hb1 st0.lt
  go_wp2_with fail
  refine (clone' mb mo n cap f _ hn (by omega) hf st1).mono ?_
  rintro e w2 ⟨rfl, hb2, r2⟩
  have st2 := st1.step hb2 st1.lt
  have l1 := st1.lt
  have q2 := st2.g
  obtain ⟨k0, k1, k2, k3, _, _, _, _, _, _, _, _⟩ := q2
  simp only [Nat.zero_add] at k1 k2 k3
  go_wp2_with fail
  clear k0 k1 k2 k3
  refine (put4' 24 _ n n f 0 0 0 0 _ (by omega) hn r2 (by omega) (by omega) (by omega) (by omega) (by omega) (by omega) (by omega) (by omega)).mono ?_
  rintro e w3 ⟨rfl, hb3, r3⟩
  have st3 := st2.step hb3 l1
  have z3 : w1.heap.size < w3.heap.size := World.block_lt_of_cell? _ _ (r3.cell 0 (by omega))
  go_wp2_with fail
  refine (clone' mb mo n cap f _ hn (by omega) hf st3).mono ?_
  rintro e w4 ⟨rfl, hb4, d4⟩
  have st4 := st3.step hb4 st3.lt
  have l3 := st3.lt
  have r4 := r3.below hb4 z3
  go_wp2_with fail
  refine (put4' 24 _ n n f 0 0 0 0 _ (by omega) hn d4 (by omega) (by omega) (by omega) (by omega) (by omega) (by omega) (by omega) (by omega)).mono ?_
  rintro e w5 ⟨rfl, hb5, d5⟩
  have st5 := st4.step hb5 l3
  have r5 := r4.below hb5 z3
  have q5 := st5.g
  obtain ⟨k0, k1, k2, k3, _, _, _, _, _, _, _, _⟩ := q5
  simp only [Nat.zero_add] at k1 k2 k3
  go_wp2_with fail
  clear k0 k1 k2 k3
  refine (put4' 12 _ n n _ 0 0 0 0 _ (by omega) hn d5 (by omega) (by omega) (by omega) (by omega) (by omega) (by omega) (by omega) (by omega)).mono ?_
  rintro e w6 ⟨rfl, hb6, d6⟩
  have st6 := st5.step hb6 l3
  have r6 := r5.below hb6 z3
  have z6 : w3.heap.size < w6.heap.size := World.block_lt_of_cell? _ _ (d6.cell 0 (by omega))
  go_wp2_with fail
  refine (clone' mb mo n cap f _ hn (by omega) hf st6).mono ?_
  rintro e w7 ⟨rfl, hb7, m7⟩
  have st7 := st6.step hb7 st6.lt
  have l6 := st6.lt
  have r7 := r6.below hb7 (by omega)
  have d7 := d6.below hb7 z6
  go_wp2_with fail
  refine (put4' 24 _ n n f 0 0 0 0 _ (by omega) hn m7 (by omega) (by omega) (by omega) (by omega) (by omega) (by omega) (by omega) (by omega)).mono ?_
  rintro e w8 ⟨rfl, hb8, m8⟩
  have st8 := st7.step hb8 l6
  have r8 := r7.below hb8 (by omega)
  have d8 := d7.below hb8 z6
  go_wp2_with fail
  refine (put4' 12 _ n n _ 0 0 0 0 _ (by omega) hn m8 (by omega) (by omega) (by omega) (by omega) (by omega) (by omega) (by omega) (by omega)).mono ?_
  rintro e w9 ⟨rfl, hb9, m9⟩
  have st9 := st8.step hb9 l6
  have r9 := r8.below hb9 (by omega)
  have d9 := d8.below hb9 z6
  have l9 := st9.lt
  have z9 : w6.heap.size < w9.heap.size := World.block_lt_of_cell? _ _ (m9.cell 0 (by omega))
  clear hb1 hb2 hb3 hb4 hb5 hb6 hb7 hb8 hb9 st1 st2 st3 st4 st5 st6 st7 st8 r2 r3 r4 r5 r6 r7 r8 d4 d5 d6 d7 d8 m7 m8 l1 l3 l6
  go_wp2_with fail
  have hx := r9.four 12 (by omega)
  refine (selectB (f 12) (f 13) (f 14) (f 15) _ n n p4 p6 _ st9.ready (by omega) (Nat.le_refl _) (r9.four 24 (by omega)) hx hnx).mono ?_
  rintro e w10 ⟨na, rfl, hb10, ha, A10⟩
  have st10 := st9.step hb10 l9
  have d10 := d9.below hb10 (by omega)
  have m10 := m9.below hb10 z9
  have l10 := st10.lt
  have z10 : w9.heap.size ≤ w10.heap.size := hb10.size
  go_wp2_with fail
  refine (selectC _ n n p4 p6 _ st10.ready (by omega) (Nat.le_refl _) (d10.four 24 (by omega)) (d10.four 12 (by omega))).mono ?_
  rintro e w11 ⟨rfl, hb11⟩
  have st11 := st10.step hb11 l10
  have m11 := m10.below hb11 (by omega)
  have l11 := st11.lt
  have z11 : w10.heap.size ≤ w11.heap.size := hb11.size
  go_wp2_with fail
  refine (selectC _ n n p4 p6 _ st11.ready (by omega) (Nat.le_refl _) (m11.four 24 (by omega)) (m11.four 12 (by omega))).mono ?_
  rintro e w12 ⟨rfl, hb12⟩
  have st12 := st11.step hb12 l11
  have q12 := st12.g
  obtain ⟨k0, k1, k2, k3, _, _, _, _, _, _, _, _⟩ := q12
  simp only [Nat.zero_add] at k1 k2 k3
  clear m9 m10 m11 d9 d10 r9
  have A12 := (A10.below hb11 A10.lt).below hb12 (by have := A10.lt; omega)
  have X12 : Four w12 mb (mo + 12) (f 12) (f 13) (f 14) (f 15) := ⟨st12.m 12 (by omega), st12.m 13 (by omega), st12.m 14 (by omega), st12.m 15 (by omega), (hf _).1, (hf _).2, (hf _).1, (hf _).2, (hf _).1, (hf _).2, (hf _).1, (hf _).2⟩
  go_wp2_with fail
  refine (zero4_no mb mo n cap _ _ _ _ _ X12 (by omega) hnx).mono ?_
  rintro e w13 ⟨rfl, rfl⟩
  go_wp2_with fail
  refine (same4 na mb _ _ _ _ _ _ _ A12 X12).mono ?_
  rintro e w14 ⟨rfl, hb14⟩
  have st14 := st12.step hb14 st12.lt
  go_wp2
  go_ret
  exact ⟨rfl, st14.below⟩
set_option maxRecDepth 100000 in
set_option maxHeartbeats 1000000 in
theorem law_zz (mb mo n cap : Nat) (f : Nat → Int) (p4 p6 : Addr) (w : World) (hn : n ≤ 1048576) (h236 : 236 ≤ n) (hf : Bd f) (hr : Ready w p4 p6)
    (hm : ∀ j, j < n → w.cell? ⟨mb, mo + j, none⟩ = some (.int .u8 (f j))) (hx0 : f 12 = 0) (hx1 : f 13 = 0) (hx2 : f 14 = 0) (hx3 : f 15 = 0) :
    Calls Tryd.prog 3 #[.slice (some ⟨mb, mo, none⟩) n cap, .agg #[.int .u8 0, .int .u8 0, .int .u8 0, .int .u8 0]] w fun e w' => e = .returned (.bool true) ∧ Below w.heap.size w w' := by
  have hmz : mb < w.heap.size := World.block_lt_of_cell? _ _ (hm 0 (by omega))
  have st0 : St w (w.alloc (.cells #[.int .u8 0, .int .u8 0, .int .u8 0, .int .u8 0] 23)) p4 p6 mb mo n f 0 0 0 0 := by
    have hb := (Below.refl w.heap.size w).alloc (Nat.le_refl _) (.cells #[.int .u8 0, .int .u8 0, .int .u8 0, .int .u8 0] 23)
    refine ⟨hr.below hb, ⟨by go_simp, by go_simp, by go_simp, by go_simp, by omega, by omega, by omega, by omega, by omega, by omega, by omega, by omega⟩, fun j hj => ?_, hb, hmz, hr.size⟩
    rw [hb.cell (p := ⟨mb, mo + j, none⟩) hmz]; exact hm j hj
  have HM : Hid (∀ j, j < n → w.cell? ⟨mb, mo + j, none⟩ = some (.int .u8 (f j))) := hm
  clear hm
  go_enter Tryd.func3, Tryd.ntmps3
  go_wp2_with fail
  refine (bytesOk _ _ _ _ _ _ _ _ hn).mono ?_
  rintro e w1 ⟨rfl, hb1⟩
  have st1 := st0.step hb1 st0.lt
  go_wp2_with fail
  refine (clone' mb mo n cap f _ hn (by omega) hf st1).mono ?_
  rintro e w2 ⟨rfl, hb2, r2⟩
  have st2 := st1.step hb2 st1.lt
  have l1 := st1.lt
  have q2 := st2.g
  obtain ⟨k0, k1, k2, k3, _, _, _, _, _, _, _, _⟩ := q2
  simp only [Nat.zero_add] at k1 k2 k3
  go_wp2_with fail
  clear k0 k1 k2 k3
  refine (put4' 24 _ n n f 0 0 0 0 _ (by omega) hn r2 (by omega) (by omega) (by omega) (by omega) (by omega) (by omega) (by omega) (by omega)).mono ?_
  rintro e w3 ⟨rfl, hb3, r3⟩
  have st3 := st2.step hb3 l1
  have z3 : w1.heap.size < w3.heap.size := World.block_lt_of_cell? _ _ (r3.cell 0 (by omega))
  go_wp2_with fail
  refine (clone' mb mo n cap f _ hn (by omega) hf st3).mono ?_
  rintro e w4 ⟨rfl, hb4, d4⟩
  have st4 := st3.step hb4 st3.lt
  have l3 := st3.lt
  have r4 := r3.below hb4 z3
  go_wp2_with fail
  refine (put4' 24 _ n n f 0 0 0 0 _ (by omega) hn d4 (by omega) (by omega) (by omega) (by omega) (by omega) (by omega) (by omega) (by omega)).mono ?_
  rintro e w5 ⟨rfl, hb5, d5⟩
  have st5 := st4.step hb5 l3
  have r5 := r4.below hb5 z3
  have q5 := st5.g
  obtain ⟨k0, k1, k2, k3, _, _, _, _, _, _, _, _⟩ := q5
  simp only [Nat.zero_add] at k1 k2 k3
  go_wp2_with fail
  clear k0 k1 k2 k3
  refine (put4' 12 _ n n _ 0 0 0 0 _ (by omega) hn d5 (by omega) (by omega) (by omega) (by omega) (by omega) (by omega) (by omega) (by omega)).mono ?_
  rintro e w6 ⟨rfl, hb6, d6⟩
  have st6 := st5.step hb6 l3
  have r6 := r5.below hb6 z3
  have z6 : w3.heap.size < w6.heap.size := World.block_lt_of_cell? _ _ (d6.cell 0 (by omega))
  go_wp2_with fail
  refine (clone' mb mo n cap f _ hn (by omega) hf st6).mono ?_
  rintro e w7 ⟨rfl, hb7, m7⟩
  have st7 := st6.step hb7 st6.lt
  have l6 := st6.lt
  have r7 := r6.below hb7 (by omega)
  have d7 := d6.below hb7 z6
  go_wp2_with fail
  refine (put4' 24 _ n n f 0 0 0 0 _ (by omega) hn m7 (by omega) (by omega) (by omega) (by omega) (by omega) (by omega) (by omega) (by omega)).mono ?_
  rintro e w8 ⟨rfl, hb8, m8⟩
  have st8 := st7.step hb8 l6
  have r8 := r7.below hb8 (by omega)
  have d8 := d7.below hb8 z6
  go_wp2_with fail
  refine (put4' 12 _ n n _ 0 0 0 0 _ (by omega) hn m8 (by omega) (by omega) (by omega) (by omega) (by omega) (by omega) (by omega) (by omega)).mono ?_
  rintro e w9 ⟨rfl, hb9, m9⟩
  have st9 := st8.step hb9 l6
  have r9 := r8.below hb9 (by omega)
  have d9 := d8.below hb9 z6
  have l9 := st9.lt
  have z9 : w6.heap.size < w9.heap.size := World.block_lt_of_cell? _ _ (m9.cell 0 (by omega))
  clear hb1 hb2 hb3 hb4 hb5 hb6 hb7 hb8 hb9 st1 st2 st3 st4 st5 st6 st7 st8 r2 r3 r4 r5 r6 r7 r8 d4 d5 d6 d7 d8 m7 m8 l1 l3 l6
  go_wp2_with fail
  have hx := r9.four 12 (by omega)
  rw [show upd f 24 0 0 0 0 12 = 0 from hx0, show upd f 24 0 0 0 0 (12 + 1) = 0 from hx1, show upd f 24 0 0 0 0 (12 + 2) = 0 from hx2, show upd f 24 0 0 0 0 (12 + 3) = 0 from hx3] at hx
  refine (selectC _ n n p4 p6 _ st9.ready (by omega) (Nat.le_refl _) (r9.four 24 (by omega)) hx).mono ?_
  rintro e w10 ⟨rfl, hb10⟩
  have st10 := st9.step hb10 l9
  have d10 := d9.below hb10 (by omega)
  have m10 := m9.below hb10 z9
  have l10 := st10.lt
  have z10 : w9.heap.size ≤ w10.heap.size := hb10.size
  go_wp2_with fail
  refine (selectC _ n n p4 p6 _ st10.ready (by omega) (Nat.le_refl _) (d10.four 24 (by omega)) (d10.four 12 (by omega))).mono ?_
  rintro e w11 ⟨rfl, hb11⟩
  have st11 := st10.step hb11 l10
  have m11 := m10.below hb11 (by omega)
  have l11 := st11.lt
  have z11 : w10.heap.size ≤ w11.heap.size := hb11.size
  go_wp2_with fail
  refine (selectC _ n n p4 p6 _ st11.ready (by omega) (Nat.le_refl _) (m11.four 24 (by omega)) (m11.four 12 (by omega))).mono ?_
  rintro e w12 ⟨rfl, hb12⟩
  have st12 := st11.step hb12 l11
  have q12 := st12.g
  obtain ⟨k0, k1, k2, k3, _, _, _, _, _, _, _, _⟩ := q12
  simp only [Nat.zero_add] at k1 k2 k3
  clear m9 m10 m11 d9 d10 r9
  have X12 : Four w12 mb (mo + 12) 0 0 0 0 := ⟨by have := st12.m 12 (by omega); rwa [hx0] at this, by have := st12.m 13 (by omega); rwa [hx1] at this, by have := st12.m 14 (by omega); rwa [hx2] at this, by have := st12.m 15 (by omega); rwa [hx3] at this, by omega, by omega, by omega, by omega, by omega, by omega, by omega, by omega⟩
  go_wp2_with fail
  refine (zero4_yes mb mo n cap _ X12 (by omega)).mono ?_
  rintro e w13 ⟨rfl, rfl⟩
  go_wp2_with fail
  refine (same0 _).mono ?_
  rintro e w14 ⟨rfl, hb14⟩
  have st14 := st12.step hb14 st12.lt
  go_wp2
  go_ret
  exact ⟨rfl, st14.below⟩
end Go.Proofs.Qxb6609530aDoor
