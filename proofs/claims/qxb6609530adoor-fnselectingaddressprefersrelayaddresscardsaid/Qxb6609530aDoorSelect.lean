/-
  OWN TEXT of this seat: what zzSelect answers for DHCPv4.
-/
import Derived.Test.Qxb6609530aDoorSel
namespace Go.Proofs.Qxb6609530aDoor
open Go.RowKit
set_option maxHeartbeats 400000 in
theorem newIx (w : World) (bb len cap : Nat) :
    Calls Tryd.prog 12 #[.slice (some ⟨bb, 0, none⟩) len cap] w fun e w' => e = .returned (.pointer (some ⟨w.heap.size, 0, none⟩)) ∧ Below w.heap.size w w' ∧ w'.cell? ⟨w.heap.size, 0, none⟩ = some (.slice (some ⟨bb, 0, none⟩) len cap) := by
  go_enter Tryd.func12, Tryd.ntmps12
  go_wp2
  go_ret
  exact ⟨rfl, (Below.refl _ _).alloc (Nat.le_refl _) _, by go_simp⟩

/-- 'selectingAddress, called so, hands back v' (behind a name, so that the walk does not look into it) -/
def Sels (mb : Nat) (w : World) (v : Value) : Prop :=
  Calls Tryd.prog 13 #[.pointer (some ⟨mb, 0, none⟩), .int .u8 4] w fun e w' => e = .returned v ∧ Below w.heap.size w w'
theorem Sels.out {mb : Nat} {w : World} {v : Value} (h : Sels mb w v) : Calls Tryd.prog 13 #[.pointer (some ⟨mb, 0, none⟩), .int .u8 4] w fun e w' => e = .returned v ∧ Below w.heap.size w w' := h

/-- 'four bytes of the call's own, a b c d' -/
def IsFour (w w' : World) (e : Ending) (a b c d : Int) : Prop :=
  ∃ nb, e = .returned (.slice (some ⟨nb, 0, none⟩) 4 4) ∧ Below w.heap.size w w' ∧ w.heap.size ≤ nb ∧ Four w' nb 0 a b c d

set_option maxHeartbeats 400000 in
/-- out of a contract of selectingAddress that ends in an IPv4 address: ZZselectingAddressBytes -/
theorem bytesOf (a b c d : Int) (mb : Nat) (p4 p6 : Addr) (w : World) (hr : Ready w p4 p6)
    (h0 : 0 ≤ a) (h1 : a ≤ 255) (h2 : 0 ≤ b) (h3 : b ≤ 255) (h4 : 0 ≤ c) (h5 : c ≤ 255) (h6 : 0 ≤ d) (h7 : d ≤ 255)
    (hsel : Sels mb w (.agg #[.int .u64 0, .int .u64 (lo4 a b c d), .pointer (some p4)])) :
    Calls Tryd.prog 11 #[.pointer (some ⟨mb, 0, none⟩), .int .u8 4] w fun e w' => IsFour w w' e a b c d := by
  go_enter Tryd.func11, Tryd.ntmps11
  go_wp2_with fail
  refine hsel.out.mono ?_
  rintro e w1 ⟨rfl, hb1⟩
  have hr1 := hr.below hb1
  go_wp2_with fail
  refine (as4b a b c d p4 _ hr1.size hr1.z0 hr1.z4 h0 h1 h2 h3 h4 h5 h6 h7).mono ?_
  rintro e w2 ⟨nb, rfl, hb2, hn1, hn2, k0, k1, k2, k3⟩
  go_wp2
  go_ret
  exact ⟨nb, rfl, hb1.trans (hb2.mono hb1.size), Nat.le_trans hb1.size hn1, ⟨k0, k1, k2, k3, h0, h1, h2, h3, h4, h5, h6, h7⟩⟩

set_option maxHeartbeats 400000 in
theorem bytesOf0 (mb : Nat) (p4 p6 : Addr) (w : World) (hr : Ready w p4 p6)
    (hsel : Sels mb w (.agg #[.int .u64 0, .int .u64 0, .pointer none])) :
    Calls Tryd.prog 11 #[.pointer (some ⟨mb, 0, none⟩), .int .u8 4] w fun e w' => e = .returned (.slice none 0 0) ∧ Below w.heap.size w w' := by
  go_enter Tryd.func11, Tryd.ntmps11
  go_wp2_with fail
  refine hsel.out.mono ?_
  rintro e w1 ⟨rfl, hb1⟩
  have hr1 := hr.below hb1
  go_wp2_with fail
  refine (as0 _ hr1.size hr1.z0).mono ?_
  rintro e w2 ⟨rfl, hb2⟩
  go_wp2
  go_ret
  exact ⟨rfl, hb1.trans (hb2.mono hb1.size)⟩

set_option maxHeartbeats 400000 in
theorem selectA (g0 g1 g2 g3 : Int) (bb : Nat) (len cap : Nat) (p4 p6 : Addr) (w : World) (hr : Ready w p4 p6)
    (hk : 28 ≤ len) (hl : len ≤ cap) (hG : Four w bb 24 g0 g1 g2 g3) (hnz : ¬ (g0 = 0 ∧ g1 = 0 ∧ g2 = 0 ∧ g3 = 0)) :
    Calls Tryd.prog 7 #[.slice (some ⟨bb, 0, none⟩) len cap, .int .u8 4] w fun e w' => IsFour w w' e g0 g1 g2 g3 := by
  have hbz := World.block_lt_of_cell? _ _ hG.c0
  simp only at hbz
  go_enter Tryd.func7, Tryd.ntmps7
  go_wp2_with fail
  refine (newIx _ _ _ _).mono ?_
  rintro e w1 ⟨rfl, hb1, hm⟩
  have hG1 := hG.below hb1 hbz
  have hr1 := hr.below hb1
  go_wp2_with fail
  refine (bytesOf g0 g1 g2 g3 _ p4 p6 _ hr1 hG.a0 hG.a1 hG.b0 hG.b1 hG.e0 hG.e1 hG.d0 hG.d1 (selA g0 g1 g2 g3 _ bb len cap p4 p6 _ hr1 hm hk hl hG1 hnz)).mono ?_
  rintro e w2 ⟨nb, rfl, hb2, hn1, hF⟩
  go_wp2
  go_ret
  exact ⟨nb, rfl, hb1.trans (hb2.mono hb1.size), Nat.le_trans hb1.size hn1, hF⟩

set_option maxHeartbeats 400000 in
theorem selectB (x0 x1 x2 x3 : Int) (bb : Nat) (len cap : Nat) (p4 p6 : Addr) (w : World) (hr : Ready w p4 p6)
    (hk : 28 ≤ len) (hl : len ≤ cap) (hG : Four w bb 24 0 0 0 0) (hX : Four w bb 12 x0 x1 x2 x3) (hnz : ¬ (x0 = 0 ∧ x1 = 0 ∧ x2 = 0 ∧ x3 = 0)) :
    Calls Tryd.prog 7 #[.slice (some ⟨bb, 0, none⟩) len cap, .int .u8 4] w fun e w' => IsFour w w' e x0 x1 x2 x3 := by
  have hbz := World.block_lt_of_cell? _ _ hG.c0
  simp only at hbz
  go_enter Tryd.func7, Tryd.ntmps7
  go_wp2_with fail
  refine (newIx _ _ _ _).mono ?_
  rintro e w1 ⟨rfl, hb1, hm⟩
  have hG1 := hG.below hb1 hbz
  have hX1 := hX.below hb1 hbz
  have hr1 := hr.below hb1
  go_wp2_with fail
  refine (bytesOf x0 x1 x2 x3 _ p4 p6 _ hr1 hX.a0 hX.a1 hX.b0 hX.b1 hX.e0 hX.e1 hX.d0 hX.d1 (selB x0 x1 x2 x3 _ bb len cap p4 p6 _ hr1 hm hk hl hG1 hX1 hnz)).mono ?_
  rintro e w2 ⟨nb, rfl, hb2, hn1, hF⟩
  go_wp2
  go_ret
  exact ⟨nb, rfl, hb1.trans (hb2.mono hb1.size), Nat.le_trans hb1.size hn1, hF⟩

set_option maxHeartbeats 400000 in
theorem selectC (bb : Nat) (len cap : Nat) (p4 p6 : Addr) (w : World) (hr : Ready w p4 p6)
    (hk : 28 ≤ len) (hl : len ≤ cap) (hG : Four w bb 24 0 0 0 0) (hX : Four w bb 12 0 0 0 0) :
    Calls Tryd.prog 7 #[.slice (some ⟨bb, 0, none⟩) len cap, .int .u8 4] w fun e w' => e = .returned (.slice none 0 0) ∧ Below w.heap.size w w' := by
  have hbz := World.block_lt_of_cell? _ _ hG.c0
  simp only at hbz
  go_enter Tryd.func7, Tryd.ntmps7
  go_wp2_with fail
  refine (newIx _ _ _ _).mono ?_
  rintro e w1 ⟨rfl, hb1, hm⟩
  have hG1 := hG.below hb1 hbz
  have hX1 := hX.below hb1 hbz
  have hr1 := hr.below hb1
  go_wp2_with fail
  refine (bytesOf0 _ p4 p6 _ hr1 (selC _ bb len cap p4 p6 _ hr1 hm hk hl hG1 hX1)).mono ?_
  rintro e w2 ⟨rfl, hb2⟩
  go_wp2
  go_ret
  exact ⟨rfl, hb1.trans (hb2.mono hb1.size)⟩

end Go.Proofs.Qxb6609530aDoor
