/-
  OWN TEXT of this seat: plain facts on numbers: an IPv4 address's low word, built by shifts and ors, and its four bytes.
-/
import Derived.Laws.BitsAllLaws
namespace Go.Proofs.Qxb6609530aDoor
open Go

/-- the low word that AddrFrom4 lays -/
def lo4 (a b c d : Int) : Int := 281470681743360 + a * 16777216 + b * 65536 + c * 256 + d

theorem or_add (k : Nat) (m : Nat) (y : Int) (h0 : 0 ≤ y) (h1 : y.toNat < 2 ^ k) (h2 : 2 ^ k * m < 18446744073709551616) (h3 : 2 ^ k ≤ 18446744073709551616) :
    bits .or .u64 ((2 ^ k * m : Nat) : Int) y = ((2 ^ k * m : Nat) : Int) + y := by
  obtain ⟨n, rfl⟩ : ∃ n : Nat, y = n := ⟨y.toNat, by omega⟩
  have h1 : n < 2 ^ k := h1
  rw [u64_or_nat _ _ h2 (by omega), ← Nat.two_pow_add_eq_or_of_lt h1]
  simp

theorem or32 (x y : Int) (m : Nat) (hx : x = 4294967296 * m) (hm : m < 4294967296) (h0 : 0 ≤ y) (h1 : y < 4294967296) : bits .or .u64 x y = x + y := by
  have := or_add 32 m y h0 (by omega) (by omega) (by omega)
  rw [show ((2 ^ 32 * m : Nat) : Int) = x from by omega] at this
  exact this
theorem or24 (x y : Int) (m : Nat) (hx : x = 16777216 * m) (hm : m < 1099511627776) (h0 : 0 ≤ y) (h1 : y < 16777216) : bits .or .u64 x y = x + y := by
  have := or_add 24 m y h0 (by omega) (by omega) (by omega)
  rw [show ((2 ^ 24 * m : Nat) : Int) = x from by omega] at this
  exact this
theorem or16 (x y : Int) (m : Nat) (hx : x = 65536 * m) (hm : m < 281474976710656) (h0 : 0 ≤ y) (h1 : y < 65536) : bits .or .u64 x y = x + y := by
  have := or_add 16 m y h0 (by omega) (by omega) (by omega)
  rw [show ((2 ^ 16 * m : Nat) : Int) = x from by omega] at this
  exact this
theorem or8 (x y : Int) (m : Nat) (hx : x = 256 * m) (hm : m < 72057594037927936) (h0 : 0 ≤ y) (h1 : y < 256) : bits .or .u64 x y = x + y := by
  have := or_add 8 m y h0 (by omega) (by omega) (by omega)
  rw [show ((2 ^ 8 * m : Nat) : Int) = x from by omega] at this
  exact this

theorem or4 (a b c d : Int) (ha0 : 0 ≤ a) (ha1 : a ≤ 255) (hb0 : 0 ≤ b) (hb1 : b ≤ 255) (hc0 : 0 ≤ c) (hc1 : c ≤ 255) (hd0 : 0 ≤ d) (hd1 : d ≤ 255) :
    bits .or .u64 (bits .or .u64 (bits .or .u64 (bits .or .u64 281470681743360 (a * 16777216)) (b * 65536)) (c * 256)) d = lo4 a b c d := by
  rw [or32 281470681743360 (a * 16777216) 65535 (by omega) (by omega) (by omega) (by omega)]
  rw [or24 (281470681743360 + a * 16777216) (b * 65536) (16776960 + a.toNat) (by omega) (by omega) (by omega) (by omega)]
  rw [or16 (281470681743360 + a * 16777216 + b * 65536) (c * 256) (4294901760 + a.toNat * 256 + b.toNat) (by omega) (by omega) (by omega) (by omega)]
  rw [or8 (281470681743360 + a * 16777216 + b * 65536 + c * 256) d (1099494850560 + a.toNat * 65536 + b.toNat * 256 + c.toNat) (by omega) (by omega) (by omega) (by omega)]
  rfl

theorem lo4_zero (a b c d : Int) (ha0 : 0 ≤ a) (hb0 : 0 ≤ b) (hc0 : 0 ≤ c) (hd0 : 0 ≤ d) : lo4 a b c d = 281470681743360 ↔ (a = 0 ∧ b = 0 ∧ c = 0 ∧ d = 0) := by
  unfold lo4; omega

end Go.Proofs.Qxb6609530aDoor
