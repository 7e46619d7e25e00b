/- PLAIN: bits of a time's wall word; nanoseconds. -/
import Derived.Laws.BitsAllLaws
namespace Go.Proofs.Ybulkdncy

theorem low_and_high (x k s : Nat) (h : x < 2 ^ s) : x &&& (k <<< s) = 0 := by
  apply Nat.eq_of_testBit_eq
  intro i
  rw [Nat.testBit_and, Nat.testBit_shiftLeft, Nat.zero_testBit]
  by_cases hi : s ≤ i
  · rw [Nat.testBit_lt_two_pow (Nat.lt_of_lt_of_le h (Nat.pow_le_pow_right (by omega) hi))]; simp
  · simp [hi]

theorem mask30 (n : Int) (h0 : 0 ≤ n) (h1 : n < 1000000000) : bits .and .u64 n 1073741823 = n := by
  rw [u64_and n 1073741823 h0 (by omega) (by omega) (by omega)]
  have : n.toNat &&& 1073741823 = n.toNat := by
    have := Nat.and_two_pow_sub_one_eq_mod n.toNat 30
    rw [show (2 : Nat) ^ 30 - 1 = 1073741823 from rfl] at this
    rw [this, Nat.mod_eq_of_lt (by omega)]
  rw [show ((1073741823 : Int)).toNat = 1073741823 from rfl, this]; omega

theorem unmask30 (n : Int) (h0 : 0 ≤ n) (h1 : n < 1000000000) : bits .andNot .u64 n 1073741823 = 0 := by
  rw [u64_andNot n 1073741823 h0 (by omega) (by omega) (by omega)]
  have : n.toNat &&& (18446744073709551615 - (1073741823 : Int).toNat) = 0 := by
    have := low_and_high n.toNat 17179869183 30 (by omega)
    rwa [show (17179869183 : Nat) <<< 30 = 18446744073709551615 - (1073741823 : Int).toNat from rfl] at this
  rw [this]; rfl

theorem mono0 (n : Int) (h0 : 0 ≤ n) (h1 : n < 1000000000) : bits .and .u64 n 9223372036854775808 = 0 := by
  rw [u64_and n 9223372036854775808 h0 (by omega) (by omega) (by omega)]
  have : n.toNat &&& (9223372036854775808 : Int).toNat = 0 := by
    have := low_and_high n.toNat 8589934592 30 (by omega)
    rwa [show (8589934592 : Nat) <<< 30 = (9223372036854775808 : Int).toNat from rfl] at this
  rw [this]; rfl

theorem or0 (n : Int) (h0 : 0 ≤ n) (h1 : n < 1000000000) : bits .or .u64 0 n = n := by
  rw [u64_or 0 n (by omega) (by omega) h0 (by omega)]
  simp; omega

theorem and2 (m n : Int) (h0 : 0 ≤ m) (h1 : m < 1000000000) (h2 : 0 ≤ n) (h3 : n < 1000000000) : bits .and .u64 (bits .and .u64 m n) 9223372036854775808 = 0 := by
  rw [u64_and m n h0 (by omega) h2 (by omega)]
  have hle : m.toNat &&& n.toNat ≤ m.toNat := Nat.and_le_left
  exact mono0 _ (by omega) (by omega)
end Go.Proofs.Ybulkdncy
