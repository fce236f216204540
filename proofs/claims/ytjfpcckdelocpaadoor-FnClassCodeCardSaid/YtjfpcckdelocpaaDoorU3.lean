/- A part of the proof: what functions of the program do, step by step. -/
import Derived.Test.YtjfpcckdelocpaaDoorEngE
set_option linter.unusedVariables false
set_option linter.unusedSimpArgs false
namespace Go.Proofs.Eng
theorem wrap32 {n : Nat} (h : n < 2147483648) : IntKind.i32.wrap (n : Int) = n := wrap_in (by simp only [kLo]; omega) (by simp only [kHi]; omega)
theorem ofInt32 (n : Nat) : BitVec.ofInt 32 (n : Int) = BitVec.ofNat 32 n := by simp
theorem and_low {s k : Nat} (hs : s < 2147483648) (hk : k ≤ 30) : bitop .and .i32 (s : Int) ((2 ^ k - 1 : Nat) : Int) = (s % 2 ^ k : Nat) := by
  have h2 : 2 ^ k ≤ 2 ^ 30 := Nat.pow_le_pow_right (by omega) hk
  have hp : 0 < 2 ^ k := Nat.pow_pos (by omega)
  have e : (BitVec.ofInt 32 (s : Int) &&& BitVec.ofInt 32 ((2 ^ k - 1 : Nat) : Int)).toNat = s % 2 ^ k := by
    rw [ofInt32, ofInt32, BitVec.toNat_and, BitVec.toNat_ofNat, BitVec.toNat_ofNat, Nat.mod_eq_of_lt (by omega), Nat.mod_eq_of_lt (by omega), Nat.and_two_pow_sub_one_eq_mod]
  show IntKind.i32.wrap ((BitVec.ofInt 32 (s : Int) &&& BitVec.ofInt 32 ((2 ^ k - 1 : Nat) : Int)).toNat : Int) = _
  rw [e, wrap32]
  have := Nat.mod_le s (2 ^ k)
  omega
theorem nat_or_low (s k : Nat) : s ||| (2 ^ k - 1) = s / 2 ^ k * 2 ^ k + (2 ^ k - 1) := by
  have hp : 0 < 2 ^ k := Nat.pow_pos (by omega)
  rw [Nat.mul_comm, Nat.two_pow_add_eq_or_of_lt (by omega)]
  apply Nat.eq_of_testBit_eq
  intro i
  rw [Nat.testBit_or, Nat.testBit_or, Nat.testBit_two_pow_sub_one, Nat.testBit_two_pow_mul, Nat.testBit_div_two_pow]
  by_cases h : i < k
  · simp [h]
  · simp [h, show k ≤ i by omega]
theorem or_low {s k : Nat} (hs : s < 2147483648) (hk : k ≤ 30) : bitop .or .i32 (s : Int) ((2 ^ k - 1 : Nat) : Int) = (s / 2 ^ k * 2 ^ k + (2 ^ k - 1) : Nat) := by
  have h2 : 2 ^ k ≤ 2 ^ 30 := Nat.pow_le_pow_right (by omega) hk
  have hp : 0 < 2 ^ k := Nat.pow_pos (by omega)
  have e : (BitVec.ofInt 32 (s : Int) ||| BitVec.ofInt 32 ((2 ^ k - 1 : Nat) : Int)).toNat = s / 2 ^ k * 2 ^ k + (2 ^ k - 1) := by
    rw [ofInt32, ofInt32, BitVec.toNat_or, BitVec.toNat_ofNat, BitVec.toNat_ofNat, Nat.mod_eq_of_lt (by omega), Nat.mod_eq_of_lt (by omega), nat_or_low]
  show IntKind.i32.wrap ((BitVec.ofInt 32 (s : Int) ||| BitVec.ofInt 32 ((2 ^ k - 1 : Nat) : Int)).toNat : Int) = _
  rw [e, wrap32]
  have h3 : s ||| (2 ^ k - 1) < 2 ^ 31 := Nat.or_lt_two_pow (by omega) (by omega)
  rw [nat_or_low] at h3
  omega
theorem nat_and_high (s k : Nat) (hs : s < 2 ^ 32) (hk : k ≤ 32) : s &&& (2 ^ 32 - 2 ^ k) = s / 2 ^ k * 2 ^ k := by
  have e : 2 ^ 32 - 2 ^ k = 2 ^ k * (2 ^ (32 - k) - 1) := by
    rw [Nat.mul_sub, ← Nat.pow_add, show k + (32 - k) = 32 by omega, Nat.mul_one]
  apply Nat.eq_of_testBit_eq
  intro i
  rw [e, Nat.testBit_and, Nat.mul_comm (s / 2 ^ k), Nat.testBit_two_pow_mul, Nat.testBit_two_pow_mul, Nat.testBit_two_pow_sub_one, Nat.testBit_div_two_pow]
  by_cases h : k ≤ i
  · by_cases h1 : i < 32
    · simp [h, show i - k < 32 - k by omega]
    · have : s.testBit i = false := Nat.testBit_lt_two_pow (Nat.lt_of_lt_of_le hs (Nat.pow_le_pow_right (by omega) (by omega)))
      simp [this, h]
  · simp [h]
theorem and_high {s k : Nat} (hs : s < 2147483648) (hk : k ≤ 30) : bitop .and .i32 (s : Int) (-((2 ^ k - 1 : Nat) : Int) - 1) = (s / 2 ^ k * 2 ^ k : Nat) := by
  have h2 : 2 ^ k ≤ 2 ^ 30 := Nat.pow_le_pow_right (by omega) hk
  have hp : 0 < 2 ^ k := Nat.pow_pos (by omega)
  have e1 : (-((2 ^ k - 1 : Nat) : Int) - 1) = -((2 ^ k : Nat) : Int) := by omega
  have e : (BitVec.ofInt 32 (s : Int) &&& BitVec.ofInt 32 (-((2 ^ k : Nat) : Int))).toNat = s / 2 ^ k * 2 ^ k := by
    rw [ofInt32, BitVec.toNat_and, BitVec.toNat_ofNat, Nat.mod_eq_of_lt (by omega), ← nat_and_high s k (by omega) (by omega), BitVec.toNat_ofInt]
    congr 1
    generalize 2 ^ k = m at *
    omega
  show IntKind.i32.wrap ((BitVec.ofInt 32 (s : Int) &&& BitVec.ofInt 32 (-((2 ^ k - 1 : Nat) : Int) - 1)).toNat : Int) = _
  rw [e1, e, wrap32]
  have := Nat.div_mul_le_self s (2 ^ k)
  omega
end Go.Proofs.Eng
