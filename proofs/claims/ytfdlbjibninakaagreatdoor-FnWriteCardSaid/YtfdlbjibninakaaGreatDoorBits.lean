/- Single bits and masks of numbers. -/
import Derived.Test.YtfdlbjibninakaaGreatDoorBase2
import Derived.Laws.BitsAllLaws
set_option linter.unusedVariables false
set_option linter.unusedSimpArgs false
namespace Go.Proofs.YtfdlbjibninakaaGreatDoor

theorem and_bit (n i : Nat) : n &&& 2 ^ i = n / 2 ^ i % 2 * 2 ^ i := by
  apply Nat.eq_of_testBit_eq
  intro j
  rw [Nat.testBit_and, Nat.testBit_two_pow]
  by_cases h : n / 2 ^ i % 2 = 1
  · rw [h, Nat.one_mul, Nat.testBit_two_pow]
    by_cases e : i = j
    · subst e; simp [Nat.testBit_eq_decide_div_mod_eq, h]
    · simp [e]
  · have h0 : n / 2 ^ i % 2 = 0 := by omega
    rw [h0, Nat.zero_mul, Nat.zero_testBit]
    by_cases e : i = j
    · subst e; simp [Nat.testBit_eq_decide_div_mod_eq, h0]
    · simp [e]
theorem u32_bit (s : Int) (i : Nat) (h0 : 0 ≤ s) (h1 : s < 4294967296) (hi : 2 ^ i < 4294967296) : bits .and .u32 s ((2 ^ i : Nat) : Int) = s / ((2 ^ i : Nat) : Int) % 2 * ((2 ^ i : Nat) : Int) := by
  obtain ⟨n, rfl⟩ := Int.eq_ofNat_of_zero_le h0
  rw [u32_and_nat n (2 ^ i) (by omega) hi, and_bit]
  simp only [Int.natCast_mul, Int.natCast_emod, Int.natCast_ediv]
  rfl
theorem u32_top (s : Int) (h0 : 0 ≤ s) (h1 : s < 4294967296) : bits .and .u32 s 2147483648 = s / 2147483648 * 2147483648 := by
  have := u32_bit s 31 h0 h1 (by decide)
  rw [show ((2 ^ 31 : Nat) : Int) = 2147483648 from rfl] at this
  rw [this]
  omega
theorem u32_low (s : Int) (h0 : 0 ≤ s) (h1 : s < 4294967296) : bits .and .u32 s 2147483647 = s % 2147483648 := by
  obtain ⟨n, rfl⟩ := Int.eq_ofNat_of_zero_le h0
  have := u32_and_nat n 2147483647 (by omega) (by omega)
  rw [show ((2147483647 : Nat) : Int) = 2147483647 from rfl] at this
  rw [this, show (2147483647 : Nat) = 2 ^ 31 - 1 from rfl, Nat.and_two_pow_sub_one_eq_mod]
  rfl
theorem u8_bit (s : Int) (i : Nat) (h0 : 0 ≤ s) (h1 : s < 256) (hi : 2 ^ i < 256) : bits .and .u8 s ((2 ^ i : Nat) : Int) = s / ((2 ^ i : Nat) : Int) % 2 * ((2 ^ i : Nat) : Int) := by
  obtain ⟨n, rfl⟩ := Int.eq_ofNat_of_zero_le h0
  rw [u8_and_nat n (2 ^ i) (by omega) hi, and_bit]
  simp only [Int.natCast_mul, Int.natCast_emod, Int.natCast_ediv]
  rfl
theorem u8_and1 (s : Int) (h0 : 0 ≤ s) (h1 : s < 256) : bits .and .u8 s 1 = s % 2 := by
  have := u8_bit s 0 h0 h1 (by decide)
  simpa using this
theorem u8_and4 (s : Int) (h0 : 0 ≤ s) (h1 : s < 256) : bits .and .u8 s 4 = s / 4 % 2 * 4 := u8_bit s 2 h0 h1 (by decide)
theorem u8_and8 (s : Int) (h0 : 0 ≤ s) (h1 : s < 256) : bits .and .u8 s 8 = s / 8 % 2 * 8 := u8_bit s 3 h0 h1 (by decide)
theorem u8_and32 (s : Int) (h0 : 0 ≤ s) (h1 : s < 256) : bits .and .u8 s 32 = s / 32 % 2 * 32 := u8_bit s 5 h0 h1 (by decide)
end Go.Proofs.YtfdlbjibninakaaGreatDoor
