import Derived.WalkKit
namespace Go.Proofs.Qxb6630445a

theorem wraps_u64 (n : Int) (h₀ : 0 ≤ n) (h₁ : n < 2 ^ 64) : IntKind.u64.wrap n = n := by rw [IntKind.wrap_u64]; omega

theorem u64_mask30 (n : Int) (h0 : 0 ≤ n) (h1 : n < 1000000000) : bits .and .u64 n 1073741823 = n := by
  have := bits_mask .u64 64 (by decide) wraps_u64 30 (by decide) n h0 (by omega)
  rw [show (2 : Int) ^ 30 - 1 = 1073741823 by decide] at this
  rw [this]; omega

theorem u64_top (n : Int) (h0 : 0 ≤ n) (h1 : n < 1000000000) : bits .and .u64 n 9223372036854775808 = 0 := by
  obtain ⟨a, rfl⟩ := Int.eq_ofNat_of_zero_le h0
  have := (bits_nat .u64 64 (by decide) wraps_u64 a 9223372036854775808 (by omega) (by decide)).1
  rw [show ((9223372036854775808 : Nat) : Int) = 9223372036854775808 from rfl] at this
  rw [this]
  have h : a &&& 2 ^ 63 = 0 := by
    apply Nat.eq_of_testBit_eq
    intro i
    rw [Nat.testBit_and, Nat.testBit_two_pow, Nat.zero_testBit]
    by_cases hi : 63 = i
    · subst hi
      rw [Nat.testBit_lt_two_pow (by omega)]; rfl
    · simp [hi]
  have : a &&& 9223372036854775808 = 0 := h
  rw [this]; rfl

theorem u64_or0 (n : Int) (h0 : 0 ≤ n) (h1 : n < 1000000000) : bits .or .u64 0 n = n := by
  obtain ⟨a, rfl⟩ := Int.eq_ofNat_of_zero_le h0
  have := (bits_nat .u64 64 (by decide) wraps_u64 0 a (by decide) (by omega)).2
  rw [show ((0 : Nat) : Int) = 0 from rfl] at this
  rw [this]; simp

theorem u64_clear30 (n : Int) (h0 : 0 ≤ n) (h1 : n < 1000000000) : bits .andNot .u64 n 1073741823 = 0 := by
  obtain ⟨a, rfl⟩ := Int.eq_ofNat_of_zero_le h0
  have hz : (BitVec.ofNat 64 a &&& ~~~ BitVec.ofNat 64 1073741823) = 0#64 := by
    apply BitVec.eq_of_getLsbD_eq
    intro i hi
    rw [BitVec.getLsbD_and, BitVec.getLsbD_not, BitVec.getLsbD_ofNat, BitVec.getLsbD_ofNat, BitVec.getLsbD_zero]
    by_cases h30 : i < 30
    · have : Nat.testBit 1073741823 i = true := by
        rw [show (1073741823 : Nat) = 2 ^ 30 - 1 by decide, Nat.testBit_two_pow_sub_one]; simpa using h30
      rw [this]; simp [hi]
    · have : a.testBit i = false := Nat.testBit_lt_two_pow (Nat.lt_of_lt_of_le (show a < 2 ^ 30 by omega) (Nat.pow_le_pow_right (by decide) (by omega)))
      rw [this]; simp
  show IntKind.u64.wrap ((BitVec.ofInt 64 (a : Int) &&& ~~~ BitVec.ofInt 64 1073741823).toNat : Int) = 0
  rw [BitVec.ofInt_natCast, show BitVec.ofInt 64 1073741823 = BitVec.ofNat 64 1073741823 from rfl, hz]
  decide
end Go.Proofs.Qxb6630445a
