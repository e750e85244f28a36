/-
The words of the law on constant delays: masks of a wall clock without a monotonic reading.
-/
import Derived.Laws.BitsLemmas
import Derived.Laws.Entries
namespace Go.Proofs.Ytnofanefamjijaa

theorem wraps_u64 (n : Int) (h₀ : 0 ≤ n) (h₁ : n < 2 ^ 64) : IntKind.u64.wrap n = n := by
  simp [IntKind.wrap, IntKind.bits, IntKind.signed]
  omega

theorem low_bit {a i : Nat} (ha : a < 2 ^ 30) (h : 30 ≤ i) : a.testBit i = false :=
  Nat.testBit_lt_two_pow (Nat.lt_of_lt_of_le ha (Nat.pow_le_pow_right (by decide) h))

theorem wall_mono (x : Int) (h0 : 0 ≤ x) (h1 : x < 1073741824) : bits .and .u64 x 9223372036854775808 = 0 := by
  obtain ⟨a, rfl⟩ := Int.eq_ofNat_of_zero_le h0
  have ha : a < 2 ^ 30 := by omega
  have := (bits_nat .u64 64 (by decide) wraps_u64 a 9223372036854775808 (by omega) (by decide)).1
  have hz : a &&& 9223372036854775808 = 0 := by
    apply Nat.eq_of_testBit_eq
    intro i
    rw [Nat.testBit_and, Nat.zero_testBit]
    by_cases h : 30 ≤ i
    · rw [low_bit ha h, Bool.false_and]
    · have e : (9223372036854775808 : Nat) = 2 ^ 63 := by decide
      rw [e, Nat.testBit_two_pow]
      have : ¬ 63 = i := by omega
      simp [this]
  rw [hz] at this
  exact this

theorem wall_nsec (x : Int) (h0 : 0 ≤ x) (h1 : x < 1073741824) : bits .and .u64 x 1073741823 = x := by
  have := bits_mask .u64 64 (by decide) wraps_u64 30 (by decide) x h0 (by omega)
  have e : (2 : Int) ^ 30 - 1 = 1073741823 := by decide
  rw [e] at this
  rw [this]
  exact Int.emod_eq_of_lt h0 h1

theorem wall_or (y : Int) (h₀ : 0 ≤ y) (h₁ : y < 18446744073709551616) : bits .or .u64 0 y = y := by
  have := bits_join .u64 64 (by decide) wraps_u64 64 0 y (by decide) (by decide) (by decide) h₀ (by simpa using h₁) (by simpa using h₁)
  simpa using this

theorem mask_bits : ~~~ BitVec.ofInt 64 1073741823 = BitVec.ofNat 64 (2 ^ 64 - 2 ^ 30) := by decide

theorem wall_not (x : Int) (h0 : 0 ≤ x) (h1 : x < 1073741824) : bits .andNot .u64 x 1073741823 = 0 := by
  obtain ⟨a, rfl⟩ := Int.eq_ofNat_of_zero_le h0
  have ha : a < 2 ^ 30 := by omega
  have hz : a &&& (2 ^ 64 - 2 ^ 30) = 0 := by
    apply Nat.eq_of_testBit_eq
    intro i
    rw [Nat.testBit_and, Nat.zero_testBit]
    by_cases h : 30 ≤ i
    · rw [low_bit ha h, Bool.false_and]
    · have e : (2 ^ 64 - 2 ^ 30 : Nat) = 2 ^ 30 * (2 ^ 34 - 1) := by decide
      rw [e, Nat.testBit_two_pow_mul]
      have : ¬ 30 ≤ i := h
      simp [this]
  show IntKind.u64.wrap ((BitVec.ofInt 64 ((a : Nat) : Int) &&& ~~~ BitVec.ofInt 64 1073741823).toNat : Int) = 0
  rw [mask_bits, BitVec.ofInt_natCast, BitVec.toNat_and, BitVec.toNat_ofNat, BitVec.toNat_ofNat, Nat.mod_eq_of_lt (by omega), Nat.mod_eq_of_lt (by decide), hz]
  decide

end Go.Proofs.Ytnofanefamjijaa
