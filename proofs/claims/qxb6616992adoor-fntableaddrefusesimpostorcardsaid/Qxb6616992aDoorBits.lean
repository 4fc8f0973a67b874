import Derived.Test.Qxb6616992aDoorRows
import Derived.WalkKit
namespace Go.Proofs.Qxb6616992aDoor
open Go.RowKit

theorem wraps_u64 (n : Int) (h₀ : 0 ≤ n) (h₁ : n < 2 ^ 64) : IntKind.u64.wrap n = n := by
  rw [IntKind.wrap_u64]
  have : (2 : Int) ^ 64 = 18446744073709551616 := by decide
  rw [this] at h₁
  omega

theorem and_mono (n : Int) (h0 : 0 ≤ n) (h1 : n < 1073741824) : bits .and .u64 n 9223372036854775808 = 0 := by
  obtain ⟨a, rfl⟩ := Int.eq_ofNat_of_zero_le h0
  have ha : a < 2 ^ 63 := by
    have : (2 : Nat) ^ 63 = 9223372036854775808 := by decide
    rw [this]; omega
  have e : (9223372036854775808 : Int) = ((2 ^ 63 : Nat) : Int) := by decide
  rw [e, (bits_nat .u64 64 (by decide) wraps_u64 a (2 ^ 63) (by
    have : (2 : Nat) ^ 64 = 18446744073709551616 := by decide
    have h2 : (2 : Nat) ^ 63 = 9223372036854775808 := by decide
    rw [this]; rw [h2] at ha; omega) (by decide)).1]
  have z : a &&& 2 ^ 63 = 0 := by
    apply Nat.eq_of_testBit_eq
    intro i
    rw [Nat.testBit_and, Nat.testBit_two_pow]
    by_cases hi : 63 = i
    · subst hi
      rw [Nat.testBit_lt_two_pow ha]; simp
    · simp [hi]
  rw [z]; rfl

theorem mono_false (n : Int) (h0 : 0 ≤ n) (h1 : n < 1073741824) : (bits .and .u64 n 9223372036854775808 != 0) = false := by
  rw [and_mono n h0 h1]; rfl

theorem and_mask (n : Int) (h0 : 0 ≤ n) (h1 : n < 1073741824) : bits .and .u64 n 1073741823 = n := by
  have h := bits_mask .u64 64 (by decide) wraps_u64 30 (by decide) n h0 (by
    have : (2 : Int) ^ 64 = 18446744073709551616 := by decide
    rw [this]; omega)
  have e : (2 : Int) ^ 30 - 1 = 1073741823 := by decide
  have e2 : (2 : Int) ^ 30 = 1073741824 := by decide
  rw [e, e2] at h
  rw [h]; omega

theorem or_zero (n : Int) (h0 : 0 ≤ n) (h1 : n < 1073741824) : bits .or .u64 0 n = n := by
  have e : (2 : Int) ^ 64 = 18446744073709551616 := by decide
  have e2 : (2 : Int) ^ 30 = 1073741824 := by decide
  have h := bits_join .u64 64 (by decide) wraps_u64 30 0 n (Int.le_refl _) (by decide) (by decide) h0 (by rw [e2]; exact h1) (by rw [e]; omega)
  rw [h]; omega

theorem or_part (i : Nat) (x y : Int) (hx₀ : 0 ≤ x) (hx : x % 2 ^ i = 0) (hx₁ : x < 18446744073709551616) (hy₀ : 0 ≤ y) (hy : y < 2 ^ i) (hy₁ : y < 18446744073709551616) : bits .or .u64 x y = x + y := by
  have e : (2 : Int) ^ 64 = 18446744073709551616 := by decide
  exact bits_join .u64 64 (by decide) wraps_u64 i x y hx₀ hx (by rw [e]; exact hx₁) hy₀ hy (by rw [e]; exact hy₁)

end Go.Proofs.Qxb6616992aDoor
