import Derived.Lib.BitFns
import Derived.Lib.TrailingZeros
import Derived.Laws.BitsAllLaws
import Derived.RowKit
namespace Go.Proofs.YtijldedhcjkhiaaDoorM
open Go.RowKit
theorem two_pow_pos (n : Nat) : 0 < 2 ^ n := Nat.pow_pos (by decide)
theorem pow_mono {m n : Nat} (h : m ≤ n) : 2 ^ m ≤ 2 ^ n := Nat.pow_le_pow_right (by decide) h
theorem pow_lt {m n : Nat} (h : m < n) : 2 ^ m < 2 ^ n := Nat.pow_lt_pow_right (by decide) h
theorem pow_lt_iff {m n : Nat} : 2 ^ m < 2 ^ n ↔ m < n := Nat.pow_lt_pow_iff_right (by decide)
theorem pow_split {m n : Nat} (h : m ≤ n) : 2 ^ n = 2 ^ (n - m) * 2 ^ m := by rw [← Nat.pow_add]; congr 1; omega
theorem pow64 : (2 : Nat) ^ 64 = 18446744073709551616 := by decide
theorem bitLen_zero : Lib.bitLen 0 = 0 := by decide
theorem bitLen_of (d x : Nat) (h1 : 2 ^ d ≤ x) (h2 : x < 2 ^ (d + 1)) (hd : d < 64) : Lib.bitLen x = d + 1 := by
  have hx : x < 2 ^ 64 := Nat.lt_of_lt_of_le h2 (pow_mono (by omega))
  rw [Lib.bitLen_shift d x h1 hx]
  have e : x / 2 ^ d = 1 := by
    rw [Nat.pow_succ] at h2
    exact Nat.div_eq_of_lt_le (by omega) (by omega)
  rw [e]
  rfl
theorem exists_len (x : Nat) (h0 : 0 < x) : ∃ d, 2 ^ d ≤ x ∧ x < 2 ^ (d + 1) := by
  induction x using Nat.strongRecOn with
  | _ x ih =>
    by_cases h1 : x = 1
    · exact ⟨0, by subst h1; decide, by subst h1; decide⟩
    · obtain ⟨d, h2, h3⟩ := ih (x / 2) (by omega) (by omega)
      refine ⟨d + 1, ?_, ?_⟩
      · rw [Nat.pow_succ]; omega
      · rw [Nat.pow_succ] at h3 ⊢; rw [Nat.pow_succ]; omega
theorem len_lt {d x n : Nat} (h1 : 2 ^ d ≤ x) (h2 : x < 2 ^ n) : d < n := pow_lt_iff.1 (Nat.lt_of_le_of_lt h1 h2)
theorem part_of (B : Nat) : ∀ A, A < B → ∃ d q x y, x < 2 ^ d ∧ y < 2 ^ d ∧ A = 2 ^ (d + 1) * q + x ∧ B = 2 ^ (d + 1) * q + 2 ^ d + y := by
  induction B using Nat.strongRecOn with
  | _ B ih =>
    intro A h
    by_cases h1 : A / 2 = B / 2
    · refine ⟨0, A / 2, 0, 0, by decide, by decide, ?_, ?_⟩
      · simp; omega
      · simp; omega
    · obtain ⟨d, q, x, y, hx, hy, hA, hB⟩ := ih (B / 2) (by omega) (A / 2) (by omega)
      have e2 : 2 ^ (d + 1 + 1) = 2 * 2 ^ (d + 1) := by rw [Nat.pow_succ]; omega
      have e1 : 2 ^ (d + 1) = 2 * 2 ^ d := by rw [Nat.pow_succ]; omega
      refine ⟨d + 1, q, 2 * x + A % 2, 2 * y + B % 2, by omega, by omega, ?_, ?_⟩
      · rw [e2, Nat.mul_assoc]; omega
      · rw [e2, Nat.mul_assoc]; omega
theorem xor_div (a b n : Nat) : (a ^^^ b) / 2 ^ n = (a / 2 ^ n) ^^^ (b / 2 ^ n) := by
  rw [← Nat.shiftRight_eq_div_pow, ← Nat.shiftRight_eq_div_pow, ← Nat.shiftRight_eq_div_pow, Nat.shiftRight_xor_distrib]
theorem xor_pair (q : Nat) : (2 * q) ^^^ (2 * q + 1) = 1 := by
  have h1 : ((2 * q) ^^^ (2 * q + 1)) % 2 = 1 := by rw [Nat.xor_mod_two_eq_one]; omega
  have h2 : ((2 * q) ^^^ (2 * q + 1)) / 2 = 0 := by
    have := xor_div (2 * q) (2 * q + 1) 1
    rw [Nat.pow_one] at this
    rw [this, show 2 * q / 2 = q by omega, show (2 * q + 1) / 2 = q by omega, Nat.xor_self]
  omega
theorem xor_part (d q x y : Nat) (hx : x < 2 ^ d) (hy : y < 2 ^ d) :
    2 ^ d ≤ (2 ^ (d + 1) * q + x) ^^^ (2 ^ (d + 1) * q + 2 ^ d + y) ∧ (2 ^ (d + 1) * q + x) ^^^ (2 ^ (d + 1) * q + 2 ^ d + y) < 2 ^ (d + 1) := by
  have e1 : 2 ^ (d + 1) = 2 ^ d * 2 := Nat.pow_succ ..
  have hp := two_pow_pos d
  have ha : (2 ^ (d + 1) * q + x) / 2 ^ d = 2 * q := by
    rw [e1, Nat.mul_assoc, Nat.mul_add_div hp, Nat.div_eq_of_lt hx]; omega
  have hb : (2 ^ (d + 1) * q + 2 ^ d + y) / 2 ^ d = 2 * q + 1 := by
    rw [e1, Nat.mul_assoc, show 2 ^ d * (2 * q) + 2 ^ d + y = 2 ^ d * (2 * q + 1) + y by rw [Nat.mul_add]; omega, Nat.mul_add_div hp, Nat.div_eq_of_lt hy]
  have h := xor_div (2 ^ (d + 1) * q + x) (2 ^ (d + 1) * q + 2 ^ d + y) d
  rw [ha, hb, xor_pair] at h
  generalize (2 ^ (d + 1) * q + x) ^^^ (2 ^ (d + 1) * q + 2 ^ d + y) = z at h
  have := Nat.div_add_mod z (2 ^ d)
  have := Nat.mod_lt z hp
  rw [h] at *
  omega
theorem len_part (d q x y : Nat) (hx : x < 2 ^ d) (hy : y < 2 ^ d) (hd : d < 64) : Lib.bitLen ((2 ^ (d + 1) * q + x) ^^^ (2 ^ (d + 1) * q + 2 ^ d + y)) = d + 1 :=
  bitLen_of d _ (xor_part d q x y hx hy).1 (xor_part d q x y hx hy).2 hd
theorem xor_max (a : Nat) (h : a < 18446744073709551616) : 18446744073709551615 ^^^ a = 18446744073709551615 - a := by
  have e : 18446744073709551615 - a = 2 ^ 64 - (a + 1) := by omega
  rw [e]
  apply Nat.eq_of_testBit_eq
  intro i
  rw [Nat.testBit_two_pow_sub_succ (by omega), Nat.testBit_xor, show (18446744073709551615 : Nat) = 2 ^ 64 - 1 by decide, Nat.testBit_two_pow_sub_one]
  by_cases hi : i < 64
  · simp [hi]
  · have : a.testBit i = false := Nat.testBit_lt_two_pow (Nat.lt_of_lt_of_le h (by rw [← pow64]; exact pow_mono (by omega)))
    simp [hi, this]
theorem u64_wrap (n : Int) : IntKind.u64.wrap n = n % 18446744073709551616 := by simp [IntKind.wrap, IntKind.bits, IntKind.signed]
theorem u64_wrap_nat (n : Nat) : IntKind.u64.wrap (n : Int) = ((n % 18446744073709551616 : Nat) : Int) := by rw [u64_wrap]; omega
theorem u64_small (n : Nat) (h : n < 18446744073709551616) : IntKind.u64.wrap (n : Int) = (n : Int) := by rw [u64_wrap_nat, Nat.mod_eq_of_lt h]
theorem and_nat (a b : Nat) (ha : a < 18446744073709551616) (hb : b < 18446744073709551616) : Go.bits .and .u64 (a : Int) (b : Int) = ((a &&& b : Nat) : Int) := u64_and_nat a b ha hb
theorem xor_nat (a b : Nat) (ha : a < 18446744073709551616) (hb : b < 18446744073709551616) : Go.bits .xor .u64 (a : Int) (b : Int) = ((a ^^^ b : Nat) : Int) := u64_xor_nat a b ha hb
theorem wrap64_id (a : Int) (h1 : -9223372036854775808 ≤ a) (h2 : a < 9223372036854775808) : wrap64 a = a := by
  unfold wrap64
  omega
end Go.Proofs.YtijldedhcjkhiaaDoorM
