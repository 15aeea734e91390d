import Derived.Test.YtijldedhcjkhiaaDoorKMZSplitD
import Derived.Test.YtijldedhcjkhiaaDoorKMZHash
import Derived.Test.YtijldedhcjkhiaaDoorKZ4
namespace Go.Proofs.YtijldedhcjkhiaaDoor.Pure
open Go.RowKit Go.Proofs.YtijldedhcjkhiaaDoorW.PrintWords Go.Proofs.YtijldedhcjkhiaaDoorW.PrintLast Go.Proofs.YtijldedhcjkhiaaDoorW.PrintMore Z Go.Proofs.YtijldedhcjkhiaaDoorM
theorem low_of (s q : Nat) : 2 ^ s * (2 * q + 1) - 1 = 2 ^ s * (2 * q) + (2 ^ s - 1) := by
  have hp := two_pow_pos s
  rw [Nat.mul_add, Nat.mul_one]
  omega
theorem low_div (s q : Nat) : (2 ^ s * (2 * q + 1) - 1) / 2 ^ s = 2 * q := by
  have hp := two_pow_pos s
  rw [low_of, Nat.mul_add_div hp, Nat.div_eq_of_lt (by omega), Nat.add_zero]
theorem inn_ge (s q b : Nat) (h : 2 ^ s * (2 * q + 1) < b) (hb : b < 18446744073709551616) : s < inn (2 ^ s * (2 * q + 1) - 1) b := by
  have hp := two_pow_pos s
  apply Nat.lt_of_not_le
  intro hle
  have h1 := (shift_eq_iff (2 ^ s * (2 * q + 1) - 1) (b - 1) s (by omega) (by omega)).2 hle
  rw [low_div] at h1
  have h2 := Nat.div_add_mod (b - 1) (2 ^ s)
  have h3 := Nat.mod_lt (b - 1) hp
  rw [← h1] at h2
  have h4 := low_of s q
  have h5 : 0 < 2 ^ s * (2 * q + 1) := Nat.mul_pos hp (by omega)
  omega
theorem two_odd (s q t : Nat) (h : 2 ^ s * (2 * q + 1) = 2 ^ t) : q = 0 ∧ s = t := by
  rcases Nat.lt_or_ge t s with hlt | hge
  · have := pow_lt hlt
    have h2 : 2 ^ s * 1 ≤ 2 ^ s * (2 * q + 1) := Nat.mul_le_mul_left _ (by omega)
    omega
  · rw [show t = s + (t - s) by omega, Nat.pow_add] at h
    have h2 := Nat.eq_of_mul_eq_mul_left (two_pow_pos s) h
    rcases Nat.eq_zero_or_pos (t - s) with h0 | h0
    · rw [h0] at h2
      omega
    · rw [show t - s = (t - s - 1) + 1 by omega, Nat.pow_succ] at h2
      omega
end Go.Proofs.YtijldedhcjkhiaaDoor.Pure
