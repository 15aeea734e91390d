import Derived.Test.YtijldedhcjkhiaaDoorCMYPop
namespace Go.Proofs.YtijldedhcjkhiaaDoorM
theorem xor_lt64 {a b : Nat} (ha : a < 18446744073709551616) (hb : b < 18446744073709551616) : a ^^^ b < 18446744073709551616 := by
  rw [← pow64] at *
  exact Nat.xor_lt_two_pow ha hb
theorem xor_top (d a b : Nat) (ha : a < 2 ^ d) (hb : b < 2 ^ d) : (2 ^ d + a) ^^^ (2 ^ d + b) = a ^^^ b := by
  have hp := two_pow_pos d
  have h1 : ((2 ^ d + a) ^^^ (2 ^ d + b)) / 2 ^ d = 0 := by
    rw [xor_div, show (2 ^ d + a) / 2 ^ d = 1 by rw [Nat.add_div_left _ hp, Nat.div_eq_of_lt ha], show (2 ^ d + b) / 2 ^ d = 1 by rw [Nat.add_div_left _ hp, Nat.div_eq_of_lt hb]]
    rfl
  have h2 : ((2 ^ d + a) ^^^ (2 ^ d + b)) % 2 ^ d = a ^^^ b := by
    rw [Nat.xor_mod_two_pow, Nat.add_mod_left, Nat.add_mod_left, Nat.mod_eq_of_lt ha, Nat.mod_eq_of_lt hb]
  have h3 := Nat.div_add_mod ((2 ^ d + a) ^^^ (2 ^ d + b)) (2 ^ d)
  rw [h1, h2] at h3
  omega
end Go.Proofs.YtijldedhcjkhiaaDoorM
