import Derived.Test.YtijldedhcjkhiaaDoorKMZPop
namespace Go.Proofs.YtijldedhcjkhiaaDoorM
theorem bitLen_iff (x n : Nat) (hx : x < 18446744073709551616) : x < 2 ^ n ↔ Lib.bitLen x ≤ n := by
  by_cases h0 : x = 0
  · subst h0
    rw [bitLen_zero]
    exact ⟨fun _ => Nat.zero_le _, fun _ => two_pow_pos n⟩
  · obtain ⟨d, h1, h2⟩ := exists_len x (by omega)
    have hd : d < 64 := len_lt h1 (by rw [pow64]; exact hx)
    rw [bitLen_of d x h1 h2 hd]
    constructor
    · intro h
      exact len_lt h1 h
    · intro h
      exact Nat.lt_of_lt_of_le h2 (pow_mono h)
theorem xor_lt64 {a b : Nat} (ha : a < 18446744073709551616) (hb : b < 18446744073709551616) : a ^^^ b < 18446744073709551616 := by
  rw [← pow64] at *
  exact Nat.xor_lt_two_pow ha hb
theorem shift_eq_iff (a b n : Nat) (ha : a < 18446744073709551616) (hb : b < 18446744073709551616) : a / 2 ^ n = b / 2 ^ n ↔ Lib.bitLen (a ^^^ b) ≤ n := by
  rw [← bitLen_iff _ _ (xor_lt64 ha hb), ← Nat.div_eq_zero_iff_lt (two_pow_pos n), xor_div]
  constructor
  · intro h
    rw [h, Nat.xor_self]
  · intro h
    have h2 : a / 2 ^ n ^^^ (a / 2 ^ n ^^^ b / 2 ^ n) = a / 2 ^ n := by rw [h, Nat.xor_zero]
    rw [← Nat.xor_assoc, Nat.xor_self, Nat.zero_xor] at h2
    exact h2.symm
theorem xor_top (d a b : Nat) (ha : a < 2 ^ d) (hb : b < 2 ^ d) : (2 ^ d + a) ^^^ (2 ^ d + b) = a ^^^ b := by
  have hp := two_pow_pos d
  have h1 : ((2 ^ d + a) ^^^ (2 ^ d + b)) / 2 ^ d = 0 := by
    rw [xor_div, show (2 ^ d + a) / 2 ^ d = 1 by rw [Nat.add_div_left _ hp, Nat.div_eq_of_lt ha], show (2 ^ d + b) / 2 ^ d = 1 by rw [Nat.add_div_left _ hp, Nat.div_eq_of_lt hb]]
    rfl
  have h2 : ((2 ^ d + a) ^^^ (2 ^ d + b)) % 2 ^ d = a ^^^ b := by
    rw [Nat.xor_mod_two_pow, Nat.add_mod_left, Nat.add_mod_left, Nat.mod_eq_of_lt ha, Nat.mod_eq_of_lt hb]
  have h3 := Nat.div_add_mod ((2 ^ d + a) ^^^ (2 ^ d + b)) (2 ^ d)
  rw [h1, h2] at h3
  omega
def inn (i m : Nat) : Nat := Lib.bitLen (i ^^^ (m - 1))
def bor (i m : Nat) : Nat := pop 64 (i / 2 ^ inn i m)
theorem inn_le (i m d : Nat) (hi : i < m) (h2 : m ≤ 2 ^ d) (hd : d ≤ 64) : inn i m ≤ d := by
  unfold inn
  exact Lib.bitLen_le _ d hd (Nat.xor_lt_two_pow (by omega) (by omega))
end Go.Proofs.YtijldedhcjkhiaaDoorM
