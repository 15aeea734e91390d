import Derived.Test.YtijldedhcjkhiaaDoorSSMSPop
namespace Go.Proofs.YtijldedhcjkhiaaDoorM
theorem bitLen_iff (x n : Nat) (hx : x < 18446744073709551616) : x < 2 ^ n ↔ Lib.bitLen x ≤ n := by
  by_cases h0 : x = 0
  · subst h0
    rw [bitLen_zero]
    exact ⟨fun _ => Nat.zero_le _, fun _ => two_pow_pos n⟩
  · obtain ⟨d, h1, h2⟩ := exists_len x (by omega)
    have hd : d < 64 := len_lt h1 (by rw [pow64]; exact hx)
    rw [bitLen_of d x h1 h2 hd]
    constructor
    · intro h
      exact len_lt h1 h
    · intro h
      exact Nat.lt_of_lt_of_le h2 (pow_mono h)
theorem xor_lt64 {a b : Nat} (ha : a < 18446744073709551616) (hb : b < 18446744073709551616) : a ^^^ b < 18446744073709551616 := by
  rw [← pow64] at *
  exact Nat.xor_lt_two_pow ha hb
theorem shift_eq_iff (a b n : Nat) (ha : a < 18446744073709551616) (hb : b < 18446744073709551616) : a / 2 ^ n = b / 2 ^ n ↔ Lib.bitLen (a ^^^ b) ≤ n := by
  rw [← bitLen_iff _ _ (xor_lt64 ha hb), ← Nat.div_eq_zero_iff_lt (two_pow_pos n), xor_div]
  constructor
  · intro h
    rw [h, Nat.xor_self]
  · intro h
    have h2 : a / 2 ^ n ^^^ (a / 2 ^ n ^^^ b / 2 ^ n) = a / 2 ^ n := by rw [h, Nat.xor_zero]
    rw [← Nat.xor_assoc, Nat.xor_self, Nat.zero_xor] at h2
    exact h2.symm
end Go.Proofs.YtijldedhcjkhiaaDoorM
