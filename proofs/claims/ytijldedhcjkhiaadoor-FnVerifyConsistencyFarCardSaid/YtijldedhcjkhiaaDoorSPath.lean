import Derived.Test.YtijldedhcjkhiaaDoorSPop
namespace Go.Proofs.YtijldedhcjkhiaaDoorM
theorem bitLen_iff (x n : Nat) (hx : x < 18446744073709551616) : x < 2 ^ n ↔ Lib.bitLen x ≤ n := by
  by_cases h0 : x = 0
  · subst h0
    rw [bitLen_zero]
    exact ⟨fun _ => Nat.zero_le _, fun _ => two_pow_pos n⟩
  · obtain ⟨d, h1, h2⟩ := exists_len x (by omega)
    have hd : d < 64 := len_lt h1 (by rw [pow64]; exact hx)
    rw [bitLen_of d x h1 h2 hd]
    constructor
    · intro h
      exact len_lt h1 h
    · intro h
      exact Nat.lt_of_lt_of_le h2 (pow_mono h)
theorem xor_lt64 {a b : Nat} (ha : a < 18446744073709551616) (hb : b < 18446744073709551616) : a ^^^ b < 18446744073709551616 := by
  rw [← pow64] at *
  exact Nat.xor_lt_two_pow ha hb
theorem shift_eq_iff (a b n : Nat) (ha : a < 18446744073709551616) (hb : b < 18446744073709551616) : a / 2 ^ n = b / 2 ^ n ↔ Lib.bitLen (a ^^^ b) ≤ n := by
  rw [← bitLen_iff _ _ (xor_lt64 ha hb), ← Nat.div_eq_zero_iff_lt (two_pow_pos n), xor_div]
  constructor
  · intro h
    rw [h, Nat.xor_self]
  · intro h
    have h2 : a / 2 ^ n ^^^ (a / 2 ^ n ^^^ b / 2 ^ n) = a / 2 ^ n := by rw [h, Nat.xor_zero]
    rw [← Nat.xor_assoc, Nat.xor_self, Nat.zero_xor] at h2
    exact h2.symm
theorem xor_top (d a b : Nat) (ha : a < 2 ^ d) (hb : b < 2 ^ d) : (2 ^ d + a) ^^^ (2 ^ d + b) = a ^^^ b := by
  have hp := two_pow_pos d
  have h1 : ((2 ^ d + a) ^^^ (2 ^ d + b)) / 2 ^ d = 0 := by
    rw [xor_div, show (2 ^ d + a) / 2 ^ d = 1 by rw [Nat.add_div_left _ hp, Nat.div_eq_of_lt ha], show (2 ^ d + b) / 2 ^ d = 1 by rw [Nat.add_div_left _ hp, Nat.div_eq_of_lt hb]]
    rfl
  have h2 : ((2 ^ d + a) ^^^ (2 ^ d + b)) % 2 ^ d = a ^^^ b := by
    rw [Nat.xor_mod_two_pow, Nat.add_mod_left, Nat.add_mod_left, Nat.mod_eq_of_lt ha, Nat.mod_eq_of_lt hb]
  have h3 := Nat.div_add_mod ((2 ^ d + a) ^^^ (2 ^ d + b)) (2 ^ d)
  rw [h1, h2] at h3
  omega
theorem split_of (n : Nat) (h : 2 ≤ n) : ∃ d, 2 ^ d < n ∧ n ≤ 2 ^ (d + 1) := by
  obtain ⟨d, h1, h2⟩ := exists_len (n - 1) (by omega)
  exact ⟨d, by omega, by omega⟩
def inn (i m : Nat) : Nat := Lib.bitLen (i ^^^ (m - 1))
def bor (i m : Nat) : Nat := pop 64 (i / 2 ^ inn i m)
theorem inn_one : inn 0 1 = 0 := by unfold inn; decide
theorem bor_one : bor 0 1 = 0 := by unfold bor; rw [inn_one]; decide
theorem inn_left (i m d : Nat) (hi : i < 2 ^ d) (h1 : 2 ^ d < m) (h2 : m ≤ 2 ^ (d + 1)) (hd : d < 64) : inn i m = d + 1 := by
  have e1 : 2 ^ (d + 1) = 2 ^ d * 2 := Nat.pow_succ ..
  have h := len_part d 0 i (m - 1 - 2 ^ d) hi (by omega) hd
  rw [Nat.mul_zero, Nat.zero_add, Nat.zero_add, show 2 ^ d + (m - 1 - 2 ^ d) = m - 1 by omega] at h
  exact h
theorem bor_left (i m d : Nat) (hi : i < 2 ^ d) (h1 : 2 ^ d < m) (h2 : m ≤ 2 ^ (d + 1)) (hd : d < 64) : bor i m = 0 := by
  unfold bor
  rw [inn_left i m d hi h1 h2 hd, Nat.div_eq_of_lt (Nat.lt_trans hi (pow_lt (by omega))), pop_zero]
theorem inn_right (i m d : Nat) (hi : 2 ^ d ≤ i) (him : i < m) (h1 : 2 ^ d < m) (h2 : m ≤ 2 ^ (d + 1)) : inn i m = inn (i - 2 ^ d) (m - 2 ^ d) := by
  have e1 : 2 ^ (d + 1) = 2 ^ d * 2 := Nat.pow_succ ..
  unfold inn
  have h := xor_top d (i - 2 ^ d) (m - 2 ^ d - 1) (by omega) (by omega)
  rw [show 2 ^ d + (i - 2 ^ d) = i by omega, show 2 ^ d + (m - 2 ^ d - 1) = m - 1 by omega] at h
  rw [h]
theorem inn_le (i m d : Nat) (hi : i < m) (h2 : m ≤ 2 ^ d) (hd : d ≤ 64) : inn i m ≤ d := by
  unfold inn
  exact Lib.bitLen_le _ d hd (Nat.xor_lt_two_pow (by omega) (by omega))
theorem bor_right (i m d : Nat) (hi : 2 ^ d ≤ i) (him : i < m) (h1 : 2 ^ d < m) (h2 : m ≤ 2 ^ (d + 1)) (hd : d < 64) : bor i m = 1 + bor (i - 2 ^ d) (m - 2 ^ d) := by
  have e1 : 2 ^ (d + 1) = 2 ^ d * 2 := Nat.pow_succ ..
  unfold bor
  rw [inn_right i m d hi him h1 h2]
  have hI := inn_le (i - 2 ^ d) (m - 2 ^ d) d (by omega) (by omega) (by omega)
  generalize inn (i - 2 ^ d) (m - 2 ^ d) = I at hI
  have hp := two_pow_pos I
  have e2 : 2 ^ d = 2 ^ (d - I) * 2 ^ I := pow_split hI
  have hq : i / 2 ^ I = 2 ^ (d - I) + (i - 2 ^ d) / 2 ^ I := by
    have h3 : i = (i - 2 ^ d) + 2 ^ (d - I) * 2 ^ I := by omega
    conv => lhs; rw [h3]
    rw [Nat.add_mul_div_right _ _ hp]
    omega
  rw [hq, pop_top]
  · refine (Nat.div_lt_iff_lt_mul hp).2 ?_
    omega
  · omega
theorem path_full (d : Nat) (hd : d ≤ 64) : ∀ i, i < 2 ^ d → inn i (2 ^ d) + bor i (2 ^ d) = d := by
  induction d with
  | zero =>
    intro i hi
    have : i = 0 := by simp at hi; exact hi
    subst this
    rw [Nat.pow_zero, inn_one, bor_one]
  | succ d ih =>
    intro i hi
    have e1 : 2 ^ (d + 1) = 2 ^ d * 2 := Nat.pow_succ ..
    have hp := two_pow_pos d
    by_cases h : i < 2 ^ d
    · rw [inn_left i _ d h (by omega) (Nat.le_refl _) (by omega), bor_left i _ d h (by omega) (Nat.le_refl _) (by omega)]
    · have h1 := ih (by omega) (i - 2 ^ d) (by omega)
      rw [inn_right i _ d (by omega) hi (by omega) (Nat.le_refl _), bor_right i _ d (by omega) hi (by omega) (Nat.le_refl _) (by omega), show 2 ^ (d + 1) - 2 ^ d = 2 ^ d by omega]
      omega
end Go.Proofs.YtijldedhcjkhiaaDoorM
