import Derived.Test.YtijldedhcjkhiaaDoorSSMSRowB
import Derived.Test.YtijldedhcjkhiaaDoorSSMSMrg
import Derived.Test.YtijldedhcjkhiaaDoorSSS7
namespace Go.Proofs.YtijldedhcjkhiaaDoor.S
open Go.RowKit Go.Proofs.YtijldedhcjkhiaaDoorW.PrintWords Go.Proofs.YtijldedhcjkhiaaDoorW.PrintLast Go.Proofs.YtijldedhcjkhiaaDoorW.PrintMore Go.Proofs.YtijldedhcjkhiaaDoorM
set_option linter.unusedVariables false
theorem len64 (x : Nat) (h : x < 18446744073709551616) : bits_Len64.f (x : Int) = some ((Lib.bitLen x : Nat) : Int) := by
  unfold bits_Len64.f
  rw [if_pos (by omega), if_pos (by omega), Int.toNat_natCast]
theorem bitLen_64 (x : Nat) (h : x < 18446744073709551616) : Lib.bitLen x ≤ 64 := (bitLen_iff x 64 h).1 (by rw [pow64]; exact h)
theorem ins_left (b m n : Nat) (hb : 0 < b) (hbm : b ≤ m) : ¬ m / 2 ^ n = (b - 1) / 2 ^ n ↔ b ≤ m / 2 ^ n * 2 ^ n := by
  have hp := two_pow_pos n
  have h1 : (b - 1) / 2 ^ n ≤ m / 2 ^ n := Nat.div_le_div_right (by omega)
  have h2 : (b - 1) / 2 ^ n < m / 2 ^ n ↔ b - 1 < m / 2 ^ n * 2 ^ n := Nat.div_lt_iff_lt_mul hp
  omega
theorem ins_right (m e n : Nat) (hm : ¬ m % 2 ^ n = 0) (hme : m ≤ e) : ¬ (m - 1) / 2 ^ n = e / 2 ^ n ↔ (m / 2 ^ n + 1) * 2 ^ n ≤ e := by
  have hp := two_pow_pos n
  have hd : (m - 1) / 2 ^ n = m / 2 ^ n := by
    have h1 := Nat.div_add_mod m (2 ^ n)
    have h2 := Nat.mod_lt m hp
    have h3 : m - 1 = 2 ^ n * (m / 2 ^ n) + (m % 2 ^ n - 1) := by omega
    obtain ⟨q, hq⟩ : ∃ q, q = m / 2 ^ n := ⟨_, rfl⟩
    rw [← hq] at h3 ⊢
    rw [h3, Nat.mul_add_div hp, Nat.div_eq_of_lt (by omega), Nat.add_zero]
  rw [hd]
  have h1 : m / 2 ^ n ≤ e / 2 ^ n := Nat.div_le_div_right hme
  have h2 : m / 2 ^ n + 1 ≤ e / 2 ^ n ↔ (m / 2 ^ n + 1) * 2 ^ n ≤ e := Nat.le_div_iff_mul_le hp
  omega
theorem path_pos (b m e lo u : Nat) (hbm : b ≤ m) (hme : m ≤ e) (h64 : e < 18446744073709551616) (hm : m = 2 ^ lo * (2 * u + 1)) (hlo : lo < 64) :
    ∃ hi : Nat, compact_getMergePath.f (b : Int) (m : Int) (e : Int) = some ((lo : Int), (hi : Int)) ∧ hi < 64 ∧ ∀ n, lo < n → n ≤ 64 → (Ins b m e n ↔ n ≤ hi) := by
  have hm0 : 0 < m := by rw [hm]; exact Nat.mul_pos (two_pow_pos _) (by omega)
  have htz : bits_TrailingZeros64.f (m : Int) = some (lo : Int) := by
    unfold bits_TrailingZeros64.f
    rw [if_pos (by omega), if_pos (by omega), Int.toNat_natCast, hm, ctz_of u lo hlo (by rw [← hm]; omega)]
  have hwlo : IntKind.u64.wrap (lo : Int) = (lo : Int) := u64_small _ (by omega)
  have hm1 : IntKind.u64.wrap ((m : Int) - 1) = ((m - 1 : Nat) : Int) := sub64 m 1 (by omega) (by omega)
  have hx2 : (m - 1) ^^^ e < 18446744073709551616 := xor_lt64 (by omega) h64
  have hr : ∀ n, lo < n → (n < Lib.bitLen ((m - 1) ^^^ e) ↔ (m / 2 ^ n + 1) * 2 ^ n ≤ e) := by
    intro n hn
    rw [← ins_right m e n ?_ hme, shift_eq_iff (m - 1) e n (by omega) h64]
    · omega
    · intro h0
      obtain ⟨v, hv⟩ := Nat.dvd_of_mod_eq_zero h0
      rw [hm, Nat.mul_comm, Nat.mul_comm (2 ^ n)] at hv
      have := odd_le hv.symm (by omega)
      omega
  have hr1 : 1 ≤ Lib.bitLen ((m - 1) ^^^ e) := by
    have := shift_eq_iff (m - 1) e 0 (by omega) h64
    rw [Nat.pow_zero, Nat.div_one, Nat.div_one] at this
    omega
  have hr64 := bitLen_64 _ hx2
  unfold compact_getMergePath.f
  rw [htz, hm1, xor_nat _ _ (by omega) h64, len64 _ hx2]
  simp only [Option.bind_some]
  by_cases hb : b = 0
  · subst hb
    generalize Lib.bitLen ((m - 1) ^^^ e) = t at *
    have hw : IntKind.u64.wrap (wrap64 ((t : Int) - 1)) = ((t - 1 : Nat) : Int) := by
      rw [wrap64_id _ (by omega) (by omega)]
      exact sub64 t 1 hr1 (by omega)
    refine ⟨t - 1, ?_, by omega, ?_⟩
    · rw [if_pos (by rfl), hwlo, hw]
      by_cases h : (t : Int) < 64
      · rw [if_pos h]
      · rw [if_neg h]
        congr 2
        omega
    · intro n hn hn64
      have := hr n hn
      unfold Ins
      constructor
      · intro h; omega
      · intro h; exact ⟨Nat.zero_le _, by omega⟩
  · have hb1 : IntKind.u64.wrap ((b : Int) - 1) = ((b - 1 : Nat) : Int) := sub64 b 1 (by omega) (by omega)
    have hx1 : m ^^^ (b - 1) < 18446744073709551616 := xor_lt64 (by omega) (by omega)
    have hl : ∀ n, (n < Lib.bitLen (m ^^^ (b - 1)) ↔ b ≤ m / 2 ^ n * 2 ^ n) := by
      intro n
      rw [← ins_left b m n (by omega) hbm, shift_eq_iff m (b - 1) n (by omega) (by omega)]
      omega
    have hl1 : 1 ≤ Lib.bitLen (m ^^^ (b - 1)) := by
      have := shift_eq_iff m (b - 1) 0 (by omega) (by omega)
      rw [Nat.pow_zero, Nat.div_one, Nat.div_one] at this
      omega
    have hl64 := bitLen_64 _ hx1
    rw [if_neg (by omega), hb1, xor_nat _ _ (by omega) (by omega), len64 _ hx1]
    simp only [Option.bind_some]
    generalize Lib.bitLen ((m - 1) ^^^ e) = t at *
    generalize Lib.bitLen (m ^^^ (b - 1)) = s at *
    have hw : ∀ t : Nat, 1 ≤ t → t ≤ 64 → IntKind.u64.wrap (wrap64 ((t : Int) - 1)) = ((t - 1 : Nat) : Int) := by
      intro t h1 h2
      rw [wrap64_id _ (by omega) (by omega)]
      exact sub64 t 1 h1 (by omega)
    rw [hwlo, hw t hr1 hr64, hw s hl1 hl64]
    refine ⟨min s t - 1, ?_, by omega, ?_⟩
    · by_cases h : (t : Int) < (s : Int)
      · rw [if_pos h, Nat.min_eq_right (by omega)]
      · rw [if_neg h, Nat.min_eq_left (by omega)]
    · intro n hn hn64
      have h1 := hr n hn
      have h2 := hl n
      unfold Ins
      constructor
      · intro h; omega
      · intro h; exact ⟨by omega, by omega⟩
theorem path_zero (e : Nat) (h : e < 18446744073709551615) : ∃ hi : Nat, compact_getMergePath.f 0 0 (e : Int) = some (64, (hi : Int)) ∧ hi ≤ 64 := by
  have htz : bits_TrailingZeros64.f 0 = some 64 := by decide
  have hm1 : IntKind.u64.wrap ((0 : Int) - 1) = ((18446744073709551615 : Nat) : Int) := by decide
  have hx : Go.bits .xor .u64 ((18446744073709551615 : Nat) : Int) (e : Int) = ((18446744073709551615 - e : Nat) : Int) := by
    rw [xor_nat _ _ (by omega) (by omega), xor_max _ (by omega)]
  have h64 := bitLen_64 (18446744073709551615 - e) (by omega)
  have h1 : 1 ≤ Lib.bitLen (18446744073709551615 - e) := by
    have := bitLen_iff (18446744073709551615 - e) 0 (by omega)
    rw [Nat.pow_zero] at this
    omega
  unfold compact_getMergePath.f
  rw [htz, hm1, hx, len64 _ (by omega)]
  simp only [Option.bind_some]
  generalize Lib.bitLen (18446744073709551615 - e) = t at *
  have hw : IntKind.u64.wrap (wrap64 ((t : Int) - 1)) = ((t - 1 : Nat) : Int) := by
    rw [wrap64_id _ (by omega) (by omega)]
    exact sub64 t 1 h1 (by omega)
  have hw2 : IntKind.u64.wrap 64 = 64 := by decide
  rw [if_pos trivial, hw, hw2]
  by_cases h : (t : Int) < 64
  · rw [if_pos h]
    exact ⟨t - 1, rfl, by omega⟩
  · rw [if_neg h]
    exact ⟨63, rfl, by omega⟩
theorem odd_part (m : Nat) : 0 < m → ∃ lo u, m = 2 ^ lo * (2 * u + 1) := by
  induction m using Nat.strongRecOn with
  | ind m ih =>
    intro h0
    rcases Nat.mod_two_eq_zero_or_one m with h | h
    · obtain ⟨lo, u, hu⟩ := ih (m / 2) (by omega) (by omega)
      exact ⟨lo + 1, u, by rw [Nat.pow_succ, Nat.mul_comm (2 ^ lo) 2, Nat.mul_assoc, ← hu]; omega⟩
    · exact ⟨0, m / 2, by rw [Nat.pow_zero]; omega⟩
theorem path_of (b m e : Nat) (hbm : b ≤ m) (hme : m ≤ e) (h64 : e < 18446744073709551616) (h0 : ¬ (m = 0 ∧ e = 18446744073709551615)) :
    ∃ lo hi : Nat, compact_getMergePath.f (b : Int) (m : Int) (e : Int) = some ((lo : Int), (hi : Int)) ∧ lo ≤ 64 ∧ hi ≤ 64 ∧ ((m = 0 ∧ lo = 64) ∨ (lo < 64 ∧ hi < 64 ∧ ∃ u, m = 2 ^ lo * (2 * u + 1))) ∧ ∀ n, lo < n → n ≤ 64 → (Ins b m e n ↔ n ≤ hi) := by
  rcases Nat.eq_zero_or_pos m with hm | hm
  · subst hm
    have hb : b = 0 := by omega
    subst hb
    obtain ⟨hi, h1, h2⟩ := path_zero e (by omega)
    exact ⟨64, hi, h1, Nat.le_refl _, h2, Or.inl ⟨rfl, rfl⟩, fun n h3 h4 => by omega⟩
  · obtain ⟨lo, u, hu⟩ := odd_part m hm
    have hlo : lo < 64 := by
      rw [← Nat.pow_lt_pow_iff_right (a := 2) (by decide), pow64]
      have h1 : 2 ^ lo * 1 ≤ 2 ^ lo * (2 * u + 1) := Nat.mul_le_mul_left _ (by omega)
      omega
    obtain ⟨hi, h1, h2, h3⟩ := path_pos b m e lo u hbm hme h64 hu hlo
    exact ⟨lo, hi, h1, by omega, by omega, Or.inr ⟨hlo, h2, u, hu⟩, h3⟩
theorem pop_mod (d x : Nat) : pop d (x % 2 ^ d) = pop d x := by
  have h := pop_join 0 (x / 2 ^ d) d (x % 2 ^ d) (Nat.mod_lt _ (two_pow_pos d))
  rw [Nat.mod_add_div, Nat.add_zero] at h
  simpa [pop] using h.symm
theorem ones_mask (x d : Nat) (hx : x < 18446744073709551616) (hd : d ≤ 64) : bits_OnesCount64.f (Go.bits .and .u64 (x : Int) ((2 ^ d - 1 : Nat) : Int)) = some ((pop d x : Nat) : Int) := by
  have h1 : 2 ^ d ≤ 18446744073709551616 := by rw [← pow64]; exact pow_mono hd
  have h2 := Nat.mod_lt x (two_pow_pos d)
  have h3 := two_pow_pos d
  rw [and_nat x (2 ^ d - 1) hx (by omega), Nat.and_two_pow_sub_one_eq_mod, onesCount _ (by omega)]
  have h4 := pop_more d (64 - d) (x % 2 ^ d) h2
  rw [show d + (64 - d) = 64 by omega] at h4
  rw [h4, pop_mod]
theorem ins_even (b m n : Nat) (hn : 0 < n) (he : m % 2 = 0) : ¬ Ins b m (m + 1) n := by
  rintro ⟨_, h⟩
  have hp := two_pow_pos n
  have h1 := Nat.mod_lt m hp
  have h2 := Nat.div_add_mod m (2 ^ n)
  rw [Nat.mul_comm] at h2
  rw [Nat.add_mul, Nat.one_mul] at h
  obtain ⟨n, rfl⟩ : ∃ k, n = k + 1 := ⟨n - 1, by omega⟩
  rw [pow_add_two] at *
  generalize m / (2 * 2 ^ n) * (2 * 2 ^ n) = q at *
  have h3 : m % (2 * 2 ^ n) % 2 = m % 2 := Nat.mod_mul_right_mod m 2 (2 ^ n)
  omega
end Go.Proofs.YtijldedhcjkhiaaDoor.S
