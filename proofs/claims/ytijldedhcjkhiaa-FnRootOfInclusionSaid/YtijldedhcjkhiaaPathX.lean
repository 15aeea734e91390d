/-
  What the printed functions of audit paths' lengths tell, in plain numbers.
-/
import Derived.Test.YtijldedhcjkhiaaPath
import Derived.Test.YtijldedhcjkhiaaOnes
import Derived.Test.YtijldedhcjkhiaaX8
namespace Go.Proofs.Ytijldedhcjkhiaa.X
open Go.RowKit Go.Proofs.YtijldedhcjkhiaaW.PrintWords Go.Proofs.YtijldedhcjkhiaaW.PrintLast Go.Proofs.YtijldedhcjkhiaaW.PrintMore Go.Proofs.YtijldedhcjkhiaaM

theorem u64_sub (a b : Nat) (h : b ≤ a) (ha : a < 18446744073709551616) : IntKind.u64.wrap ((a : Int) - (b : Int)) = ((a - b : Nat) : Int) := by
  rw [show (a : Int) - (b : Int) = ((a - b : Nat) : Int) by omega, u64_small _ (by omega)]
theorem u64_add (a b : Nat) (h : a + b < 18446744073709551616) : IntKind.u64.wrap ((a : Int) + (b : Int)) = ((a + b : Nat) : Int) := by
  rw [show (a : Int) + (b : Int) = ((a + b : Nat) : Int) by omega, u64_small _ h]
theorem split_loop (n d : Nat) (h1 : 2 ^ d < n) (h2 : n ≤ 2 ^ (d + 1)) (h64 : n < 18446744073709551616) (f : Nat) : ∀ j k, j + f = d → f < k → spec_split.l0 k (n : Int) ((2 ^ j : Nat) : Int) = some ((2 ^ d : Nat) : Int) := by
  induction f with
  | zero =>
    intro j k hj hk
    obtain ⟨k, rfl⟩ : ∃ m, k = m + 1 := ⟨k - 1, by omega⟩
    have e1 : 2 ^ (d + 1) = 2 ^ d * 2 := Nat.pow_succ ..
    obtain rfl : j = d := by omega
    simp only [spec_split.l0]
    rw [u64_sub _ _ (by omega) h64, if_neg (by omega)]
  | succ f ih =>
    intro j k hj hk
    obtain ⟨k, rfl⟩ : ∃ m, k = m + 1 := ⟨k - 1, by omega⟩
    have e1 : 2 ^ (j + 1) = 2 ^ j * 2 := Nat.pow_succ ..
    have hm := pow_mono (show j + 1 ≤ d by omega)
    have hm2 : 2 ^ j * 2 < n := by omega
    simp only [spec_split.l0]
    rw [u64_sub _ _ (by omega) h64, if_pos (by omega), show ((2 ^ j : Nat) : Int) * 2 = ((2 ^ (j + 1) : Nat) : Int) by rw [e1, Int.natCast_mul]; rfl, u64_small _ (by omega)]
    exact ih (j + 1) k (by omega) (by omega)
theorem split_eq (n d k : Nat) (h1 : 2 ^ d < n) (h2 : n ≤ 2 ^ (d + 1)) (h64 : n < 18446744073709551616) (hk : 64 < k) : spec_split.f k (n : Int) = some ((2 ^ d : Nat) : Int) := by
  have hd : d < 64 := len_lt (Nat.le_of_lt h1) (by rw [pow64]; exact h64)
  exact split_loop n d h1 h2 h64 d 0 k (by omega) (by omega)
theorem path_len (m : Nat) : ∀ (i b k : Nat), i < m → b + m < 18446744073709551616 → m < 2 ^ 64 → 66 + (inn i m + bor i m) ≤ k →
    ∃ L, spec_pathIn.f k ((b + i : Nat) : Int) (b : Int) ((b + m : Nat) : Int) = some L ∧ L.length = inn i m + bor i m := by
  induction m using Nat.strongRecOn with
  | _ m ih =>
    intro i b k hi hb h64 hk
    rw [pow64] at h64
    obtain ⟨k, rfl⟩ : ∃ m, k = m + 1 := ⟨k - 1, by omega⟩
    simp only [spec_pathIn.f]
    have hsub : IntKind.u64.wrap (((b + m : Nat) : Int) - (b : Int)) = (m : Int) := by rw [u64_sub _ _ (by omega) hb]; congr 1; omega
    rw [hsub]
    by_cases h1 : m = 1
    · subst h1
      obtain rfl : i = 0 := by omega
      rw [if_pos (by omega), inn_one, bor_one]
      exact ⟨[], rfl, rfl⟩
    · obtain ⟨d, g1, g2⟩ := split_of m (by omega)
      have hd : d < 64 := len_lt (Nat.le_of_lt g1) (by rw [pow64]; exact h64)
      have e1 : 2 ^ (d + 1) = 2 ^ d * 2 := Nat.pow_succ ..
      have hp := two_pow_pos d
      rw [if_neg (by omega), split_eq m d k g1 g2 h64 (by omega)]
      simp only [Option.bind_some]
      rw [u64_add _ _ (by omega)]
      by_cases hl : i < 2 ^ d
      · have hin := inn_left i m d hl g1 g2 hd
        have hbo := bor_left i m d hl g1 g2 hd
        have hfull := path_full d (by omega) i hl
        have hdl : d < 9 * 9 := by omega
        obtain ⟨L, hL, hlen⟩ := ih (2 ^ d) g1 i b k hl (by omega) (by rw [pow64]; omega) (by omega)
        rw [if_pos (by omega), hL]
        simp only [Option.bind_some]
        rw [if_pos (by simp; omega)]
        exact ⟨_, rfl, by simp; omega⟩
      · have hin := inn_right i m d (by omega) hi g1 g2
        have hbo := bor_right i m d (by omega) hi g1 g2 hd
        have hle := inn_le (i - 2 ^ d) (m - 2 ^ d) 64 (by omega) (by rw [pow64]; omega) (Nat.le_refl _)
        have hle2 : bor (i - 2 ^ d) (m - 2 ^ d) ≤ 64 := pop_le _ _
        obtain ⟨L, hL, hlen⟩ := ih (m - 2 ^ d) (by omega) (i - 2 ^ d) (b + 2 ^ d) k (by omega) (by omega) (by rw [pow64]; omega) (by omega)
        rw [show b + 2 ^ d + (i - 2 ^ d) = b + i by omega, show b + 2 ^ d + (m - 2 ^ d) = b + m by omega] at hL
        rw [if_neg (by omega), hL]
        simp only [Option.bind_some]
        rw [if_pos (by simp; omega)]
        exact ⟨_, rfl, by simp; omega⟩
theorem parts_len (i m k : Nat) (hi : i < m) (h64 : m < 18446744073709551616) (hk : 200 ≤ k) : ∃ L, spec_PathParts.f k (i : Int) (m : Int) = some L ∧ L.length = inn i m + bor i m := by
  have hle := inn_le i m 64 hi (by rw [pow64]; omega) (Nat.le_refl _)
  have hle2 : bor i m ≤ 64 := pop_le _ _
  obtain ⟨L, hL, hlen⟩ := path_len m i 0 k hi (by omega) (by rw [pow64]; omega) (by omega)
  rw [Nat.zero_add, Nat.zero_add] at hL
  refine ⟨L, ?_, hlen⟩
  unfold spec_PathParts.f
  rw [show ((0 : Nat) : Int) = 0 from rfl] at hL
  rw [hL]
  rfl
theorem decomp_incl (i m : Nat) (hi : i < m) (h64 : m < 18446744073709551616) : proof_decompInclProof.f (i : Int) (m : Int) = some ((inn i m : Int), (bor i m : Int)) := by
  have hle := inn_le i m 64 hi (by rw [pow64]; omega) (Nat.le_refl _)
  have hx := xor_lt64 (a := i) (b := m - 1) (by omega) (by omega)
  unfold proof_decompInclProof.f proof_innerProofSize.f bits_Len64.f
  have h1 := u64_sub m 1 (by omega) h64
  rw [show ((1 : Nat) : Int) = 1 from rfl] at h1
  rw [h1, xor_nat _ _ (by omega) (by omega), if_pos (by omega), if_pos (by omega), Int.toNat_natCast]
  simp only [Option.bind_some]
  rw [show Lib.bitLen (i ^^^ (m - 1)) = inn i m from rfl, u64_small _ (by omega), if_pos (by omega), shr_nat i _ hle, onesCount _ (Nat.lt_of_le_of_lt (Nat.div_le_self _ _) (by omega))]
  rfl

end Go.Proofs.Ytijldedhcjkhiaa.X
