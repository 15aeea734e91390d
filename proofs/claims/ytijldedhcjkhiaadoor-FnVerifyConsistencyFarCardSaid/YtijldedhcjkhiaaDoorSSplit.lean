import Derived.Test.YtijldedhcjkhiaaDoorSPath
import Derived.Test.YtijldedhcjkhiaaDoorSOnes
import Derived.Test.YtijldedhcjkhiaaDoorSX11
namespace Go.Proofs.YtijldedhcjkhiaaDoor.X
open Go.RowKit Go.Proofs.YtijldedhcjkhiaaDoorW.PrintWords Go.Proofs.YtijldedhcjkhiaaDoorW.PrintLast Go.Proofs.YtijldedhcjkhiaaDoorW.PrintMore Go.Proofs.YtijldedhcjkhiaaDoorM
theorem u64_sub (a b : Nat) (h : b ≤ a) (ha : a < 18446744073709551616) : IntKind.u64.wrap ((a : Int) - (b : Int)) = ((a - b : Nat) : Int) := by
  rw [show (a : Int) - (b : Int) = ((a - b : Nat) : Int) by omega, u64_small _ (by omega)]
theorem u64_add (a b : Nat) (h : a + b < 18446744073709551616) : IntKind.u64.wrap ((a : Int) + (b : Int)) = ((a + b : Nat) : Int) := by
  rw [show (a : Int) + (b : Int) = ((a + b : Nat) : Int) by omega, u64_small _ h]
theorem split_loop (n d : Nat) (h1 : 2 ^ d < n) (h2 : n ≤ 2 ^ (d + 1)) (h64 : n < 18446744073709551616) (f : Nat) : ∀ j k, j + f = d → f < k → spec_split.l0 k (n : Int) ((2 ^ j : Nat) : Int) = some ((2 ^ d : Nat) : Int) := by
  induction f with
  | zero =>
    intro j k hj hk
    obtain ⟨k, rfl⟩ : ∃ m, k = m + 1 := ⟨k - 1, by omega⟩
    have e1 : 2 ^ (d + 1) = 2 ^ d * 2 := Nat.pow_succ ..
    obtain rfl : j = d := by omega
    simp only [spec_split.l0]
    rw [u64_sub _ _ (by omega) h64, if_neg (by omega)]
  | succ f ih =>
    intro j k hj hk
    obtain ⟨k, rfl⟩ : ∃ m, k = m + 1 := ⟨k - 1, by omega⟩
    have e1 : 2 ^ (j + 1) = 2 ^ j * 2 := Nat.pow_succ ..
    have hm := pow_mono (show j + 1 ≤ d by omega)
    have hm2 : 2 ^ j * 2 < n := by omega
    simp only [spec_split.l0]
    rw [u64_sub _ _ (by omega) h64, if_pos (by omega), show ((2 ^ j : Nat) : Int) * 2 = ((2 ^ (j + 1) : Nat) : Int) by rw [e1, Int.natCast_mul]; rfl, u64_small _ (by omega)]
    exact ih (j + 1) k (by omega) (by omega)
theorem split_eq (n d k : Nat) (h1 : 2 ^ d < n) (h2 : n ≤ 2 ^ (d + 1)) (h64 : n < 18446744073709551616) (hk : 64 < k) : spec_split.f k (n : Int) = some ((2 ^ d : Nat) : Int) := by
  have hd : d < 64 := len_lt (Nat.le_of_lt h1) (by rw [pow64]; exact h64)
  exact split_loop n d h1 h2 h64 d 0 k (by omega) (by omega)
theorem decomp_incl (i m : Nat) (hi : i < m) (h64 : m < 18446744073709551616) : proof_decompInclProof.f (i : Int) (m : Int) = some ((inn i m : Int), (bor i m : Int)) := by
  have hle := inn_le i m 64 hi (by rw [pow64]; omega) (Nat.le_refl _)
  have hx := xor_lt64 (a := i) (b := m - 1) (by omega) (by omega)
  unfold proof_decompInclProof.f proof_innerProofSize.f bits_Len64.f
  have h1 := u64_sub m 1 (by omega) h64
  rw [show ((1 : Nat) : Int) = 1 from rfl] at h1
  rw [h1, xor_nat _ _ (by omega) (by omega), if_pos (by omega), if_pos (by omega), Int.toNat_natCast]
  simp only [Option.bind_some]
  rw [show Lib.bitLen (i ^^^ (m - 1)) = inn i m from rfl, u64_small _ (by omega), if_pos (by omega), shr_nat i _ hle, onesCount _ (Nat.lt_of_le_of_lt (Nat.div_le_self _ _) (by omega))]
  rfl
end Go.Proofs.YtijldedhcjkhiaaDoor.X
