/-
  Of the hashes of an audit path, the inner ones are those below the place where the ways to the leaf and to the last leaf part, the others are those at the border, one for each one of the index that is left there, and together these are all: for every index and size (0 and 0 if the index is not less than the size). No further condition.
-/
import Derived.Test.YtpeikjnkbjabpaaX5
import Derived.Test.YtpeikjnkbjabpaaPathX
namespace Go.Proofs.Ytpeikjnkbjabpaa.Pure
open Go.RowKit Go.Proofs.Ytpeikjnkbjabpaa.X Go.Proofs.YtpeikjnkbjabpaaW.PrintWords Go.Proofs.YtpeikjnkbjabpaaW.PrintLast Go.Proofs.YtpeikjnkbjabpaaW.PrintMore Go.Proofs.YtpeikjnkbjabpaaM

theorem inner_loop (i m : Nat) (hi : i < m) (h64 : m < 18446744073709551616) (f : Nat) : ∀ n k, n + f = inn i m → f < k → spec_Inner.l0 k (i : Int) (m : Int) (n : Int) = some (inn i m : Int) := by
  have hle := inn_le i m 64 hi (by rw [pow64]; omega) (Nat.le_refl _)
  have h1 := u64_sub m 1 (by omega) h64
  rw [show ((1 : Nat) : Int) = 1 from rfl] at h1
  induction f with
  | zero =>
    intro n k hn hk
    obtain ⟨k, rfl⟩ : ∃ m, k = m + 1 := ⟨k - 1, by omega⟩
    simp only [spec_Inner.l0]
    have hq := (shift_eq_iff i (m - 1) n (by omega) (by omega)).2 (show inn i m ≤ n by omega)
    rw [if_pos (by omega), h1, shr_nat i n (by omega), shr_nat _ n (by omega), if_pos (by rw [hq])]
    rw [show n = inn i m by omega]
  | succ f ih =>
    intro n k hn hk
    obtain ⟨k, rfl⟩ : ∃ m, k = m + 1 := ⟨k - 1, by omega⟩
    simp only [spec_Inner.l0]
    have hq : ¬ i / 2 ^ n = (m - 1) / 2 ^ n := fun h => by
      have : inn i m ≤ n := (shift_eq_iff i (m - 1) n (by omega) (by omega)).1 h
      omega
    rw [if_pos (by omega), h1, shr_nat i n (by omega), shr_nat _ n (by omega), if_neg (show ¬ ((i / 2 ^ n : Nat) : Int) = (((m - 1) / 2 ^ n : Nat) : Int) from fun h => hq (Int.ofNat.inj h)), show wrap64 ((n : Int) + 1) = ((n + 1 : Nat) : Int) by rw [wrap64_id] <;> omega]
    exact ih (n + 1) k (by omega) (by omega)

theorem FnProofSizes : laws_FnProofSizes.Pure := by
  intro a0 a1 w0 w1
  obtain ⟨i, rfl, hi64⟩ := wf_u64 a0 w0
  obtain ⟨m, rfl, h64⟩ := wf_u64 a1 w1
  refine ⟨300, ?_⟩
  unfold laws_FnProofSizes.f impl_ProofSizes.f proof_DoorSizes.f
  by_cases hi : i < m
  · have hle := inn_le i m 64 hi (by rw [pow64]; omega) (Nat.le_refl _)
    have hle2 : bor i m ≤ 64 := pop_le _ _
    obtain ⟨L, hL, hlen⟩ := parts_len i m 300 hi h64 (by omega)
    have hin := inner_loop i m hi h64 (inn i m) 0 300 (by omega) (by omega)
    rw [show ((0 : Nat) : Int) = 0 from rfl] at hin
    rw [if_neg (by omega), decomp_incl i m hi h64]
    simp only [Option.bind_some]
    rw [if_neg (by omega)]
    unfold spec_Inner.f
    rw [hin]
    simp only [Option.bind_some, if_true]
    rw [hL]
    simp only [Option.bind_some]
    rw [hlen, show wrap64 ((inn i m : Int) + (bor i m : Int)) = ((inn i m + bor i m : Nat) : Int) by rw [wrap64_id] <;> omega]
    simp
  · rw [if_pos (by omega)]
    simp only [Option.bind_some]
    rw [if_pos (by omega)]
    rfl

end Go.Proofs.Ytpeikjnkbjabpaa.Pure
