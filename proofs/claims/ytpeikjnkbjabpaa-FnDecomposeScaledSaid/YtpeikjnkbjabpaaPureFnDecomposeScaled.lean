/-
  A range whose bounds are both multiplied by a power of two has masks that are multiplied by it, for all bounds and powers for which the law asks this (begin not after end, the products below 2 to the power of 64). No further condition.
-/
import Derived.Test.YtpeikjnkbjabpaaX3
import Derived.Test.YtpeikjnkbjabpaaDec
namespace Go.Proofs.Ytpeikjnkbjabpaa.Pure
open Go.RowKit Go.Proofs.Ytpeikjnkbjabpaa.X Go.Proofs.YtpeikjnkbjabpaaW.PrintWords Go.Proofs.YtpeikjnkbjabpaaW.PrintLast Go.Proofs.YtpeikjnkbjabpaaW.PrintMore Go.Proofs.YtpeikjnkbjabpaaM

theorem dec_scaled (b e l r k : Nat) (h : Dec b e l r) (h64 : e * 2 ^ k < 18446744073709551616) :
    compact_Decompose.f ((b * 2 ^ k : Nat) : Int) ((e * 2 ^ k : Nat) : Int) = some (((l * 2 ^ k : Nat) : Int), ((r * 2 ^ k : Nat) : Int)) := by
  rcases h with ⟨rfl, rfl, rfl⟩ | ⟨_, d, q, x, y, hd, hx, hy, hb, he, rfl, hr⟩
  · unfold compact_Decompose.f
    rw [if_pos (by omega), Nat.zero_mul]
    rfl
  · subst hr
    have hk := two_pow_pos k
    have hp := two_pow_pos d
    have e1 : 2 ^ (d + 1) = 2 ^ d * 2 := Nat.pow_succ ..
    have e2 : 2 ^ (d + k) = 2 ^ d * 2 ^ k := Nat.pow_add ..
    have e3 : 2 ^ (d + k + 1) = 2 ^ (d + 1) * 2 ^ k := by rw [Nat.pow_succ, e2, e1, Nat.mul_right_comm]
    have hx' : x * 2 ^ k + (2 ^ k - 1) < 2 ^ (d + k) := by
      rw [e2]
      have : (x + 1) * 2 ^ k ≤ 2 ^ d * 2 ^ k := Nat.mul_le_mul_right _ hx
      rw [Nat.add_mul] at this
      omega
    have hy' : r * 2 ^ k < 2 ^ (d + k) := by rw [e2]; exact Nat.mul_lt_mul_of_pos_right hy hk
    have hd' : d + k < 64 := by
      refine len_lt (d := d + k) (x := e * 2 ^ k) ?_ (by rw [pow64]; exact h64)
      rw [e2]
      exact Nat.mul_le_mul_right _ (by omega)
    have hb' : b * 2 ^ k = 2 ^ (d + k + 1) * q + (x * 2 ^ k + (2 ^ k - 1)) + 1 := by
      rw [hb, e3, Nat.add_mul, Nat.add_mul, Nat.mul_right_comm]
      omega
    have he' : e * 2 ^ k = 2 ^ (d + k + 1) * q + 2 ^ (d + k) + r * 2 ^ k := by
      rw [he, e3, e2, Nat.add_mul, Nat.add_mul, Nat.mul_right_comm]
    rw [dec_of (b * 2 ^ k) (e * 2 ^ k) (d + k) q _ _ hd' hx' hy' hb' he' h64]
    congr 2
    rw [e2, show 2 ^ d - 1 - x = 2 ^ d - (x + 1) by omega, Nat.sub_mul, Nat.add_mul]
    omega

theorem FnDecomposeScaled : laws_FnDecomposeScaled.Pure := by
  intro a0 a1 a2 w0 w1 w2
  obtain ⟨b, rfl, hb⟩ := wf_u64 a0 w0
  obtain ⟨e, rfl, he⟩ := wf_u64 a1 w1
  obtain ⟨hk1, hk2⟩ := wf_i64 a2 w2
  refine ⟨1, ?_⟩
  unfold laws_FnDecomposeScaled.f
  by_cases hbe : b ≤ e
  · rw [if_neg (by omega)]
    unfold laws_scalable.f
    by_cases hk0 : 0 ≤ a2
    · obtain ⟨k, rfl⟩ := Int.eq_ofNat_of_zero_le hk0
      by_cases hk63 : k ≤ 63
      · rw [if_pos (by omega), if_pos (by omega), if_pos (by omega), shl_nat e k (by omega), shr_nat _ k (by omega)]
        simp only [Option.bind_some]
        by_cases hs : e * 2 ^ k < 18446744073709551616
        · rw [Nat.mod_eq_of_lt hs, Nat.mul_div_cancel _ (two_pow_pos k)]
          obtain ⟨l, r, hd, D⟩ := decompose b e hbe he
          have hd2 := dec_scaled b e l r k D hs
          have hsum := D.sum
          have hbs : b * 2 ^ k < 18446744073709551616 := Nat.lt_of_le_of_lt (Nat.mul_le_mul_right _ hbe) hs
          have hls : l * 2 ^ k < 18446744073709551616 := Nat.lt_of_le_of_lt (Nat.mul_le_mul_right _ (by omega)) hs
          have hrs : r * 2 ^ k < 18446744073709551616 := Nat.lt_of_le_of_lt (Nat.mul_le_mul_right _ (by omega)) hs
          simp only [laws_FnDecomposeScaled.j0, impl_Decompose.f]
          rw [hd]
          simp only [beq_self_eq_true, Bool.not_true, Bool.false_eq_true, if_false, Option.bind_some]
          rw [if_pos (by omega), shl_nat b k (by omega), shl_nat e k (by omega), shl_nat l k (by omega), shl_nat r k (by omega), Nat.mod_eq_of_lt hbs, Nat.mod_eq_of_lt hs, Nat.mod_eq_of_lt hls, Nat.mod_eq_of_lt hrs, hd2]
          simp only [Option.bind_some, if_true]
          rw [show ((l : Int) + (r : Int)) = ((l + r : Nat) : Int) by omega, show ((e : Int) - (b : Int)) = ((l + r : Nat) : Int) by omega]
          simp
        · have : ¬ (e * 2 ^ k % 18446744073709551616 / 2 ^ k = e) := by
            intro h
            have h1 : e * 2 ^ k ≤ e * 2 ^ k % 18446744073709551616 := by
              have := Nat.div_mul_le_self (e * 2 ^ k % 18446744073709551616) (2 ^ k)
              rw [h] at this
              exact this
            omega
          rw [show (((e * 2 ^ k % 18446744073709551616 / 2 ^ k : Nat) : Int) == (e : Int)) = false from beq_eq_false_iff_ne.2 (fun h => this (Int.ofNat.inj h))]
          simp [laws_FnDecomposeScaled.j0]
      · rw [if_pos (by omega), if_neg (by omega)]
        simp [laws_FnDecomposeScaled.j0]
    · rw [if_neg (by omega)]
      simp [laws_FnDecomposeScaled.j0]
  · rw [if_pos (by omega)]
    simp [laws_FnDecomposeScaled.j0]

end Go.Proofs.Ytpeikjnkbjabpaa.Pure
