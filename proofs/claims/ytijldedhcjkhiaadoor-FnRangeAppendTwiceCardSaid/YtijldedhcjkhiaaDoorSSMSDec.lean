import Derived.Test.YtijldedhcjkhiaaDoorSSMSSh
import Derived.Test.YtijldedhcjkhiaaDoorSSS7
namespace Go.Proofs.YtijldedhcjkhiaaDoor.S
open Go.RowKit Go.Proofs.YtijldedhcjkhiaaDoorW.PrintWords Go.Proofs.YtijldedhcjkhiaaDoorW.PrintLast Go.Proofs.YtijldedhcjkhiaaDoorW.PrintMore Go.Proofs.YtijldedhcjkhiaaDoorM
def Dec (b e l r : Nat) : Prop :=
  (b = 0 ∧ l = 0 ∧ r = e) ∨ (0 < b ∧ ∃ d q x y, d < 64 ∧ x < 2 ^ d ∧ y < 2 ^ d ∧ b = 2 ^ (d + 1) * q + x + 1 ∧ e = 2 ^ (d + 1) * q + 2 ^ d + y ∧ l = 2 ^ d - 1 - x ∧ r = y)
theorem dec_of (b e d q x y : Nat) (hd : d < 64) (hx : x < 2 ^ d) (hy : y < 2 ^ d) (hb : b = 2 ^ (d + 1) * q + x + 1) (he : e = 2 ^ (d + 1) * q + 2 ^ d + y) (h64 : e < 18446744073709551616) :
    compact_Decompose.f (b : Int) (e : Int) = some (((2 ^ d - 1 - x : Nat) : Int), ((y : Nat) : Int)) := by
  have hp := pow_lt (show d < 64 from hd)
  rw [pow64] at hp
  have hq := two_pow_pos d
  have hb1 : ((b : Int) - 1) = ((b - 1 : Nat) : Int) := by omega
  have hlt : b - 1 < e := by omega
  have hw : IntKind.u64.wrap ((b : Int) - 1) = ((b - 1 : Nat) : Int) := by rw [hb1]; exact u64_small _ (by omega)
  have e1 : 2 ^ (d + 1) = 2 ^ d * 2 := Nat.pow_succ ..
  unfold compact_Decompose.f
  rw [if_neg (show ¬ ((b : Int) = 0) by omega), hw, xor_nat _ _ (by omega) h64]
  have hl : Lib.bitLen ((b - 1) ^^^ e) = d + 1 := by
    rw [show b - 1 = 2 ^ (d + 1) * q + x by omega, he]
    exact len_part d q x y hx hy hd
  have hx64 : (b - 1) ^^^ e < 18446744073709551616 := by rw [← pow64]; exact Nat.xor_lt_two_pow (by rw [pow64]; exact Nat.lt_trans hlt h64) (by rw [pow64]; exact h64)
  have hf : bits_Len64.f (((b - 1) ^^^ e : Nat) : Int) = some ((d + 1 : Nat) : Int) := by
    unfold bits_Len64.f
    rw [if_pos (by omega), if_pos (by omega), Int.toNat_natCast, hl]
  rw [hf]
  simp only [Option.bind_some]
  have hd1 : wrap64 (((d + 1 : Nat) : Int) - 1) = (d : Int) := by rw [wrap64_id] <;> omega
  rw [hd1, u64_small d (by omega), if_pos (by omega), mask_nat d hd]
  have hnot : Go.bits .xor .u64 18446744073709551615 ((b - 1 : Nat) : Int) = ((18446744073709551615 - (b - 1) : Nat) : Int) := by
    have := xor_nat 18446744073709551615 (b - 1) (by omega) (by omega)
    rw [xor_max _ (by omega)] at this
    exact this
  rw [hnot, and_nat _ _ (by omega) (by omega), and_nat _ _ h64 (by omega), Nat.and_two_pow_sub_one_eq_mod, Nat.and_two_pow_sub_one_eq_mod]
  have hr : e % 2 ^ d = y := by
    rw [he, e1, Nat.mul_assoc, show 2 ^ d * (2 * q) + 2 ^ d + y = y + 2 ^ d * (2 * q + 1) by rw [Nat.mul_add]; omega, Nat.add_mul_mod_self_left, Nat.mod_eq_of_lt hy]
  have hlm : (18446744073709551615 - (b - 1)) % 2 ^ d = 2 ^ d - 1 - x := by
    have hs : 18446744073709551616 = 2 ^ d * 2 ^ (64 - d) := by rw [← pow64, Nat.mul_comm]; exact pow_split (by omega)
    have hbig : 2 ^ d * (2 * q + 1) ≤ 2 ^ d * 2 ^ (64 - d) := by rw [← hs, Nat.mul_add]; rw [e1, Nat.mul_assoc] at he; omega
    have hle : 2 * q + 1 ≤ 2 ^ (64 - d) := Nat.le_of_mul_le_mul_left hbig hq
    obtain ⟨m, hm⟩ : ∃ m, 2 ^ (64 - d) = 2 * q + 1 + m := ⟨2 ^ (64 - d) - (2 * q + 1), by omega⟩
    have key : 18446744073709551615 - (b - 1) = (2 ^ d - 1 - x) + 2 ^ d * m := by
      rw [hm, Nat.mul_add, Nat.mul_add] at hs
      rw [e1, Nat.mul_assoc] at hb
      omega
    rw [key, Nat.add_mul_mod_self_left, Nat.mod_eq_of_lt (by omega)]
  rw [hr, hlm]
theorem decompose (b e : Nat) (h : b ≤ e) (h64 : e < 18446744073709551616) : ∃ l r : Nat, compact_Decompose.f (b : Int) (e : Int) = some ((l : Int), (r : Int)) ∧ Dec b e l r := by
  by_cases hb : b = 0
  · subst hb
    exact ⟨0, e, by unfold compact_Decompose.f; rw [if_pos (by omega)]; rfl, .inl ⟨rfl, rfl, rfl⟩⟩
  · obtain ⟨d, q, x, y, hx, hy, hA, hB⟩ := part_of e (b - 1) (by omega)
    have hd : d < 64 := by
      refine len_lt (d := d) (x := e) ?_ (by rw [pow64]; exact h64)
      rw [hB]
      omega
    exact ⟨2 ^ d - 1 - x, y, dec_of b e d q x y hd hx hy (by omega) hB h64, .inr ⟨by omega, d, q, x, y, hd, hx, hy, by omega, hB, rfl, rfl⟩⟩
theorem Dec.sum {b e l r : Nat} (h : Dec b e l r) : b + l + r = e := by
  rcases h with ⟨rfl, rfl, rfl⟩ | ⟨_, d, q, x, y, _, hx, _, hb, he, rfl, rfl⟩
  · omega
  · have e1 : 2 ^ (d + 1) = 2 ^ d * 2 := Nat.pow_succ ..
    omega
end Go.Proofs.YtijldedhcjkhiaaDoor.S
