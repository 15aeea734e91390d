import Derived.Test.YtijldedhcjkhiaaDoorSSMSRowB
import Derived.Test.YtijldedhcjkhiaaDoorSSS3
namespace Go.Proofs.YtijldedhcjkhiaaDoor.S
open Go.RowKit Go.Proofs.YtijldedhcjkhiaaDoorW.PrintWords Go.Proofs.YtijldedhcjkhiaaDoorW.PrintLast Go.Proofs.YtijldedhcjkhiaaDoorW.PrintMore Go.Proofs.YtijldedhcjkhiaaDoorM
set_option linter.unusedVariables false
theorem level_run (b e : Nat) (n : Nd) (t : List Nd) (h64 : e < 18446744073709551616) (hn : n.1 < 64) (ht : Til e b (n :: t)) (hs : SF (n :: t)) (acc : List S70) (hacc : acc.length < 10000) (f : Nat) : ∀ (j k : Nat), j + f = n.1 → f < k →
    ∃ k', k ≤ k' + f + 1 ∧ spec_Nodes.l1 k acc (j : Int) (b : Int) (e : Int) = spec_Nodes.l0 k' (acc ++ [sn n]) ((b + 2 ^ n.1 : Nat) : Int) (e : Int) := by
  have hle := ht.2.le
  have hpn := two_pow_pos n.1
  induction f with
  | zero =>
    intro j k hj hk
    obtain ⟨k, rfl⟩ : ∃ m, k = m + 1 := ⟨k - 1, by omega⟩
    obtain rfl : j = n.1 := hj
    have hdiv : b / 2 ^ n.1 = n.2 := by rw [← ht.1, Nat.mul_div_cancel _ hpn]
    have hadd : IntKind.u64.wrap ((b : Int) + ((2 ^ n.1 : Nat) : Int)) = ((b + 2 ^ n.1 : Nat) : Int) := add64 _ _ (by omega)
    have hand : Go.bits .and .u64 ((b / 2 ^ n.1 : Nat) : Int) 1 = ((b / 2 ^ n.1 % 2 : Nat) : Int) := by
      have h := and_nat (b / 2 ^ n.1) 1 (Nat.lt_of_le_of_lt (Nat.div_le_self _ _) (by omega)) (by decide)
      rw [Nat.and_one_is_mod] at h
      exact h
    refine ⟨k, by omega, ?_⟩
    have hsn : acc ++ [(⟨(n.1 : Int), ((b / 2 ^ n.1 : Nat) : Int)⟩ : S70)] = acc ++ [sn n] := by rw [hdiv]; rfl
    simp only [spec_Nodes.l1]
    rw [shr_nat b n.1 (by omega), one_shl' n.1 hn, hadd, hsn, hand]
    by_cases h63 : n.1 < 63
    · rw [if_pos (by omega), if_pos (by omega)]
      by_cases hev : b / 2 ^ n.1 % 2 = 0
      · rw [if_pos (by omega)]
        have hone : IntKind.u64.wrap ((n.1 : Int) + 1) = ((n.1 + 1 : Nat) : Int) := add64 n.1 1 (by omega)
        rw [hone, if_pos (by omega), one_shl' _ (by omega), sub64 _ _ (by omega) h64, if_neg, if_pos (by omega)]
        intro hle2
        have h1 : 2 ^ (n.1 + 1) ≤ e - b := by omega
        rw [pow_add_two] at h1
        exact greedy ht hs (by rw [← hdiv]; exact hev) (by omega)
      · rw [if_neg (by omega), if_pos (by omega)]
    · rw [if_neg (by omega), if_pos (by omega), if_pos (by omega)]
  | succ f ih =>
    intro j k hj hk
    obtain ⟨k, rfl⟩ : ∃ m, k = m + 1 := ⟨k - 1, by omega⟩
    obtain ⟨k', h1, h2⟩ := ih (j + 1) k (by omega) (by omega)
    refine ⟨k', by omega, ?_⟩
    have hand : Go.bits .and .u64 ((b / 2 ^ j : Nat) : Int) 1 = ((b / 2 ^ j % 2 : Nat) : Int) := by
      have h := and_nat (b / 2 ^ j) 1 (Nat.lt_of_le_of_lt (Nat.div_le_self _ _) (by omega)) (by decide)
      rw [Nat.and_one_is_mod] at h
      exact h
    have hone : IntKind.u64.wrap ((j : Int) + 1) = ((j + 1 : Nat) : Int) := add64 j 1 (by omega)
    have hp1 : 2 ^ (j + 1) ≤ 2 ^ n.1 := pow_mono (by omega)
    have hev : b / 2 ^ j % 2 = 0 := by
      have hpj := two_pow_pos j
      have hd : b / 2 ^ j * 2 ^ j = b := Nat.div_mul_cancel (Nat.dvd_trans (Nat.pow_dvd_pow 2 (by omega)) (⟨n.2, by rw [Nat.mul_comm]; exact ht.1.symm⟩ : 2 ^ n.1 ∣ b))
      exact even_of_lt (hd.trans ht.1.symm) (by omega)
    simp only [spec_Nodes.l1]
    rw [if_pos (by omega), if_pos (by omega), shr_nat b j (by omega), hand, if_pos (by omega), hone, if_pos (by omega), one_shl' _ (by omega), sub64 _ _ (by omega) h64, if_pos (by omega)]
    exact h2
theorem nodes_run (e : Nat) (h64 : e < 18446744073709551616) : ∀ (t : List Nd) (b : Nat) (acc : List S70) (k : Nat), Til e b t → SF t → (∀ n ∈ t, n.1 < 64) → acc.length + t.length ≤ 9000 → 67 * t.length < k →
    spec_Nodes.l0 k acc (b : Int) (e : Int) = some (acc ++ t.map sn)
  | [], b, acc, k, ht, _, _, _, hk => by
    obtain ⟨k, rfl⟩ : ∃ m, k = m + 1 := ⟨k - 1, by omega⟩
    obtain rfl : b = e := ht
    simp only [spec_Nodes.l0]
    rw [if_neg (by omega)]
    simp
  | n :: t, b, acc, k, ht, hs, hl, ha, hk => by
    simp only [List.length_cons] at ha hk
    obtain ⟨k, rfl⟩ : ∃ m, k = m + 1 := ⟨k - 1, by omega⟩
    have hle := ht.2.le
    have hpn := two_pow_pos n.1
    have hn := hl n (by simp)
    obtain ⟨k', h1, h2⟩ := level_run b e n t h64 hn ht hs acc (by omega) n.1 0 k (by omega) (by omega)
    simp only [spec_Nodes.l0]
    rw [if_pos (by omega)]
    rw [show ((0 : Nat) : Int) = 0 from rfl] at h2
    rw [h2, nodes_run e h64 t (b + 2 ^ n.1) (acc ++ [sn n]) k' ht.2 hs.2 (fun m hm => hl m (by simp [hm])) (by simp; omega) (by omega)]
    simp
theorem spec_nodes {b e : Nat} {t : List Nd} (h64 : e < 18446744073709551616) (R : Row b e t) (k : Nat) (hk : 10000 < k) : spec_Nodes.f k (b : Int) (e : Int) = some (t.map sn) := by
  unfold spec_Nodes.f
  have := R.len
  rw [nodes_run e h64 t b [] k R.til R.sf R.lev (by simp; omega) (by omega)]
  rfl
end Go.Proofs.YtijldedhcjkhiaaDoor.S
