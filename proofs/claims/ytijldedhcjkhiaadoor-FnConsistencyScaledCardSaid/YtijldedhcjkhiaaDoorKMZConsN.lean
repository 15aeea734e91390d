import Derived.Test.YtijldedhcjkhiaaDoorKMZPNodes
import Derived.Test.YtijldedhcjkhiaaDoorKZ9
namespace Go.Proofs.YtijldedhcjkhiaaDoor.Z
open Go.RowKit Go.Proofs.YtijldedhcjkhiaaDoorW.PrintWords Go.Proofs.YtijldedhcjkhiaaDoorW.PrintLast Go.Proofs.YtijldedhcjkhiaaDoorW.PrintMore Go.Proofs.YtijldedhcjkhiaaDoorM
set_option linter.unusedVariables false
theorem ctz_odd (a : Nat) (h0 : 0 < a) (h : a < 18446744073709551616) : ∃ s q, a = 2 ^ s * (2 * q + 1) ∧ s < 64 ∧ Lib.ctz 64 a = s := by
  obtain ⟨m, h1, h2⟩ := Lib.ctzFrom_spec 64 a h0 (by rw [pow64]; exact h)
  refine ⟨_, m, h1, h2, ?_⟩
  unfold Lib.ctz
  rw [if_neg (by omega)]
theorem low_half (s q : Nat) : (2 ^ s * (2 * q + 1) - 1) / 2 ^ s = 2 * q := by
  have hp := two_pow_pos s
  rw [show 2 ^ s * (2 * q + 1) - 1 = 2 ^ s * (2 * q) + (2 ^ s - 1) by rw [Nat.mul_add]; omega, Nat.mul_add_div hp, Nat.div_eq_of_lt (by omega), Nat.add_zero]
theorem fromNodes_eq (l : List Nd) (h : l.length ≤ 500) (k : Nat) (hk : 1000 < k) : impl_fromNodes.f k (l.map cn) = some (l.map sn) := by
  have h1 := from_run l [] [] k (by simp; omega) (by simp; omega) (by omega)
  unfold impl_fromNodes.f
  simpa using h1
theorem fromProof_eq (l : List Nd) (h : l.length ≤ 500) (k : Nat) (hk : 1000 < k) (a b c d : Int) : impl_fromProof.f k (l.map cn) a b c d = some (l.map sn, c, d, a, b) := by
  unfold impl_fromProof.f
  exact (bind_of (a := (c, d, a, b)) rfl).trans ((bind_of (fromNodes_eq l h k hk)).trans (bind_of (a := (c, d)) rfl))
def cl (s u d : Nat) (t1 t2 : List Nd) : List Nd := (if u = 0 then (sibs s (2 * u) d).tail else sibs s (2 * u) d) ++ (t1.reverse ++ t2.reverse)
def clb (u d : Nat) (t1 : List Nd) : Int := if t1 = [] then 0 else if u = 0 then (d : Int) else ((1 + d : Nat) : Int)
theorem cons_eq (a b s u : Nat) (ha : a = 2 ^ s * (2 * u + 1)) (hs : Lib.ctz 64 a = s) (hab : a < b) (hb : b < 18446744073709551616) : ∃ d t1 t2, Row ((2 * u / 2 ^ d + 1) * 2 ^ (s + d)) b t1 ∧ Row 0 (2 * u / 2 ^ d * 2 ^ (s + d)) t2 ∧ s + d < 64 ∧ (2 * u / 2 ^ d + 1) * 2 ^ (s + d) ≤ b ∧ Lib.bitLen (2 * u ^^^ (b / 2 ^ s)) = d + 1 ∧
    ∀ k, 1200 < k → impl_Consistency.f k (a : Int) (b : Int) = some ((cl s u d t1 t2).map sn, ((s + d : Nat) : Int), ((2 * u / 2 ^ d ^^^ 1 : Nat) : Int), clb u d t1, clb u d t1 + (t1.length : Int), true) := by
  have hps := two_pow_pos s
  have ha0 : 0 < a := by rw [ha]; exact Nat.mul_pos hps (by omega)
  have hi : 2 * u < b / 2 ^ s := by
    have h1 : (2 * u + 1) * 2 ^ s ≤ b := by rw [Nat.mul_comm]; omega
    have h2 := (Nat.le_div_iff_mul_le hps).2 h1
    omega
  obtain ⟨d, t1, t2, R1, R2, hsd, hend, hlen, hn⟩ := nodes_eq (2 * u) s b hb hi
  refine ⟨d, t1, t2, R1, R2, hsd, hend, hlen, fun k hk => ?_⟩
  have l1 := R1.len
  have l2 := R2.len
  obtain ⟨k, rfl⟩ : ∃ z, k = z + 1 := ⟨k - 1, by omega⟩
  have hz : bits_TrailingZeros64.f (a : Int) = some (s : Int) := by
    unfold bits_TrailingZeros64.f
    rw [if_pos (by omega), if_pos (by omega), Int.toNat_natCast, hs]
  have hsh : shr .u64 (IntKind.u64.wrap ((a : Int) - 1)) (IntKind.u64.wrap (s : Int)) = ((2 * u : Nat) : Int) := by
    rw [show (a : Int) - 1 = ((a - 1 : Nat) : Int) by omega, u64_small _ (by omega), u64_small _ (by omega), shr_nat _ _ (by omega), ha, low_half]
  have hll : (cl s u d t1 t2).length ≤ 400 := by
    unfold cl
    split <;> simp [sibs_length] <;> omega
  have key : ∃ x, proof_Consistency.f (k + 1) (a : Int) (b : Int) = some ((cl s u d t1 t2).map cn, clb u d t1, clb u d t1 + (t1.length : Int), ((s + d : Nat) : Int), x, none, [], []) ∧ x = ((2 * u / 2 ^ d ^^^ 1 : Nat) : Int) := by
    refine ⟨_, ?_, rfl⟩
    unfold proof_Consistency.f
    rw [if_neg (by omega), if_neg (by omega), show ((a : Int) == 0) = false from by rw [beq_eq_false_iff_ne]; omega]
    rw [proof_Consistency.j0, if_neg Bool.false_ne_true]
    refine (bind_of hz).trans ?_
    rw [hsh, u64_small s (by omega), if_pos (by omega)]
    refine (bind_of (hn k (by omega))).trans ?_
    by_cases hu : u = 0
    · rw [if_pos (by omega)]
      have hc : cl s u d t1 t2 = (sibs s (2 * u) d).tail ++ (t1.reverse ++ t2.reverse) := by unfold cl; rw [if_pos hu]
      have hd1 : ((sibs s (2 * u) d ++ (t1.reverse ++ t2.reverse)).map cn).drop 1 = (cl s u d t1 t2).map cn := by rw [hc]; unfold sibs; simp
      have hskip : proof_Nodes_skipFirst.f ((sibs s (2 * u) d ++ (t1.reverse ++ t2.reverse)).map cn) (if t1 = [] then 0 else ((1 + d : Nat) : Int)) (if t1 = [] then 0 else ((1 + d + t1.length : Nat) : Int)) ((s + d : Nat) : Int) ((2 * u / 2 ^ d ^^^ 1 : Nat) : Int) = some ((cl s u d t1 t2).map cn, clb u d t1, clb u d t1 + (t1.length : Int), ((s + d : Nat) : Int), ((2 * u / 2 ^ d ^^^ 1 : Nat) : Int)) := by
        unfold proof_Nodes_skipFirst.f
        rw [if_pos (by simp [sibs_length]; omega), hd1]
        refine (bind_of rfl).trans ?_
        unfold clb
        by_cases ht : t1 = []
        · rw [if_pos ht, if_pos ht, if_pos ht, if_neg (by omega), ht]
          rfl
        · have hne : t1.length ≠ 0 := fun h => ht (List.length_eq_zero_iff.1 h)
          rw [if_neg ht, if_neg ht, if_neg ht, if_pos hu, if_pos (by omega), wrap64_id _ (by omega) (by omega), wrap64_id _ (by omega) (by omega)]
          rw [show ((1 + d : Nat) : Int) - 1 = (d : Int) by omega, show ((1 + d + t1.length : Nat) : Int) - 1 = (d : Int) + (t1.length : Int) by omega]
      exact (bind_of hskip).trans rfl
    · rw [if_neg (by omega)]
      have hc : cl s u d t1 t2 = sibs s (2 * u) d ++ (t1.reverse ++ t2.reverse) := by unfold cl; rw [if_neg hu]
      rw [hc]
      unfold clb
      by_cases ht : t1 = []
      · rw [if_pos ht, if_pos ht, if_pos ht, ht]
        rfl
      · rw [if_neg ht, if_neg ht, if_neg ht, if_neg hu, show ((1 + d + t1.length : Nat) : Int) = ((1 + d : Nat) : Int) + (t1.length : Int) by omega]
  obtain ⟨x, key, rfl⟩ := key
  unfold impl_Consistency.f
  refine (bind_of key).trans ?_
  refine (if_pos (by rfl)).trans ?_
  exact (bind_of (fromProof_eq _ (by omega) (k + 1) (by omega) _ _ _ _)).trans rfl
end Go.Proofs.YtijldedhcjkhiaaDoor.Z
