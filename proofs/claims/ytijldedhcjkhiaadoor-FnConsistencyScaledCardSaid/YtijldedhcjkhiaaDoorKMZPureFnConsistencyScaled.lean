import Derived.Test.YtijldedhcjkhiaaDoorKMZScaleM
import Derived.Test.YtijldedhcjkhiaaDoorKMZVerifyD
import Derived.Test.YtijldedhcjkhiaaDoorKZ10
namespace Go.Proofs.YtijldedhcjkhiaaDoor.Pure
open Go.RowKit Go.Proofs.YtijldedhcjkhiaaDoorW.PrintWords Go.Proofs.YtijldedhcjkhiaaDoorW.PrintLast Go.Proofs.YtijldedhcjkhiaaDoorW.PrintMore Z Go.Proofs.YtijldedhcjkhiaaDoorM
set_option linter.unusedVariables false
def verdictOf (h : Hs) (q n m : Nat) (proof : List (List Int)) (root1 root2 : List Int) : Option (Int × List Int) :=
  if proof.length = (if q = 0 then 0 else 1) + n + m then (impl_verdict.f (answer (up1 h (2 * q) n (seedOf q proof root1) (restOf q proof)) (up2 h (2 * q) n (seedOf q proof root1) (restOf q proof)) root1 root2).1
    (answer (up1 h (2 * q) n (seedOf q proof root1) (restOf q proof)) (up2 h (2 * q) n (seedOf q proof root1) (restOf q proof)) root1 root2).2.1
    (answer (up1 h (2 * q) n (seedOf q proof root1) (restOf q proof)) (up2 h (2 * q) n (seedOf q proof root1) (restOf q proof)) root1 root2).2.2).bind fun bt => some (bt.1, bt.2)
  else some (2, [])
theorem impl_verify_all (h : Hs) (s q b k : Nat) (proof : List (List Int)) (root1 root2 : List Int) (hab : 2 ^ s * (2 * q + 1) < b) (hb : b < 18446744073709551616) (hs64 : s < 64) (hctz : Lib.ctz 64 (2 ^ s * (2 * q + 1)) = s)
    (hl : proof.length ≤ 300) (hx : ∀ x ∈ proof, x.length ≤ 5000) (hr1 : root1.length ≤ 5000) (hr2 : root2.length ≤ 2147483647) (hk : 30001000 < k) :
    impl_VerifyConsistency.f k h.k h.s h.b h.e h.l h.n ((2 ^ s * (2 * q + 1) : Nat) : Int) (b : Int) proof root1 root2 = verdictOf h q (cn s q b) (cb s q b) proof root1 root2 := by
  obtain ⟨v1, v2⟩ := verify_eq h s q b k proof root1 root2 hab hb hs64 hctz hl hx hr1 hk
  unfold impl_VerifyConsistency.f verdictOf
  rw [texts_eq proof k (by omega) (fun x hx' => by have := hx x hx'; omega) (by omega)]
  simp only [Option.bind_some, List.nil_append, List.length_nil, Nat.zero_add]
  rw [if_pos (by omega), if_pos (by omega)]
  by_cases hlen : proof.length = (if q = 0 then 0 else 1) + cn s q b + cb s q b
  · rw [v1 hlen, Option.bind_some, if_pos hlen]
  · obtain ⟨x, y, hxy⟩ := v2 hlen
    rw [hxy, Option.bind_some, if_neg hlen]
    rfl
theorem raised_run (c : Nat) (hc : c ≤ 63) (suf : List Nd) : ∀ (pre : List Nd) (k : Nat), (pre ++ suf).length ≤ 1000 → (∀ n ∈ suf, n.1 < 64) → suf.length < k →
    laws_raised.l0 k (c : Int) ((pre.map (up c)).map sn) ((pre ++ suf).map sn) (((pre ++ suf).map sn).length : Int) (pre.length : Int) = some (((pre ++ suf).map (up c)).map sn) := by
  induction suf with
  | nil =>
    intro pre k h1 h2 hk
    obtain ⟨k, rfl⟩ : ∃ m, k = m + 1 := ⟨k - 1, by omega⟩
    rw [List.append_nil, laws_raised.l0, if_neg (by simp)]
  | cons n suf ih =>
    intro pre k h1 h2 hk
    obtain ⟨k, rfl⟩ : ∃ m, k = m + 1 := ⟨k - 1, by omega⟩
    have hn := h2 n (by simp)
    have hlt : (pre.length : Int) < (((pre ++ n :: suf).map sn).length : Int) := by simp; omega
    have hrd : rd_T70 ((pre ++ n :: suf).map sn) (pre.length : Int) = sn n := by simp [rd_T70]
    have hpl : pre.length ≤ 1000 := by simp at h1; omega
    have ew : wrap64 ((pre.length : Int) + 1) = ((pre ++ [n]).length : Int) := by
      rw [show ((pre ++ [n]).length : Int) = (pre.length : Int) + 1 by simp]
      exact wrap64_id _ (by omega) (by omega)
    have ih' := ih (pre ++ [n]) k (by simp at h1 ⊢; omega) (fun m hm => h2 m (by simp [hm])) (by simp at hk; omega)
    rw [List.append_assoc, List.singleton_append] at ih'
    have e1 : (pre.map (up c)).map sn ++ [(⟨IntKind.u64.wrap ((sn n).f0 + IntKind.u64.wrap (c : Int)), (sn n).f1⟩ : S70)] = ((pre ++ [n]).map (up c)).map sn := by
      rw [List.map_append, List.map_append]
      congr 1
      show [(⟨IntKind.u64.wrap ((n.1 : Int) + IntKind.u64.wrap (c : Int)), (n.2 : Int)⟩ : S70)] = [⟨((n.1 + c : Nat) : Int), (n.2 : Int)⟩]
      rw [u64_small c (by omega), add64 _ _ (by omega)]
    rw [laws_raised.l0, if_pos hlt, if_pos (Int.natCast_nonneg _), if_pos hlt, hrd, if_pos (by simp; omega), e1, ew]
    exact ih'
theorem raised_eq (c : Nat) (hc : c ≤ 63) (l : List Nd) (hl : l.length ≤ 400) (hn : ∀ n ∈ l, n.1 < 64) (k : Nat) (hk : 500 < k) : laws_raised.f k (l.map sn) (c : Int) = some ((l.map (up c)).map sn) :=
  raised_run c hc l [] k (by simp; omega) hn (by omega)
theorem same_run (t : List Nd) (suf : List Nd) : ∀ (pre : List Nd) (k : Nat), t = pre ++ suf → t.length ≤ 1000 → suf.length < k → spec_SameNodes.l0 k (t.map sn) (t.map sn) ((t.map sn).length : Int) (pre.length : Int) = some true := by
  induction suf with
  | nil =>
    intro pre k h _ hk
    obtain ⟨k, rfl⟩ : ∃ m, k = m + 1 := ⟨k - 1, by omega⟩
    subst h
    simp only [spec_SameNodes.l0]
    rw [if_neg (by simp)]
  | cons n suf ih =>
    intro pre k h hl hk
    obtain ⟨k, rfl⟩ : ∃ m, k = m + 1 := ⟨k - 1, by omega⟩
    have hpl : pre.length < t.length := by rw [h]; simp
    have hlt : (pre.length : Int) < ((t.map sn).length : Int) := by simp; omega
    have ew : wrap64 ((pre.length : Int) + 1) = ((pre ++ [n]).length : Int) := by simp; rw [wrap64_id] <;> omega
    have ih' := ih (pre ++ [n]) k (by simp [h]) hl (by simp at hk; omega)
    simp only [spec_SameNodes.l0]
    rw [if_pos hlt, if_pos (by omega), if_pos hlt, if_pos hlt, if_neg (by simp), ew, ih']
theorem same_proof (t : List Nd) (h : t.length ≤ 1000) (k : Nat) (hk : 1000 < k) (a b c d : Int) : spec_SameProof.f k (t.map sn) a b c d (t.map sn) a b c d = some true := by
  have hs : spec_SameNodes.f k (t.map sn) (t.map sn) = some true := by
    unfold spec_SameNodes.f
    rw [if_pos rfl]
    exact same_run t t [] k rfl h (by omega)
  unfold spec_SameProof.f
  refine (bind_of hs).trans ?_
  rw [if_pos rfl, if_pos (by simp), if_pos rfl]
  simp
theorem scalable_eq (b c : Nat) (hb : b < 18446744073709551616) (x : Bool) (hc : c ≤ 63) (h : laws_scalable.f (b : Int) (c : Int) = some x) : x = true → b * 2 ^ c < 18446744073709551616 := by
  intro hx
  subst hx
  unfold laws_scalable.f at h
  rw [if_pos (by omega), if_pos (by omega), if_pos (by omega), shl_nat b c (by omega), shr_nat _ c (by omega)] at h
  have h1 := Option.some.inj h
  rw [beq_iff_eq] at h1
  have h2 : b * 2 ^ c % 18446744073709551616 / 2 ^ c = b := by omega
  have h3 := Nat.div_mul_le_self (b * 2 ^ c % 18446744073709551616) (2 ^ c)
  rw [h2] at h3
  have h4 := Nat.mod_lt (b * 2 ^ c) (show 0 < 18446744073709551616 by decide)
  omega
theorem FnConsistencyScaled (a0_0 : Int) (a0_1 : Int) (a0_2 : Int) (a0_3 : Int) (a0_4 : Int) (a0_5 : Int) (w0 : ((Lit.int .i64 a0_0).wf = true) ∧ ((Lit.int .i64 a0_1).wf = true) ∧ ((Lit.int .i64 a0_2).wf = true) ∧ ((Lit.int .u64 a0_3).wf = true) ∧ ((Lit.int .u64 a0_4).wf = true) ∧ ((Lit.int .u64 a0_5).wf = true)) (a1 : Int) (w1 : (Lit.int .u64 a1).wf = true) (a2 : Int) (w2 : (Lit.int .u64 a2).wf = true) (a3 : Int) (w3 : (Lit.int .i64 a3).wf = true) (l4 : List (List Int)) (w4 : l4.length ≤ maxLen ∧ ∀ y ∈ l4, y.length ≤ maxLen ∧ ∀ y' ∈ y, (Lit.int .u8 y').wf = true) (l5 : List Int) (w5 : l5.length ≤ maxLen ∧ ∀ y ∈ l5, (Lit.int .u8 y).wf = true) (l6 : List Int) (w6 : l6.length ≤ maxLen ∧ ∀ y ∈ l6, (Lit.int .u8 y).wf = true) : ∃ k, Z.laws_FnConsistencyScaled.f k a0_0 a0_1 a0_2 a0_3 a0_4 a0_5 a1 a2 a3 l4 l5 l6 = some true := by
  obtain ⟨a, rfl, ha64⟩ := wf_u64 a1 w1
  obtain ⟨b, rfl, hb64⟩ := wf_u64 a2 w2
  generalize hK : 30002000 + l4.length = K
  have out : ∀ k, laws_FnConsistencyScaled.j0 (k + 1) (a : Int) (b : Int) a3 l4 l5 l6 true a0_0 a0_1 a0_2 a0_3 a0_4 a0_5 = some true := fun k => by rw [laws_FnConsistencyScaled.j0, if_pos rfl]
  have out2 : ∀ k, laws_FnConsistencyScaled.j2 (k + 1) (a : Int) (b : Int) a3 l4 l5 l6 true a0_0 a0_1 a0_2 a0_3 a0_4 a0_5 = some true := fun k => by rw [laws_FnConsistencyScaled.j2, if_pos rfl]
  refine ⟨K + 5, ?_⟩
  unfold laws_FnConsistencyScaled.f
  obtain ⟨z, e, p⟩ := fits_eq l4 (K + 5) (by omega)
  refine (bind_of e).trans ?_
  cases z with
  | false => exact (if_neg Bool.false_ne_true).trans (out (K + 4))
  | true =>
  refine (if_pos rfl).trans ?_
  by_cases h5 : (l5.length : Int) > 2147483647
  · rw [if_pos h5]
    exact out (K + 4)
  rw [if_neg h5]
  by_cases h6 : (l6.length : Int) > 2147483647
  · rw [decide_eq_true h6]
    exact out (K + 4)
  rw [decide_eq_false h6]
  rw [laws_FnConsistencyScaled.j0, if_neg Bool.false_ne_true, laws_FnConsistencyScaled.j1]
  by_cases h7 : (a : Int) = 0
  · rw [if_pos h7]
    exact out2 (K + 2)
  rw [if_neg h7]
  by_cases h8 : (a : Int) ≥ (b : Int)
  · rw [if_pos h8]
    exact out2 (K + 2)
  rw [if_neg h8]
  have hsc : ∃ x, laws_scalable.f (b : Int) a3 = some x ∧ (x = true → ∃ c : Nat, a3 = (c : Int) ∧ c ≤ 63 ∧ b * 2 ^ c < 18446744073709551616) := by
    by_cases hc0 : a3 ≥ 0
    · obtain ⟨c, rfl⟩ := Int.eq_ofNat_of_zero_le hc0
      by_cases hc : c ≤ 63
      · have hh : ∃ x, laws_scalable.f (b : Int) (c : Int) = some x := by
          unfold laws_scalable.f
          rw [if_pos (by omega), if_pos (by omega), if_pos (by omega)]
          exact ⟨_, rfl⟩
        obtain ⟨x, hx⟩ := hh
        exact ⟨x, hx, fun ht => ⟨c, rfl, hc, scalable_eq b c hb64 x hc hx ht⟩⟩
      · refine ⟨false, ?_, fun h => by simp at h⟩
        unfold laws_scalable.f
        rw [if_pos (by omega), if_neg (by omega)]
    · refine ⟨false, ?_, fun h => by simp at h⟩
      unfold laws_scalable.f
      rw [if_neg hc0]
  obtain ⟨x, hx, hxt⟩ := hsc
  refine (bind_of hx).trans ?_
  cases x with
  | false => exact (if_neg Bool.false_ne_true).trans (out2 (K + 2))
  | true =>
  refine (if_pos rfl).trans ?_
  obtain ⟨c, rfl, hc, hbc⟩ := hxt rfl
  obtain ⟨z, e, p2⟩ := small_eq l4 (K + 3) (by have := (p rfl).1; omega) (by omega)
  refine (bind_of e).trans ?_
  cases z with
  | false => exact (if_neg Bool.false_ne_true).trans (out2 (K + 2))
  | true =>
  refine (if_pos rfl).trans ?_
  obtain ⟨px, pl⟩ := p2 rfl
  by_cases h9 : (l5.length : Int) > 5000
  · rw [decide_eq_true h9]
    exact out2 (K + 2)
  rw [decide_eq_false h9]
  rw [laws_FnConsistencyScaled.j2, if_neg Bool.false_ne_true, laws_FnConsistencyScaled.j3]
  obtain ⟨s, u, hau, hs, hctz⟩ := ctz_odd a (by omega) ha64
  have hp := two_pow_pos c
  have hab : a < b := by omega
  have hac : a * 2 ^ c = 2 ^ (s + c) * (2 * u + 1) := by rw [hau, Nat.pow_add, Nat.mul_right_comm]
  have habc : a * 2 ^ c < b * 2 ^ c := Nat.mul_lt_mul_of_pos_right hab hp
  have hsc64 : s + c < 64 := by
    refine pow_lt_iff.1 (Nat.lt_of_le_of_lt ?_ (show b * 2 ^ c < 2 ^ 64 by rw [pow64]; exact hbc))
    refine Nat.le_trans ?_ (Nat.le_of_lt habc)
    rw [hac]
    exact Nat.le_mul_of_pos_right _ (by omega)
  have hctz2 : Lib.ctz 64 (2 ^ (s + c) * (2 * u + 1)) = s + c := ctz_of u (s + c) hsc64 (by rw [← hac]; omega)
  obtain ⟨d, t1, t2, hlev, hlen, hsd, hcs⟩ := cons_scaled a b s u c hau hctz hab hbc
  obtain ⟨g1, g2⟩ := hcs (K + 1) (by omega)
  have sa : shl .u64 (a : Int) (c : Int) = ((a * 2 ^ c : Nat) : Int) := by rw [shl_nat a c (by omega), Nat.mod_eq_of_lt (by omega)]
  have sb : shl .u64 (b : Int) (c : Int) = ((b * 2 ^ c : Nat) : Int) := by rw [shl_nat b c (by omega), Nat.mod_eq_of_lt hbc]
  have v1 := impl_verify_all ⟨a0_0, a0_1, a0_2, a0_3, a0_4, a0_5⟩ s u b (K + 1) l4 l5 l6 (by rw [← hau]; exact hab) hb64 hs (by rw [← hau]; exact hctz) pl px (by omega) (by omega) (by omega)
  have v2 := impl_verify_all ⟨a0_0, a0_1, a0_2, a0_3, a0_4, a0_5⟩ (s + c) u (b * 2 ^ c) (K + 1) l4 l5 l6 (by rw [← hac]; exact habc) hbc hsc64 hctz2 pl px (by omega) (by omega) (by omega)
  obtain ⟨g, y, hgy, _⟩ := impl_verify ⟨a0_0, a0_1, a0_2, a0_3, a0_4, a0_5⟩ s u b (K + 1) l4 l5 l6 (by rw [← hau]; exact hab) hb64 hs (by rw [← hau]; exact hctz) pl px (by omega) (by omega) (by omega)
  obtain ⟨i1, i2⟩ := inn_scaled c a b (by omega) hab hbc
  have e1 : cn (s + c) u (b * 2 ^ c) = cn s u b := by
    unfold cn
    rw [← hac, ← hau, i1]
    omega
  have e2 : cb (s + c) u (b * 2 ^ c) = cb s u b := by
    unfold cb
    rw [← hac, ← hau, i2]
  rw [e1, e2, ← v1, hgy, ← hac] at v2
  rw [← hau] at hgy
  refine (bind_of g1).trans ?_
  refine (if_pos (Int.natCast_nonneg _)).trans ?_
  rw [sa, sb]
  refine (bind_of g2).trans ?_
  refine (bind_of (raised_eq c hc _ hlen hlev _ (by omega))).trans ?_
  refine (bind_of hgy).trans ?_
  refine (bind_of v2).trans ?_
  have elev : IntKind.u64.wrap (((s + d : Nat) : Int) + IntKind.u64.wrap (c : Int)) = ((s + d + c : Nat) : Int) := by rw [u64_small c (by omega), add64 _ _ (by omega)]
  obtain ⟨K, rfl⟩ : ∃ z, K = z + 1 := ⟨K - 1, by omega⟩
  show laws_FnConsistencyScaled.j4 (K + 1 + 1) true true g y g y (((cl s u d t1 t2).map (up c)).map sn) (IntKind.u64.wrap (((s + d : Nat) : Int) + IntKind.u64.wrap (c : Int))) ((2 * u / 2 ^ d ^^^ 1 : Nat) : Int) (clb u d t1) (clb u d t1 + (t1.length : Int)) (((cl s u d t1 t2).map (up c)).map sn) ((s + d + c : Nat) : Int) ((2 * u / 2 ^ d ^^^ 1 : Nat) : Int) (clb u d t1) (clb u d t1 + (t1.length : Int)) = some true
  rw [elev, laws_FnConsistencyScaled.j4, if_pos rfl, if_pos rfl]
  refine (bind_of (same_proof _ (by rw [List.length_map]; omega) _ (by omega) _ _ _ _)).trans ?_
  rw [if_pos rfl, if_pos rfl]
  exact (bind_of (same_refl y)).trans rfl
end Go.Proofs.YtijldedhcjkhiaaDoor.Pure
