import Derived.Test.YtpeikjnkbjabpaaDoorSVMVFieldE
namespace Go.Proofs.YtpeikjnkbjabpaaDoor.V
open Go.RowKit
set_option linter.unusedVariables false
def rwv (M : Nat → Nat → E) (r : Nat) (v : Nat → E) : Nat → Nat → E := fun i j => if i = r then v j else M i j
def mnr (j : Nat) (M : Nat → Nat → E) : Nat → Nat → E := fun i k => M (i + 1) (sk j k)
def det : Nat → (Nat → Nat → E) → E
  | 0, _ => 1
  | n + 1, M => sm (n + 1) (fun j => M 0 j * det n (mnr j M))
theorem det_succ (n : Nat) (M : Nat → Nat → E) : det (n + 1) M = sm (n + 1) (fun j => M 0 j * det n (mnr j M)) := rfl
theorem sk_lt {j k n : Nat} (h : k < n) : sk j k < n + 1 := by unfold sk; split <;> omega
theorem det_congr : ∀ (n : Nat) (M M' : Nat → Nat → E), (∀ i, i < n → ∀ j, j < n → M i j = M' i j) → det n M = det n M' := by
  intro n
  induction n with
  | zero => intro M M' _; rfl
  | succ n ih =>
    intro M M' h
    rw [det_succ, det_succ]
    refine sm_congr fun j hj => ?_
    rw [h 0 (by omega) j hj, ih (mnr j M) (mnr j M') fun i hi k hk => h (i + 1) (by omega) _ (sk_lt hk)]
theorem mnr_rw (j : Nat) (M : Nat → Nat → E) (r : Nat) (v : Nat → E) : mnr j (rwv M (r + 1) v) = rwv (mnr j M) r (fun k => v (sk j k)) := by
  funext i k
  unfold mnr rwv
  by_cases e : i = r
  · rw [if_pos e, if_pos (by omega)]
  · rw [if_neg e, if_neg (by omega)]
theorem mnr_rw0 (j : Nat) (M : Nat → Nat → E) (v : Nat → E) : mnr j (rwv M 0 v) = mnr j M := by
  funext i k
  unfold mnr rwv
  rw [if_neg (by omega)]
theorem rw_at (M : Nat → Nat → E) (r : Nat) (v : Nat → E) (j : Nat) : rwv M r v r j = v j := by unfold rwv; rw [if_pos rfl]
theorem rw_off (M : Nat → Nat → E) (r i : Nat) (v : Nat → E) (j : Nat) (h : i ≠ r) : rwv M r v i j = M i j := by unfold rwv; rw [if_neg h]
theorem det_add : ∀ (n : Nat) (M : Nat → Nat → E) (r : Nat) (u v : Nat → E), r < n → det n (rwv M r (fun j => u j + v j)) = det n (rwv M r u) + det n (rwv M r v) := by
  intro n
  induction n with
  | zero => intro M r u v h; omega
  | succ n ih =>
    intro M r u v h
    rw [det_succ, det_succ, det_succ, ← sm_add]
    refine sm_congr fun j _ => ?_
    cases r with
    | zero => rw [mnr_rw0, mnr_rw0, mnr_rw0, rw_at, rw_at, rw_at, E.add_mul]
    | succ r => rw [mnr_rw, mnr_rw, mnr_rw, rw_off _ _ _ _ _ (by omega), rw_off _ _ _ _ _ (by omega), rw_off _ _ _ _ _ (by omega), ← E.mul_add, ih _ _ _ _ (by omega)]
theorem det_smul : ∀ (n : Nat) (M : Nat → Nat → E) (r : Nat) (c : E) (u : Nat → E), r < n → det n (rwv M r (fun j => c * u j)) = c * det n (rwv M r u) := by
  intro n
  induction n with
  | zero => intro M r c u h; omega
  | succ n ih =>
    intro M r c u h
    rw [det_succ, det_succ, sm_mul]
    refine sm_congr fun j _ => ?_
    cases r with
    | zero => rw [mnr_rw0, mnr_rw0, rw_at, rw_at, E.mul_assoc]
    | succ r =>
      rw [mnr_rw, mnr_rw, rw_off _ _ _ _ _ (by omega), rw_off _ _ _ _ _ (by omega), ih _ _ _ _ (by omega)]
      ac_rfl
def sk2 (j k l : Nat) : Nat := if l < j ∧ l < k then l else if l + 1 < j ∨ l + 1 < k then l + 1 else l + 2
theorem sk2_comm (j k l : Nat) : sk2 j k l = sk2 k j l := by
  unfold sk2
  (repeat' split) <;> omega
theorem sk_sk (j k l : Nat) : sk j (sk k l) = sk2 j (sk j k) l := by
  unfold sk2 sk
  (repeat' split) <;> omega
theorem alt01 (n : Nat) (M : Nat → Nat → E) (h : ∀ j, j < n + 2 → M 1 j = M 0 j) : det (n + 2) M = 0 := by
  let D : Nat → Nat → E := fun j k => det n (fun i l => M (i + 2) (sk2 j k l))
  let G : Nat → Nat → E := fun j k => if k = j then 0 else M 0 k * D j k
  have key : det (n + 2) M = sm (n + 2) (fun j => sm (n + 2) (fun k => M 0 j * G j k)) := by
    rw [det_succ]
    refine sm_congr fun j hj => ?_
    rw [← sm_mul]
    congr 1
    rw [det_succ, ← sm_skip (n + 1) j (G j) hj, show G j j = 0 from if_pos rfl, E.add_zero]
    refine sm_congr fun k hk => ?_
    have h1 : sk j k ≠ j := by unfold sk; split <;> omega
    show M 1 (sk j k) * det n (mnr k (mnr j M)) = if sk j k = j then 0 else M 0 (sk j k) * D j (sk j k)
    rw [if_neg h1, h _ (sk_lt hk)]
    congr 2
    funext i l
    show M (i + 2) (sk j (sk k l)) = _
    rw [sk_sk]
  rw [key]
  refine sm_pairs _ _ (fun j k => ?_) (fun j => ?_)
  · show M 0 j * (if k = j then 0 else M 0 k * D j k) = M 0 k * (if j = k then 0 else M 0 j * D k j)
    by_cases e : k = j
    · rw [if_pos e, if_pos e.symm, E.mul_zero, E.mul_zero]
    · rw [if_neg e, if_neg (Ne.symm e)]
      have : D j k = D k j := by
        show det n _ = det n _
        congr 1
        funext i l
        rw [sk2_comm]
      rw [this]
      ac_rfl
  · show M 0 j * (if j = j then 0 else _) = 0
    rw [if_pos rfl, E.mul_zero]
theorem alt_adj : ∀ (n : Nat) (M : Nat → Nat → E) (r : Nat), r + 1 < n → (∀ j, j < n → M (r + 1) j = M r j) → det n M = 0 := by
  intro n
  induction n with
  | zero => intro M r h _; omega
  | succ n ih =>
    intro M r h he
    cases r with
    | zero =>
      obtain ⟨m, rfl⟩ : ∃ m, n = m + 1 := ⟨n - 1, by omega⟩
      exact alt01 m M he
    | succ r =>
      rw [det_succ]
      refine sm_zero fun j hj => ?_
      rw [ih (mnr j M) r (by omega) fun k hk => he _ (sk_lt hk), E.mul_zero]
def swpE (M : Nat → Nat → E) (p q : Nat) : Nat → Nat → E := fun i j => if i = p then M q j else if i = q then M p j else M i j
theorem swap_of (n : Nat) (p q : Nat) (hp : p < n) (hq : q < n) (hne : p ≠ q) (alt : ∀ M : Nat → Nat → E, (∀ j, j < n → M q j = M p j) → det n M = 0) (M : Nat → Nat → E) : det n (swpE M p q) = det n M := by
  have two : ∀ u v : Nat → E, det n (rwv (rwv M p u) q v) = det n (rwv (rwv M q v) p u) := fun u v => by
    congr 1
    funext i j
    unfold rwv
    by_cases e1 : i = q
    · rw [if_pos e1, if_neg (by omega), if_pos e1]
    · rw [if_neg e1, if_neg e1]
  have same : ∀ u : Nat → E, det n (rwv (rwv M p u) q u) = 0 := fun u => alt _ fun j _ => by rw [rw_at, rw_off _ _ _ _ _ hne, rw_at]
  have h0 := same (fun j => M p j + M q j)
  rw [det_add n _ q _ _ hq, two, two, det_add n _ p _ _ hp, det_add n _ p _ _ hp, ← two, ← two, ← two, ← two, same, same, E.zero_add, E.add_zero] at h0
  have h1 := E.eq_of_add h0
  rw [show swpE M p q = rwv (rwv M p (fun j => M q j)) q (fun j => M p j) from ?_, h1]
  · congr 1
    funext i j
    unfold rwv
    by_cases e1 : i = q
    · rw [if_pos e1, e1]
    · rw [if_neg e1]
      by_cases e2 : i = p
      · rw [if_pos e2, e2]
      · rw [if_neg e2]
  · funext i j
    unfold rwv swpE
    by_cases e1 : i = q
    · rw [if_pos e1, if_neg (by omega), if_pos e1]
    · rw [if_neg e1, if_neg e1]
theorem alt_any (n : Nat) : ∀ (d p : Nat) (M : Nat → Nat → E), p + d + 1 < n → (∀ j, j < n → M (p + d + 1) j = M p j) → det n M = 0 := by
  intro d
  induction d with
  | zero => intro p M h he; exact alt_adj n M p h he
  | succ d ih =>
    intro p M h he
    rw [← swap_of n (p + d + 1) (p + d + 2) (by omega) h (by omega) (fun M' h' => alt_adj n M' _ h h') M]
    refine ih p _ (by omega) fun j hj => ?_
    unfold swpE
    rw [if_pos rfl, if_neg (by omega), if_neg (by omega)]
    exact he j hj
theorem alt_ne (n p q : Nat) (hp : p < n) (hq : q < n) (hne : p ≠ q) (M : Nat → Nat → E) (h : ∀ j, j < n → M q j = M p j) : det n M = 0 := by
  rcases Nat.lt_or_gt_of_ne hne with hl | hl
  · refine alt_any n (q - p - 1) p M (by omega) fun j hj => ?_
    rw [show p + (q - p - 1) + 1 = q by omega]; exact h j hj
  · refine alt_any n (p - q - 1) q M (by omega) fun j hj => ?_
    rw [show q + (p - q - 1) + 1 = p by omega]; exact (h j hj).symm
theorem det_swp (n p q : Nat) (hp : p < n) (hq : q < n) (M : Nat → Nat → E) : det n (swpE M p q) = det n M := by
  by_cases e : p = q
  · subst e
    congr 1
    funext i j
    unfold swpE
    by_cases e : i = p
    · rw [if_pos e, e]
    · rw [if_neg e, if_neg e]
  · exact swap_of n p q hp hq e (fun M' h' => alt_ne n p q hp hq e M' h') M
theorem det_row (n i r : Nat) (hi : i < n) (hr : r < n) (hne : i ≠ r) (s : E) (M : Nat → Nat → E) : det n (rwv M i (fun j => M i j + s * M r j)) = det n M := by
  rw [det_add n M i _ _ hi, det_smul n M i s _ hi, alt_ne n i r hi hr hne (rwv M i fun j => M r j) (fun j _ => by rw [rw_at, rw_off _ _ _ _ _ (Ne.symm hne)]), E.mul_zero, E.add_zero]
  congr 1
  funext a b
  unfold rwv
  by_cases e : a = i
  · rw [if_pos e, e]
  · rw [if_neg e]
theorem det_scl (n r : Nat) (hr : r < n) (s : E) (M : Nat → Nat → E) : det n (rwv M r (fun j => s * M r j)) = s * det n M := by
  rw [det_smul n M r s _ hr]
  congr 2
  funext a b
  unfold rwv
  by_cases e : a = r
  · rw [if_pos e, e]
  · rw [if_neg e]
theorem det_col0 : ∀ (n z : Nat) (M : Nat → Nat → E), z < n → (∀ i, i < n → M i z = 0) → det n M = 0 := by
  intro n
  induction n with
  | zero => intro z M h _; omega
  | succ n ih =>
    intro z M hz h0
    rw [det_succ]
    refine sm_zero fun j hj => ?_
    by_cases e : j = z
    · subst e; rw [h0 0 (by omega), E.zero_mul]
    · have hs : sk j (if z < j then z else z - 1) = z := by
        unfold sk
        by_cases h : z < j
        · rw [if_pos h, if_pos h]
        · rw [if_neg h, if_neg (by omega)]; omega
      rw [ih (if z < j then z else z - 1) (mnr j M) (by split <;> omega) fun i hi => by
        show M (i + 1) (sk j _) = 0
        rw [hs]; exact h0 (i + 1) (by omega), E.mul_zero]
def Tri (n : Nat) (M : Nat → Nat → E) (r : Nat) : Prop := ∀ k, k < r → M k k = 1 ∧ ∀ i, k < i → i < n → M i k = 0
theorem det_first (n : Nat) (M : Nat → Nat → E) (h1 : M 0 0 = 1) (h0 : ∀ i, 0 < i → i < n + 1 → M i 0 = 0) : det (n + 1) M = det n (mnr 0 M) := by
  rw [det_succ, sm_single (p := 0) (by omega) fun j hj hne => ?_, h1, E.one_mul]
  cases n with
  | zero => omega
  | succ n =>
    rw [det_col0 (n + 1) 0 (mnr j M) (by omega) fun i hi => by
      show M (i + 1) (sk j 0) = 0
      rw [show sk j 0 = 0 by unfold sk; rw [if_pos (by omega)]]
      exact h0 (i + 1) (by omega) (by omega), E.mul_zero]
theorem tri_next {n r : Nat} {M : Nat → Nat → E} (h : Tri (n + 1) M (r + 1)) : Tri n (mnr 0 M) r := by
  intro k hk
  obtain ⟨h1, h2⟩ := h (k + 1) (by omega)
  exact ⟨h1, fun i hi hn => h2 (i + 1) (by omega) (by omega)⟩
theorem det_tri : ∀ (n : Nat) (M : Nat → Nat → E), Tri n M n → det n M = 1 := by
  intro n
  induction n with
  | zero => intro M _; rfl
  | succ n ih =>
    intro M h
    obtain ⟨h1, h0⟩ := h 0 (by omega)
    rw [det_first n M h1 h0, ih _ (tri_next h)]
theorem det_stuck : ∀ (r n : Nat) (M : Nat → Nat → E), r < n → Tri n M r → (∀ i, r ≤ i → i < n → M i r = 0) → det n M = 0 := by
  intro r
  induction r with
  | zero => intro n M h _ h0; exact det_col0 n 0 M h fun i hi => h0 i (Nat.zero_le _) hi
  | succ r ih =>
    intro n M h ht h0
    obtain ⟨m, rfl⟩ : ∃ m, n = m + 1 := ⟨n - 1, by omega⟩
    obtain ⟨h1, h2⟩ := ht 0 (by omega)
    rw [det_first m M h1 h2]
    exact ih m _ (by omega) (tri_next ht) fun i hi hn => h0 (i + 1) (by omega) (by omega)
end Go.Proofs.YtpeikjnkbjabpaaDoor.V
