import Derived.Test.YtijldedhcjkhiaaDoorSSMSTil
import Derived.Test.YtijldedhcjkhiaaDoorSSMSPop
namespace Go.Proofs.YtijldedhcjkhiaaDoorM
set_option linter.unusedVariables false
theorem SF.snoc {n : Nd} : ∀ {s : List Nd}, SF s → (∀ p, s.getLast? = some p → Fit p n) → SF (s ++ [n])
  | [], _, _ => ⟨fun m hm => by simp at hm, trivial⟩
  | [a], _, hf => ⟨fun m hm => by simp at hm; subst hm; exact hf a rfl, fun m hm => by simp at hm, trivial⟩
  | a :: a2 :: s, h, hf => ⟨fun m hm => h.1 m (by simpa using hm), SF.snoc (s := a2 :: s) h.2 (fun p hp => hf p (by simpa using hp))⟩
theorem SF.one (n : Nd) : SF [n] := ⟨fun m hm => by simp at hm, trivial⟩
theorem SF.take {s : List Nd} (h : SF s) (i : Nat) : SF (s.take i) := by
  rw [← List.take_append_drop i s] at h
  exact h.left
theorem SF.drop {s : List Nd} (h : SF s) (i : Nat) : SF (s.drop i) := by
  rw [← List.take_append_drop i s] at h
  exact h.right
theorem left_sib {b h x : Nat} {s : List Nd} (ht : Til (x * 2 ^ h) b s) (hs : SF s) (ho : x % 2 = 1) (hb : b ≤ (x - 1) * 2 ^ h) : ∃ s', s = s' ++ [(h, x - 1)] := by
  obtain ⟨y, rfl⟩ : ∃ y, x = y + 1 := ⟨x - 1, by omega⟩
  have hp := two_pow_pos h
  have e1 : (y + 1) * 2 ^ h = y * 2 ^ h + 2 ^ h := by rw [Nat.add_mul, Nat.one_mul]
  rw [Nat.add_sub_cancel] at hb ⊢
  rcases List.eq_nil_or_concat s with rfl | ⟨s', p, rfl⟩
  · have : b = (y + 1) * 2 ^ h := ht
    omega
  · rw [List.concat_eq_append] at ht hs ⊢
    obtain ⟨h1, h2⟩ := til_snoc ht
    have hle := odd_le h2 ho
    rcases Nat.lt_or_ge p.1 h with hlt | hge
    · exfalso
      have hev := even_of_lt h2 hlt
      have h3 := pow_mono (show p.1 + 1 ≤ h by omega)
      rw [pow_add_two] at h3
      exact last_greedy p.1 (Nat.le_refl _) ht hs (by omega) (by omega)
    · have hh : p.1 = h := by omega
      rw [hh] at h2
      have h4 := Nat.eq_of_mul_eq_mul_right hp h2
      refine ⟨s', ?_⟩
      rw [show p = (h, y) from Prod.ext hh (by show p.2 = y; omega)]
theorem right_sib {e h x : Nat} {t : List Nd} (ht : Til e ((x + 1) * 2 ^ h) t) (hs : SF t) (he : x % 2 = 0) (hb : (x + 2) * 2 ^ h ≤ e) : ∃ t', t = (h, x + 1) :: t' := by
  have hp := two_pow_pos h
  have e1 : (x + 2) * 2 ^ h = (x + 1) * 2 ^ h + 2 ^ h := by rw [show x + 2 = x + 1 + 1 by omega, Nat.add_mul (x + 1), Nat.one_mul]
  cases t with
  | nil =>
    have : (x + 1) * 2 ^ h = e := ht
    omega
  | cons q t =>
    have h2 : q.2 * 2 ^ q.1 = (x + 1) * 2 ^ h := ht.1
    have hle := odd_le h2 (by omega)
    rcases Nat.lt_or_ge q.1 h with hlt | hge
    · exfalso
      have hev := even_of_lt h2 hlt
      have h3 := pow_mono (show q.1 + 1 ≤ h by omega)
      rw [pow_add_two] at h3
      exact greedy ht hs hev (by omega)
    · have hh : q.1 = h := by omega
      rw [hh] at h2
      have h4 := Nat.eq_of_mul_eq_mul_right hp h2
      exact ⟨t, by rw [show q = (h, x + 1) from Prod.ext hh h4]⟩
theorem step_odd {b m e h : Nat} {s : List Nd} (hI : Ins b m e (h + 1)) (ho : m / 2 ^ h % 2 = 1) (ht : Til (m / 2 ^ h * 2 ^ h) b s) (hs : SF s) :
    ∃ s', s = s' ++ [(h, m / 2 ^ h - 1)] ∧ Til (m / 2 ^ (h + 1) * 2 ^ (h + 1)) b s' ∧ (m / 2 ^ h + 1) * 2 ^ h = (m / 2 ^ (h + 1) + 1) * 2 ^ (h + 1) ∧ m / 2 ^ h - 1 = 2 * (m / 2 ^ (h + 1)) ∧ m / 2 ^ h = 2 * (m / 2 ^ (h + 1)) + 1 := by
  unfold Ins at hI
  rw [half, pow_add_two] at hI ⊢
  generalize m / 2 ^ h = x at *
  have e1 : x / 2 * (2 * 2 ^ h) = (x - 1) * 2 ^ h := by rw [← Nat.mul_assoc]; congr 1; omega
  have e2 : (x / 2 + 1) * (2 * 2 ^ h) = (x + 1) * 2 ^ h := by rw [← Nat.mul_assoc]; congr 1; omega
  rw [e1, e2] at hI ⊢
  obtain ⟨s', rfl⟩ := left_sib ht hs ho hI.1
  obtain ⟨h1, _⟩ := til_snoc ht
  exact ⟨s', rfl, h1, rfl, by omega, by omega⟩
theorem step_even {b m e h : Nat} {t : List Nd} (hI : Ins b m e (h + 1)) (ho : m / 2 ^ h % 2 = 0) (ht : Til e ((m / 2 ^ h + 1) * 2 ^ h) t) (hs : SF t) :
    ∃ t', t = (h, m / 2 ^ h + 1) :: t' ∧ Til e ((m / 2 ^ (h + 1) + 1) * 2 ^ (h + 1)) t' ∧ m / 2 ^ h * 2 ^ h = m / 2 ^ (h + 1) * 2 ^ (h + 1) ∧ m / 2 ^ h = 2 * (m / 2 ^ (h + 1)) := by
  unfold Ins at hI
  rw [half, pow_add_two] at hI ⊢
  generalize m / 2 ^ h = x at *
  have e1 : x / 2 * (2 * 2 ^ h) = x * 2 ^ h := by rw [← Nat.mul_assoc]; congr 1; omega
  have e2 : (x / 2 + 1) * (2 * 2 ^ h) = (x + 2) * 2 ^ h := by rw [← Nat.mul_assoc]; congr 1; omega
  rw [e1, e2] at hI ⊢
  obtain ⟨t', rfl⟩ := right_sib ht hs ho hI.2
  refine ⟨t', rfl, ?_, rfl, by omega⟩
  have h2 := ht.2
  rw [show (x + 1) * 2 ^ h + 2 ^ h = (x + 2) * 2 ^ h by rw [show x + 2 = x + 1 + 1 by omega, Nat.add_mul (x + 1), Nat.one_mul]] at h2
  exact h2
theorem step_end {b m e h : Nat} {s t : List Nd} (hI : ¬ Ins b m e (h + 1)) (ht : Til (m / 2 ^ h * 2 ^ h) b s) (hs : SF s) (ht2 : Til e ((m / 2 ^ h + 1) * 2 ^ h) t) (hs2 : SF t) :
    Til e b (s ++ (h, m / 2 ^ h) :: t) ∧ SF (s ++ (h, m / 2 ^ h) :: t) := by
  have hlb := ht.le
  have hle := ht2.le
  have e3 : m / 2 ^ h * 2 ^ h + 2 ^ h = (m / 2 ^ h + 1) * 2 ^ h := by rw [Nat.add_mul, Nat.one_mul]
  refine ⟨ht.append ⟨rfl, by rw [e3]; exact ht2⟩, SF.join (SF.snoc hs ?_) hs2 ?_⟩
  · intro p hp hf
    obtain ⟨s', rfl⟩ : ∃ s', s = s' ++ [p] := by
      rcases List.eq_nil_or_concat s with rfl | ⟨s', q, rfl⟩
      · simp at hp
      · rw [List.concat_eq_append] at hp ⊢
        simp at hp
        exact ⟨s', by rw [hp]⟩
    obtain ⟨h1, h2⟩ := til_snoc ht
    obtain ⟨hl, hev⟩ := hf
    simp only at hl
    rw [hl] at h1 h2
    have h4 := Nat.eq_of_mul_eq_mul_right (two_pow_pos h) h2
    have h5 := h1.le
    refine hI ?_
    unfold Ins
    rw [half, pow_add_two]
    generalize m / 2 ^ h = x at *
    have e1 : x / 2 * (2 * 2 ^ h) = (x - 1) * 2 ^ h := by rw [← Nat.mul_assoc]; congr 1; omega
    have e2 : (x / 2 + 1) * (2 * 2 ^ h) = (x + 1) * 2 ^ h := by rw [← Nat.mul_assoc]; congr 1; omega
    rw [e1, e2]
    exact ⟨by rw [show x - 1 = p.2 by omega]; exact h5, hle⟩
  · intro q hq hf
    cases t with
    | nil => simp at hq
    | cons q' t =>
      simp at hq
      subst hq
      obtain ⟨hl, hev⟩ := hf
      simp only at hl hev
      have h1 : q'.2 * 2 ^ q'.1 = (m / 2 ^ h + 1) * 2 ^ h := ht2.1
      have h3 := ht2.2.le
      rw [← hl] at h1 h3
      have h4 := Nat.eq_of_mul_eq_mul_right (two_pow_pos h) h1
      refine hI ?_
      unfold Ins
      rw [half, pow_add_two]
      generalize m / 2 ^ h = x at *
      have e1 : x / 2 * (2 * 2 ^ h) = x * 2 ^ h := by rw [← Nat.mul_assoc]; congr 1; omega
      have e2 : (x / 2 + 1) * (2 * 2 ^ h) = (x + 2) * 2 ^ h := by rw [← Nat.mul_assoc]; congr 1; omega
      rw [e1, e2]
      refine ⟨hlb, ?_⟩
      rw [show (x + 2) * 2 ^ h = (x + 1) * 2 ^ h + 2 ^ h by rw [show x + 2 = x + 1 + 1 by omega, Nat.add_mul (x + 1), Nat.one_mul]]
      exact h3
theorem merged {b m e : Nat} : ∀ (d h : Nat) (s t : List Nd), Til (m / 2 ^ h * 2 ^ h) b s → SF s → Til e ((m / 2 ^ h + 1) * 2 ^ h) t → SF t → (0 < d → Ins b m e (h + d)) → ¬ Ins b m e (h + d + 1) →
    pop d (m / 2 ^ h) ≤ s.length ∧ d - pop d (m / 2 ^ h) ≤ t.length ∧ Til e b (s.take (s.length - pop d (m / 2 ^ h)) ++ (h + d, m / 2 ^ (h + d)) :: t.drop (d - pop d (m / 2 ^ h))) ∧ SF (s.take (s.length - pop d (m / 2 ^ h)) ++ (h + d, m / 2 ^ (h + d)) :: t.drop (d - pop d (m / 2 ^ h)))
  | 0, h, s, t, h1, h2, h3, h4, _, h6 => by
    have := step_end h6 h1 h2 h3 h4
    simp only [pop, Nat.sub_zero, Nat.zero_le, true_and, List.take_length, List.drop_zero, Nat.add_zero]
    exact this
  | d + 1, h, s, t, h1, h2, h3, h4, h5, h6 => by
    have hI : Ins b m e (h + 1) := Ins.downs (h + 1) d (by rw [show h + 1 + d = h + (d + 1) by omega]; exact h5 (by omega))
    have hx : m / 2 ^ h / 2 = m / 2 ^ (h + 1) := (half m h).symm
    have hple := pop_le d (m / 2 ^ (h + 1))
    have IH := @merged b m e d (h + 1)
    rw [show h + 1 + d = h + (d + 1) by omega] at IH
    rcases Nat.mod_two_eq_zero_or_one (m / 2 ^ h) with ho | ho
    · obtain ⟨t', rfl, g1, g2, g3⟩ := step_even hI ho h3 h4
      have g := IH s t' (by rw [← g2]; exact h1) h2 g1 (SF.right (s := [_]) h4) (fun _ => h5 (by omega)) h6
      simp only [pop, ho, hx, Nat.zero_add]
      obtain ⟨a1, a2, a3⟩ := g
      refine ⟨a1, by simp only [List.length_cons]; omega, ?_⟩
      rw [show d + 1 - pop d (m / 2 ^ (h + 1)) = d - pop d (m / 2 ^ (h + 1)) + 1 by omega, List.drop_succ_cons]
      exact a3
    · obtain ⟨s', rfl, g1, g2, g3⟩ := step_odd hI ho h1 h2
      have g := IH s' t g1 h2.left (by rw [← g2]; exact h3) h4 (fun _ => h5 (by omega)) h6
      simp only [pop, ho, hx]
      obtain ⟨a1, a2, a3⟩ := g
      refine ⟨by simp only [List.length_append, List.length_singleton]; omega, by omega, ?_⟩
      rw [List.length_append, List.length_singleton, show s'.length + 1 - (1 + pop d (m / 2 ^ (h + 1))) = s'.length - pop d (m / 2 ^ (h + 1)) by omega, List.take_append_of_le_length (by omega), show d + 1 - (1 + pop d (m / 2 ^ (h + 1))) = d - pop d (m / 2 ^ (h + 1)) by omega]
      exact a3
end Go.Proofs.YtijldedhcjkhiaaDoorM
