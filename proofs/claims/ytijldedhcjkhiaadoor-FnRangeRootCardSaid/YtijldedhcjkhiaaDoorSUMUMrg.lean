import Derived.Test.YtijldedhcjkhiaaDoorSUMUTil
import Derived.Test.YtijldedhcjkhiaaDoorSUMUPop
namespace Go.Proofs.YtijldedhcjkhiaaDoorM
set_option linter.unusedVariables false
theorem SF.snoc {n : Nd} : ∀ {s : List Nd}, SF s → (∀ p, s.getLast? = some p → Fit p n) → SF (s ++ [n])
  | [], _, _ => ⟨fun m hm => by simp at hm, trivial⟩
  | [a], _, hf => ⟨fun m hm => by simp at hm; subst hm; exact hf a rfl, fun m hm => by simp at hm, trivial⟩
  | a :: a2 :: s, h, hf => ⟨fun m hm => h.1 m (by simpa using hm), SF.snoc (s := a2 :: s) h.2 (fun p hp => hf p (by simpa using hp))⟩
theorem SF.one (n : Nd) : SF [n] := ⟨fun m hm => by simp at hm, trivial⟩
theorem SF.take {s : List Nd} (h : SF s) (i : Nat) : SF (s.take i) := by
  rw [← List.take_append_drop i s] at h
  exact h.left
theorem SF.drop {s : List Nd} (h : SF s) (i : Nat) : SF (s.drop i) := by
  rw [← List.take_append_drop i s] at h
  exact h.right
theorem left_sib {b h x : Nat} {s : List Nd} (ht : Til (x * 2 ^ h) b s) (hs : SF s) (ho : x % 2 = 1) (hb : b ≤ (x - 1) * 2 ^ h) : ∃ s', s = s' ++ [(h, x - 1)] := by
  obtain ⟨y, rfl⟩ : ∃ y, x = y + 1 := ⟨x - 1, by omega⟩
  have hp := two_pow_pos h
  have e1 : (y + 1) * 2 ^ h = y * 2 ^ h + 2 ^ h := by rw [Nat.add_mul, Nat.one_mul]
  rw [Nat.add_sub_cancel] at hb ⊢
  rcases List.eq_nil_or_concat s with rfl | ⟨s', p, rfl⟩
  · have : b = (y + 1) * 2 ^ h := ht
    omega
  · rw [List.concat_eq_append] at ht hs ⊢
    obtain ⟨h1, h2⟩ := til_snoc ht
    have hle := odd_le h2 ho
    rcases Nat.lt_or_ge p.1 h with hlt | hge
    · exfalso
      have hev := even_of_lt h2 hlt
      have h3 := pow_mono (show p.1 + 1 ≤ h by omega)
      rw [pow_add_two] at h3
      exact last_greedy p.1 (Nat.le_refl _) ht hs (by omega) (by omega)
    · have hh : p.1 = h := by omega
      rw [hh] at h2
      have h4 := Nat.eq_of_mul_eq_mul_right hp h2
      refine ⟨s', ?_⟩
      rw [show p = (h, y) from Prod.ext hh (by show p.2 = y; omega)]
theorem right_sib {e h x : Nat} {t : List Nd} (ht : Til e ((x + 1) * 2 ^ h) t) (hs : SF t) (he : x % 2 = 0) (hb : (x + 2) * 2 ^ h ≤ e) : ∃ t', t = (h, x + 1) :: t' := by
  have hp := two_pow_pos h
  have e1 : (x + 2) * 2 ^ h = (x + 1) * 2 ^ h + 2 ^ h := by rw [show x + 2 = x + 1 + 1 by omega, Nat.add_mul (x + 1), Nat.one_mul]
  cases t with
  | nil =>
    have : (x + 1) * 2 ^ h = e := ht
    omega
  | cons q t =>
    have h2 : q.2 * 2 ^ q.1 = (x + 1) * 2 ^ h := ht.1
    have hle := odd_le h2 (by omega)
    rcases Nat.lt_or_ge q.1 h with hlt | hge
    · exfalso
      have hev := even_of_lt h2 hlt
      have h3 := pow_mono (show q.1 + 1 ≤ h by omega)
      rw [pow_add_two] at h3
      exact greedy ht hs hev (by omega)
    · have hh : q.1 = h := by omega
      rw [hh] at h2
      have h4 := Nat.eq_of_mul_eq_mul_right hp h2
      exact ⟨t, by rw [show q = (h, x + 1) from Prod.ext hh h4]⟩
end Go.Proofs.YtijldedhcjkhiaaDoorM
