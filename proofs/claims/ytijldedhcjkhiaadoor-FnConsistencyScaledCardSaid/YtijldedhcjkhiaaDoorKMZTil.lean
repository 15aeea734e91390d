import Derived.Test.YtijldedhcjkhiaaDoorKMZM0
namespace Go.Proofs.YtijldedhcjkhiaaDoorM
set_option linter.unusedVariables false
abbrev Nd := Nat × Nat
def Til (e : Nat) : Nat → List Nd → Prop
  | b, [] => b = e
  | b, n :: t => n.2 * 2 ^ n.1 = b ∧ Til e (b + 2 ^ n.1) t
def Fit (n m : Nd) : Prop := ¬ (n.1 = m.1 ∧ n.2 % 2 = 0)
def SF : List Nd → Prop
  | [] => True
  | n :: t => (∀ m, t.head? = some m → Fit n m) ∧ SF t
theorem Til.le {e : Nat} : ∀ {t : List Nd} {b : Nat}, Til e b t → b ≤ e
  | [], _, h => Nat.le_of_eq h
  | n :: _, b, h => Nat.le_trans (Nat.le_add_right _ _) h.2.le
theorem Til.append {e m : Nat} : ∀ {s : List Nd} {b : Nat} {t : List Nd}, Til m b s → Til e m t → Til e b (s ++ t)
  | [], _, _, h, ht => by
    have h' : _ = m := h
    subst h'
    exact ht
  | n :: s, _, _, h, ht => ⟨h.1, h.2.append ht⟩
theorem Til.split {e : Nat} : ∀ {s : List Nd} {b : Nat} {t : List Nd}, Til e b (s ++ t) → ∃ m, Til m b s ∧ Til e m t
  | [], b, _, h => ⟨b, rfl, h⟩
  | n :: s, b, t, h => by
    obtain ⟨m, h1, h2⟩ := Til.split (s := s) h.2
    exact ⟨m, ⟨h.1, h1⟩, h2⟩
theorem pow_add_two (n : Nat) : 2 ^ (n + 1) = 2 * 2 ^ n := by rw [Nat.pow_succ]; omega
theorem odd_le {a b x y : Nat} (h : a * 2 ^ x = b * 2 ^ y) (hb : b % 2 = 1) : x ≤ y := by
  rcases Nat.lt_or_ge y x with hlt | hge
  · exfalso
    obtain ⟨d, rfl⟩ : ∃ d, x = y + 1 + d := ⟨x - (y + 1), by omega⟩
    have : a * 2 ^ (y + 1 + d) = (a * 2 ^ d * 2) * 2 ^ y := by
      rw [show y + 1 + d = d + 1 + y by omega, Nat.pow_add, Nat.pow_succ, ← Nat.mul_assoc, ← Nat.mul_assoc]
    rw [this] at h
    have := Nat.eq_of_mul_eq_mul_right (two_pow_pos y) h
    omega
  · exact hge
theorem even_of_lt {a b x y : Nat} (h : a * 2 ^ x = b * 2 ^ y) (hl : x < y) : a % 2 = 0 := by
  obtain ⟨d, rfl⟩ : ∃ d, y = x + 1 + d := ⟨y - (x + 1), by omega⟩
  have : b * 2 ^ (x + 1 + d) = (b * 2 ^ d * 2) * 2 ^ x := by
    rw [show x + 1 + d = d + 1 + x by omega, Nat.pow_add, Nat.pow_succ, ← Nat.mul_assoc, ← Nat.mul_assoc]
  rw [this] at h
  have := Nat.eq_of_mul_eq_mul_right (two_pow_pos x) h
  omega
theorem greedy {e : Nat} : ∀ {t : List Nd} {b : Nat} {n : Nd}, Til e b (n :: t) → SF (n :: t) → n.2 % 2 = 0 → b + 2 * 2 ^ n.1 ≤ e → False
  | [], b, n, h, _, _, hle => by
    have h2 : b + 2 ^ n.1 = e := h.2
    have := two_pow_pos n.1
    omega
  | n' :: t, b, n, h, hs, he, hle => by
    obtain ⟨h1, h2⟩ := h
    have h3 : n'.2 * 2 ^ n'.1 = (n.2 + 1) * 2 ^ n.1 := by rw [h2.1, Nat.add_mul, h1, Nat.one_mul]
    have hl := odd_le h3 (by omega)
    have hf : Fit n n' := hs.1 n' rfl
    have hne : n'.1 ≠ n.1 := fun hh => hf ⟨hh.symm, he⟩
    have hlt : n'.1 < n.1 := by omega
    have hp : 2 * 2 ^ n'.1 ≤ 2 ^ n.1 := by rw [← pow_add_two]; exact pow_mono (by omega)
    exact greedy h2 hs.2 (even_of_lt h3 hlt) (by omega)
theorem uniq {e : Nat} : ∀ {s t : List Nd} {b : Nat}, Til e b s → SF s → Til e b t → SF t → s = t
  | [], [], _, _, _, _, _ => rfl
  | [], n :: t, b, h, _, h', _ => by
    have := h'.2.le
    have h1 : b = e := h
    have := two_pow_pos n.1
    omega
  | n :: s, [], b, h, _, h', _ => by
    have := h.2.le
    have h1 : b = e := h'
    have := two_pow_pos n.1
    omega
  | n :: s, n' :: t, b, h, hs, h', hs' => by
    have h0 := h.2.le
    have h0' := h'.2.le
    have heq : n.2 * 2 ^ n.1 = n'.2 * 2 ^ n'.1 := by rw [h.1, h'.1]
    have hlev : n.1 = n'.1 := by
      rcases Nat.lt_trichotomy n.1 n'.1 with hl | hl | hl
      · have hp : 2 * 2 ^ n.1 ≤ 2 ^ n'.1 := by rw [← pow_add_two]; exact pow_mono (by omega)
        exact (greedy h hs (even_of_lt heq hl) (by omega)).elim
      · exact hl
      · have hp : 2 * 2 ^ n'.1 ≤ 2 ^ n.1 := by rw [← pow_add_two]; exact pow_mono (by omega)
        exact (greedy h' hs' (even_of_lt heq.symm hl) (by omega)).elim
    have hidx : n.2 = n'.2 := by
      rw [hlev] at heq
      exact Nat.eq_of_mul_eq_mul_right (two_pow_pos _) heq
    have hn : n = n' := Prod.ext hlev hidx
    subst hn
    rw [uniq h.2 hs.2 h'.2 hs'.2]
theorem half (m n : Nat) : m / 2 ^ (n + 1) = m / 2 ^ n / 2 := by rw [Nat.pow_succ, Nat.div_div_eq_div_mul]
end Go.Proofs.YtijldedhcjkhiaaDoorM
