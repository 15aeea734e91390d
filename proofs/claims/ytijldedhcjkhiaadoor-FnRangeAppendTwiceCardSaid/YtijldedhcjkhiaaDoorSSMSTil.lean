import Derived.Test.YtijldedhcjkhiaaDoorSSMSM0
namespace Go.Proofs.YtijldedhcjkhiaaDoorM
set_option linter.unusedVariables false
abbrev Nd := Nat × Nat
def Til (e : Nat) : Nat → List Nd → Prop
  | b, [] => b = e
  | b, n :: t => n.2 * 2 ^ n.1 = b ∧ Til e (b + 2 ^ n.1) t
def Fit (n m : Nd) : Prop := ¬ (n.1 = m.1 ∧ n.2 % 2 = 0)
def SF : List Nd → Prop
  | [] => True
  | n :: t => (∀ m, t.head? = some m → Fit n m) ∧ SF t
theorem Til.le {e : Nat} : ∀ {t : List Nd} {b : Nat}, Til e b t → b ≤ e
  | [], _, h => Nat.le_of_eq h
  | n :: _, b, h => Nat.le_trans (Nat.le_add_right _ _) h.2.le
theorem Til.append {e m : Nat} : ∀ {s : List Nd} {b : Nat} {t : List Nd}, Til m b s → Til e m t → Til e b (s ++ t)
  | [], _, _, h, ht => by
    have h' : _ = m := h
    subst h'
    exact ht
  | n :: s, _, _, h, ht => ⟨h.1, h.2.append ht⟩
theorem Til.split {e : Nat} : ∀ {s : List Nd} {b : Nat} {t : List Nd}, Til e b (s ++ t) → ∃ m, Til m b s ∧ Til e m t
  | [], b, _, h => ⟨b, rfl, h⟩
  | n :: s, b, t, h => by
    obtain ⟨m, h1, h2⟩ := Til.split (s := s) h.2
    exact ⟨m, ⟨h.1, h1⟩, h2⟩
theorem SF.left : ∀ {s t : List Nd}, SF (s ++ t) → SF s
  | [], _, _ => trivial
  | n :: s, t, h => ⟨fun m hm => h.1 m (by cases s with | nil => simp at hm | cons a s => simpa using hm), SF.left h.2⟩
theorem SF.right : ∀ {s t : List Nd}, SF (s ++ t) → SF t
  | [], _, h => h
  | n :: s, t, h => SF.right (s := s) h.2
theorem SF.fit : ∀ {s t : List Nd} {p n : Nd}, SF (s ++ p :: n :: t) → Fit p n
  | [], _, _, n, h => h.1 n rfl
  | _ :: s, _, _, _, h => SF.fit (s := s) h.2
theorem SF.join : ∀ {s t : List Nd} {p : Nd}, SF (s ++ [p]) → SF t → (∀ n, t.head? = some n → Fit p n) → SF (s ++ p :: t)
  | [], _, _, _, ht, hf => ⟨hf, ht⟩
  | [a], _, p, h, ht, hf => ⟨fun m hm => h.1 m (by simpa using hm), hf, ht⟩
  | a :: a2 :: s, t, p, h, ht, hf => ⟨fun m hm => h.1 m (by simpa using hm), SF.join (s := a2 :: s) h.2 ht hf⟩
theorem pow_add_two (n : Nat) : 2 ^ (n + 1) = 2 * 2 ^ n := by rw [Nat.pow_succ]; omega
theorem odd_le {a b x y : Nat} (h : a * 2 ^ x = b * 2 ^ y) (hb : b % 2 = 1) : x ≤ y := by
  rcases Nat.lt_or_ge y x with hlt | hge
  · exfalso
    obtain ⟨d, rfl⟩ : ∃ d, x = y + 1 + d := ⟨x - (y + 1), by omega⟩
    have : a * 2 ^ (y + 1 + d) = (a * 2 ^ d * 2) * 2 ^ y := by
      rw [show y + 1 + d = d + 1 + y by omega, Nat.pow_add, Nat.pow_succ, ← Nat.mul_assoc, ← Nat.mul_assoc]
    rw [this] at h
    have := Nat.eq_of_mul_eq_mul_right (two_pow_pos y) h
    omega
  · exact hge
theorem even_of_lt {a b x y : Nat} (h : a * 2 ^ x = b * 2 ^ y) (hl : x < y) : a % 2 = 0 := by
  obtain ⟨d, rfl⟩ : ∃ d, y = x + 1 + d := ⟨y - (x + 1), by omega⟩
  have : b * 2 ^ (x + 1 + d) = (b * 2 ^ d * 2) * 2 ^ x := by
    rw [show x + 1 + d = d + 1 + x by omega, Nat.pow_add, Nat.pow_succ, ← Nat.mul_assoc, ← Nat.mul_assoc]
  rw [this] at h
  have := Nat.eq_of_mul_eq_mul_right (two_pow_pos x) h
  omega
theorem greedy {e : Nat} : ∀ {t : List Nd} {b : Nat} {n : Nd}, Til e b (n :: t) → SF (n :: t) → n.2 % 2 = 0 → b + 2 * 2 ^ n.1 ≤ e → False
  | [], b, n, h, _, _, hle => by
    have h2 : b + 2 ^ n.1 = e := h.2
    have := two_pow_pos n.1
    omega
  | n' :: t, b, n, h, hs, he, hle => by
    obtain ⟨h1, h2⟩ := h
    have h3 : n'.2 * 2 ^ n'.1 = (n.2 + 1) * 2 ^ n.1 := by rw [h2.1, Nat.add_mul, h1, Nat.one_mul]
    have hl := odd_le h3 (by omega)
    have hf : Fit n n' := hs.1 n' rfl
    have hne : n'.1 ≠ n.1 := fun hh => hf ⟨hh.symm, he⟩
    have hlt : n'.1 < n.1 := by omega
    have hp : 2 * 2 ^ n'.1 ≤ 2 ^ n.1 := by rw [← pow_add_two]; exact pow_mono (by omega)
    exact greedy h2 hs.2 (even_of_lt h3 hlt) (by omega)
theorem uniq {e : Nat} : ∀ {s t : List Nd} {b : Nat}, Til e b s → SF s → Til e b t → SF t → s = t
  | [], [], _, _, _, _, _ => rfl
  | [], n :: t, b, h, _, h', _ => by
    have := h'.2.le
    have h1 : b = e := h
    have := two_pow_pos n.1
    omega
  | n :: s, [], b, h, _, h', _ => by
    have := h.2.le
    have h1 : b = e := h'
    have := two_pow_pos n.1
    omega
  | n :: s, n' :: t, b, h, hs, h', hs' => by
    have h0 := h.2.le
    have h0' := h'.2.le
    have heq : n.2 * 2 ^ n.1 = n'.2 * 2 ^ n'.1 := by rw [h.1, h'.1]
    have hlev : n.1 = n'.1 := by
      rcases Nat.lt_trichotomy n.1 n'.1 with hl | hl | hl
      · have hp : 2 * 2 ^ n.1 ≤ 2 ^ n'.1 := by rw [← pow_add_two]; exact pow_mono (by omega)
        exact (greedy h hs (even_of_lt heq hl) (by omega)).elim
      · exact hl
      · have hp : 2 * 2 ^ n'.1 ≤ 2 ^ n.1 := by rw [← pow_add_two]; exact pow_mono (by omega)
        exact (greedy h' hs' (even_of_lt heq.symm hl) (by omega)).elim
    have hidx : n.2 = n'.2 := by
      rw [hlev] at heq
      exact Nat.eq_of_mul_eq_mul_right (two_pow_pos _) heq
    have hn : n = n' := Prod.ext hlev hidx
    subst hn
    rw [uniq h.2 hs.2 h'.2 hs'.2]
theorem til_snoc {e b : Nat} {s : List Nd} {n : Nd} (h : Til e b (s ++ [n])) : Til (n.2 * 2 ^ n.1) b s ∧ (n.2 + 1) * 2 ^ n.1 = e := by
  obtain ⟨m, h1, h2, h3⟩ := h.split
  have h3' : m + 2 ^ n.1 = e := h3
  subst h2
  exact ⟨h1, by rw [Nat.add_mul, Nat.one_mul]; exact h3'⟩
theorem last_greedy (l : Nat) : ∀ {s : List Nd} {e b : Nat} {n : Nd}, n.1 ≤ l → Til e b (s ++ [n]) → SF (s ++ [n]) → n.2 % 2 = 1 → b + 2 * 2 ^ n.1 ≤ e → False := by
  induction l with
  | zero =>
    intro s e b n hl h hs ho hle
    obtain ⟨h1, h2⟩ := til_snoc h
    have hl0 : n.1 = 0 := by omega
    rcases List.eq_nil_or_concat s with rfl | ⟨s, p, rfl⟩
    · have h1' : b = _ := h1
      rw [Nat.add_mul] at h2
      have := two_pow_pos n.1
      omega
    · rw [List.concat_eq_append] at h1 hs
      obtain ⟨h3, h4⟩ := til_snoc h1
      have hle := odd_le h4 ho
      rw [show p.1 = 0 by omega, hl0] at h4
      have hf : Fit p n := by
        rw [List.append_assoc] at hs
        exact hs.fit
      exact hf ⟨by omega, by omega⟩
  | succ l ih =>
    intro s e b n hl h hs ho hle
    obtain ⟨h1, h2⟩ := til_snoc h
    rcases List.eq_nil_or_concat s with rfl | ⟨s, p, rfl⟩
    · have h1' : b = _ := h1
      rw [Nat.add_mul] at h2
      have := two_pow_pos n.1
      omega
    · rw [List.concat_eq_append] at h1 hs
      obtain ⟨h3, h4⟩ := til_snoc h1
      have hlp := odd_le h4 ho
      have hf : Fit p n := by
        rw [List.append_assoc] at hs
        exact hs.fit
      by_cases hpe : p.1 = n.1
      · rw [hpe] at h4
        have := Nat.eq_of_mul_eq_mul_right (two_pow_pos _) h4
        exact hf ⟨hpe, by omega⟩
      · have hlt : p.1 < n.1 := by omega
        have hp : 2 * 2 ^ p.1 ≤ 2 ^ n.1 := by rw [← pow_add_two]; exact pow_mono (by omega)
        have := even_of_lt h4 hlt
        rw [Nat.add_mul] at h2
        exact ih (by omega) h1 hs.left (by omega) (by omega)
def Ins (b m e n : Nat) : Prop := b ≤ m / 2 ^ n * 2 ^ n ∧ (m / 2 ^ n + 1) * 2 ^ n ≤ e
theorem half (m n : Nat) : m / 2 ^ (n + 1) = m / 2 ^ n / 2 := by rw [Nat.pow_succ, Nat.div_div_eq_div_mul]
theorem Ins.down {b m e n : Nat} (h : Ins b m e (n + 1)) : Ins b m e n := by
  unfold Ins at h ⊢
  rw [half, pow_add_two] at h
  generalize m / 2 ^ n = q at h ⊢
  have e1 : q / 2 * (2 * 2 ^ n) = (2 * (q / 2)) * 2 ^ n := by rw [← Nat.mul_assoc, Nat.mul_comm (q / 2) 2]
  have e2 : (q / 2 + 1) * (2 * 2 ^ n) = (2 * (q / 2) + 2) * 2 ^ n := by rw [← Nat.mul_assoc]; congr 1; omega
  rw [e1, e2] at h
  have h1 : 2 * (q / 2) * 2 ^ n ≤ q * 2 ^ n := Nat.mul_le_mul_right _ (by omega)
  have h2 : (q + 1) * 2 ^ n ≤ (2 * (q / 2) + 2) * 2 ^ n := Nat.mul_le_mul_right _ (by omega)
  omega
theorem Ins.downs {b m e : Nat} (n : Nat) : ∀ d, Ins b m e (n + d) → Ins b m e n
  | 0, h => h
  | d + 1, h => Ins.downs n d (Ins.down h)
end Go.Proofs.YtijldedhcjkhiaaDoorM
