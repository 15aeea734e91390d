import Derived.Test.YtijldedhcjkhiaaDoorCMYTil
namespace Go.Proofs.YtijldedhcjkhiaaDoorM
set_option linter.unusedVariables false
def nlo (n : Nd) : Nat := n.2 * 2 ^ n.1
def nhi (n : Nd) : Nat := (n.2 + 1) * 2 ^ n.1
def Apart (n m : Nd) : Prop := nhi n ≤ nlo m ∨ nhi m ≤ nlo n
def tot (l : List Nd) : Nat := (l.map fun n => 2 ^ n.1).sum
structure Pak (a b s : Nat) (l : List Nd) : Prop where
  ins : ∀ n ∈ l, a ≤ nlo n ∧ nhi n ≤ b
  dis : l.Pairwise Apart
  sum : tot l = s
theorem nhi_eq (n : Nd) : nhi n = nlo n + 2 ^ n.1 := by unfold nhi nlo; rw [Nat.add_mul, Nat.one_mul]
theorem Apart.symm {n m : Nd} (h : Apart n m) : Apart m n := Or.symm h
theorem tot_append (l m : List Nd) : tot (l ++ m) = tot l + tot m := by simp [tot]
theorem tot_cons (n : Nd) (l : List Nd) : tot (n :: l) = 2 ^ n.1 + tot l := by simp [tot]
theorem tot_reverse (l : List Nd) : tot l.reverse = tot l := by
  induction l with
  | nil => rfl
  | cons n l ih => rw [List.reverse_cons, tot_append, ih, tot_cons, tot_cons]; simp [tot]; omega
theorem Pak.append {A B a b c d s u : Nat} {l m : List Nd} (h : Pak a b s l) (g : Pak c d u m) (h1 : A ≤ a) (h2 : A ≤ c) (h3 : b ≤ B) (h4 : d ≤ B) (hd : b ≤ c ∨ d ≤ a) : Pak A B (s + u) (l ++ m) := by
  refine ⟨fun n hn => ?_, ?_, by rw [tot_append, h.sum, g.sum]⟩
  · rcases List.mem_append.1 hn with hn | hn
    · have := h.ins n hn; omega
    · have := g.ins n hn; omega
  · refine List.pairwise_append.2 ⟨h.dis, g.dis, fun n hn m hm => ?_⟩
    have e1 := h.ins n hn
    have e2 := g.ins m hm
    have e3 := nhi_eq n
    have e4 := nhi_eq m
    rcases hd with hd | hd
    · exact .inl (by omega)
    · exact .inr (by omega)
theorem Pak.reverse {a b s : Nat} {l : List Nd} (h : Pak a b s l) : Pak a b s l.reverse :=
  ⟨fun n hn => h.ins n (List.mem_reverse.1 hn), List.pairwise_reverse.2 (h.dis.imp fun hx => hx.symm), by rw [tot_reverse, h.sum]⟩
theorem pak_one (n : Nd) : Pak (nlo n) (nhi n) (2 ^ n.1) [n] :=
  ⟨fun m hm => by obtain rfl := List.mem_singleton.1 hm; exact ⟨Nat.le_refl _, Nat.le_refl _⟩, List.pairwise_singleton _ _, by simp [tot]⟩
theorem pak_nil (a b : Nat) : Pak a b 0 [] := ⟨fun n hn => by simp at hn, List.Pairwise.nil, rfl⟩
theorem Til.pak {e : Nat} : ∀ {t : List Nd} {b : Nat}, Til e b t → Pak b e (e - b) t
  | [], b, h => by
    have h' : b = e := h
    subst h'
    rw [Nat.sub_self]
    exact pak_nil _ _
  | n :: t, b, h => by
    obtain ⟨h1, h2⟩ := h
    have h3 := h2.pak
    have h4 := h2.le
    have e1 : nlo n = b := h1
    have e2 := nhi_eq n
    have e3 : nhi n = b + 2 ^ n.1 := by rw [e2, e1]
    have g1 : nhi n ≤ e := by rw [e3]; exact h4
    have := (pak_one n).append h3 (A := b) (B := e) (Nat.le_of_eq e1.symm) (Nat.le_add_right _ _) g1 (Nat.le_refl _) (.inl (Nat.le_of_eq e3))
    rw [show 2 ^ n.1 + (e - (b + 2 ^ n.1)) = e - b from by rw [Nat.sub_add_eq, Nat.add_sub_cancel' (by rw [Nat.add_comm] at h4; exact Nat.le_sub_of_add_le h4)]] at this
    exact this
def sibs (L i d : Nat) : List Nd := (L, i) :: (List.range d).map fun j => (L + j, i / 2 ^ j ^^^ 1)
theorem sibs_succ (L i d : Nat) : sibs L i (d + 1) = sibs L i d ++ [(L + d, i / 2 ^ d ^^^ 1)] := by
  unfold sibs
  rw [List.range_succ, List.map_append]
  rfl
theorem sibs_length (L i d : Nat) : (sibs L i d).length = d + 1 := by simp [sibs]
theorem xor_one_even (p : Nat) : 2 * p ^^^ 1 = 2 * p + 1 := by
  have h : 2 * p ^^^ (2 * p ^^^ (2 * p + 1)) = 2 * p + 1 := by rw [← Nat.xor_assoc, Nat.xor_self, Nat.zero_xor]
  rw [xor_pair p] at h
  exact h
theorem xor_one_odd (p : Nat) : (2 * p + 1) ^^^ 1 = 2 * p := by rw [← xor_one_even p, Nat.xor_assoc, Nat.xor_self, Nat.xor_zero]
theorem sib_join (F q : Nat) : Pak (nlo (F + 1, q / 2)) (nhi (F + 1, q / 2)) (2 ^ F) [(F, q ^^^ 1)] ∧ (nhi (F, q ^^^ 1) ≤ nlo (F, q) ∨ nhi (F, q) ≤ nlo (F, q ^^^ 1)) ∧ nlo (F + 1, q / 2) ≤ nlo (F, q) ∧ nhi (F, q) ≤ nhi (F + 1, q / 2) ∧ nlo (F + 1, q / 2) ≤ nlo (F, q ^^^ 1) ∧ nhi (F, q ^^^ 1) ≤ nhi (F + 1, q / 2) := by
  have e : 2 ^ (F + 1) = 2 * 2 ^ F := pow_add_two F
  obtain ⟨p, rfl | rfl⟩ : ∃ p, q = 2 * p ∨ q = 2 * p + 1 := ⟨q / 2, by omega⟩
  · rw [xor_one_even, show 2 * p / 2 = p by omega]
    have a1 : nlo (F + 1, p) = 2 * (p * 2 ^ F) := by unfold nlo; simp only; rw [e, Nat.mul_left_comm]
    have a2 : nhi (F + 1, p) = 2 * (p * 2 ^ F) + 2 * 2 ^ F := by rw [nhi_eq, a1]; simp only; rw [e]
    have a3 : nlo (F, 2 * p) = 2 * (p * 2 ^ F) := by unfold nlo; simp only; rw [Nat.mul_assoc]
    have a4 : nhi (F, 2 * p) = 2 * (p * 2 ^ F) + 2 ^ F := by rw [nhi_eq, a3]
    have a5 : nlo (F, 2 * p + 1) = 2 * (p * 2 ^ F) + 2 ^ F := by unfold nlo; simp only; rw [Nat.add_mul, Nat.one_mul, Nat.mul_assoc]
    have a6 : nhi (F, 2 * p + 1) = 2 * (p * 2 ^ F) + 2 * 2 ^ F := by rw [nhi_eq, a5]; simp only; omega
    refine ⟨⟨fun m hm => ?_, List.pairwise_singleton _ _, by simp [tot]⟩, .inr (by omega), by omega, by omega, by omega, by omega⟩
    obtain rfl := List.mem_singleton.1 hm
    omega
  · rw [xor_one_odd, show (2 * p + 1) / 2 = p by omega]
    have a1 : nlo (F + 1, p) = 2 * (p * 2 ^ F) := by unfold nlo; simp only; rw [e, Nat.mul_left_comm]
    have a2 : nhi (F + 1, p) = 2 * (p * 2 ^ F) + 2 * 2 ^ F := by rw [nhi_eq, a1]; simp only; rw [e]
    have a3 : nlo (F, 2 * p) = 2 * (p * 2 ^ F) := by unfold nlo; simp only; rw [Nat.mul_assoc]
    have a4 : nhi (F, 2 * p) = 2 * (p * 2 ^ F) + 2 ^ F := by rw [nhi_eq, a3]
    have a5 : nlo (F, 2 * p + 1) = 2 * (p * 2 ^ F) + 2 ^ F := by unfold nlo; simp only; rw [Nat.add_mul, Nat.one_mul, Nat.mul_assoc]
    have a6 : nhi (F, 2 * p + 1) = 2 * (p * 2 ^ F) + 2 * 2 ^ F := by rw [nhi_eq, a5]; simp only; omega
    refine ⟨⟨fun m hm => ?_, List.pairwise_singleton _ _, by simp [tot]⟩, .inl (by omega), by omega, by omega, by omega, by omega⟩
    obtain rfl := List.mem_singleton.1 hm
    omega
theorem sibs_pak (L i d : Nat) : Pak (nlo (L + d, i / 2 ^ d)) (nhi (L + d, i / 2 ^ d)) (2 ^ (L + d)) (sibs L i d) := by
  induction d with
  | zero =>
    have := pak_one (L, i)
    simpa [sibs] using this
  | succ d ih =>
    obtain ⟨g1, g2, g3, g4, g5, g6⟩ := sib_join (L + d) (i / 2 ^ d)
    have e1 : i / 2 ^ (d + 1) = i / 2 ^ d / 2 := half i d
    have e2 : 2 ^ (L + d + 1) = 2 * 2 ^ (L + d) := pow_add_two _
    have g := pak_one (L + d, i / 2 ^ d ^^^ 1)
    have := ih.append g (A := nlo (L + d + 1, i / 2 ^ d / 2)) (B := nhi (L + d + 1, i / 2 ^ d / 2)) g3 g5 g4 g6 g2.symm
    rw [sibs_succ, e1, ← Nat.add_assoc, e2]
    rw [show 2 ^ (L + d) + 2 ^ (L + d, i / 2 ^ d ^^^ 1).1 = 2 * 2 ^ (L + d) by simp only; omega] at this
    exact this
end Go.Proofs.YtijldedhcjkhiaaDoorM
