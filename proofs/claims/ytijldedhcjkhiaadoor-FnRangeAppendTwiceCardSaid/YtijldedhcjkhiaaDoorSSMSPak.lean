import Derived.Test.YtijldedhcjkhiaaDoorSSMSTil
namespace Go.Proofs.YtijldedhcjkhiaaDoorM
set_option linter.unusedVariables false
def nlo (n : Nd) : Nat := n.2 * 2 ^ n.1
def nhi (n : Nd) : Nat := (n.2 + 1) * 2 ^ n.1
def Apart (n m : Nd) : Prop := nhi n ≤ nlo m ∨ nhi m ≤ nlo n
def tot (l : List Nd) : Nat := (l.map fun n => 2 ^ n.1).sum
structure Pak (a b s : Nat) (l : List Nd) : Prop where
  ins : ∀ n ∈ l, a ≤ nlo n ∧ nhi n ≤ b
  dis : l.Pairwise Apart
  sum : tot l = s
theorem nhi_eq (n : Nd) : nhi n = nlo n + 2 ^ n.1 := by unfold nhi nlo; rw [Nat.add_mul, Nat.one_mul]
theorem Apart.symm {n m : Nd} (h : Apart n m) : Apart m n := Or.symm h
theorem tot_append (l m : List Nd) : tot (l ++ m) = tot l + tot m := by simp [tot]
theorem Pak.append {A B a b c d s u : Nat} {l m : List Nd} (h : Pak a b s l) (g : Pak c d u m) (h1 : A ≤ a) (h2 : A ≤ c) (h3 : b ≤ B) (h4 : d ≤ B) (hd : b ≤ c ∨ d ≤ a) : Pak A B (s + u) (l ++ m) := by
  refine ⟨fun n hn => ?_, ?_, by rw [tot_append, h.sum, g.sum]⟩
  · rcases List.mem_append.1 hn with hn | hn
    · have := h.ins n hn; omega
    · have := g.ins n hn; omega
  · refine List.pairwise_append.2 ⟨h.dis, g.dis, fun n hn m hm => ?_⟩
    have e1 := h.ins n hn
    have e2 := g.ins m hm
    have e3 := nhi_eq n
    have e4 := nhi_eq m
    rcases hd with hd | hd
    · exact .inl (by omega)
    · exact .inr (by omega)
theorem pak_one (n : Nd) : Pak (nlo n) (nhi n) (2 ^ n.1) [n] :=
  ⟨fun m hm => by obtain rfl := List.mem_singleton.1 hm; exact ⟨Nat.le_refl _, Nat.le_refl _⟩, List.pairwise_singleton _ _, by simp [tot]⟩
theorem pak_nil (a b : Nat) : Pak a b 0 [] := ⟨fun n hn => by simp at hn, List.Pairwise.nil, rfl⟩
theorem Til.pak {e : Nat} : ∀ {t : List Nd} {b : Nat}, Til e b t → Pak b e (e - b) t
  | [], b, h => by
    have h' : b = e := h
    subst h'
    rw [Nat.sub_self]
    exact pak_nil _ _
  | n :: t, b, h => by
    obtain ⟨h1, h2⟩ := h
    have h3 := h2.pak
    have h4 := h2.le
    have e1 : nlo n = b := h1
    have e2 := nhi_eq n
    have e3 : nhi n = b + 2 ^ n.1 := by rw [e2, e1]
    have g1 : nhi n ≤ e := by rw [e3]; exact h4
    have := (pak_one n).append h3 (A := b) (B := e) (Nat.le_of_eq e1.symm) (Nat.le_add_right _ _) g1 (Nat.le_refl _) (.inl (Nat.le_of_eq e3))
    rw [show 2 ^ n.1 + (e - (b + 2 ^ n.1)) = e - b from by rw [Nat.sub_add_eq, Nat.add_sub_cancel' (by rw [Nat.add_comm] at h4; exact Nat.le_sub_of_add_le h4)]] at this
    exact this
end Go.Proofs.YtijldedhcjkhiaaDoorM
