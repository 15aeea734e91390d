import Derived.Test.YtijldedhcjkhiaaDoorKMZTil
namespace Go.Proofs.YtijldedhcjkhiaaDoorM
set_option linter.unusedVariables false
def nlo (n : Nd) : Nat := n.2 * 2 ^ n.1
def nhi (n : Nd) : Nat := (n.2 + 1) * 2 ^ n.1
def Apart (n m : Nd) : Prop := nhi n ≤ nlo m ∨ nhi m ≤ nlo n
def tot (l : List Nd) : Nat := (l.map fun n => 2 ^ n.1).sum
structure Pak (a b s : Nat) (l : List Nd) : Prop where
  ins : ∀ n ∈ l, a ≤ nlo n ∧ nhi n ≤ b
  dis : l.Pairwise Apart
  sum : tot l = s
theorem nhi_eq (n : Nd) : nhi n = nlo n + 2 ^ n.1 := by unfold nhi nlo; rw [Nat.add_mul, Nat.one_mul]
theorem Apart.symm {n m : Nd} (h : Apart n m) : Apart m n := Or.symm h
theorem tot_append (l m : List Nd) : tot (l ++ m) = tot l + tot m := by simp [tot]
theorem tot_cons (n : Nd) (l : List Nd) : tot (n :: l) = 2 ^ n.1 + tot l := by simp [tot]
theorem tot_reverse (l : List Nd) : tot l.reverse = tot l := by
  induction l with
  | nil => rfl
  | cons n l ih => rw [List.reverse_cons, tot_append, ih, tot_cons, tot_cons]; simp [tot]; omega
theorem Pak.append {A B a b c d s u : Nat} {l m : List Nd} (h : Pak a b s l) (g : Pak c d u m) (h1 : A ≤ a) (h2 : A ≤ c) (h3 : b ≤ B) (h4 : d ≤ B) (hd : b ≤ c ∨ d ≤ a) : Pak A B (s + u) (l ++ m) := by
  refine ⟨fun n hn => ?_, ?_, by rw [tot_append, h.sum, g.sum]⟩
  · rcases List.mem_append.1 hn with hn | hn
    · have := h.ins n hn; omega
    · have := g.ins n hn; omega
  · refine List.pairwise_append.2 ⟨h.dis, g.dis, fun n hn m hm => ?_⟩
    have e1 := h.ins n hn
    have e2 := g.ins m hm
    have e3 := nhi_eq n
    have e4 := nhi_eq m
    rcases hd with hd | hd
    · exact .inl (by omega)
    · exact .inr (by omega)
theorem Pak.reverse {a b s : Nat} {l : List Nd} (h : Pak a b s l) : Pak a b s l.reverse :=
  ⟨fun n hn => h.ins n (List.mem_reverse.1 hn), List.pairwise_reverse.2 (h.dis.imp fun hx => hx.symm), by rw [tot_reverse, h.sum]⟩
def sibs (L i d : Nat) : List Nd := (L, i) :: (List.range d).map fun j => (L + j, i / 2 ^ j ^^^ 1)
theorem sibs_succ (L i d : Nat) : sibs L i (d + 1) = sibs L i d ++ [(L + d, i / 2 ^ d ^^^ 1)] := by
  unfold sibs
  rw [List.range_succ, List.map_append]
  rfl
theorem sibs_length (L i d : Nat) : (sibs L i d).length = d + 1 := by simp [sibs]
end Go.Proofs.YtijldedhcjkhiaaDoorM
