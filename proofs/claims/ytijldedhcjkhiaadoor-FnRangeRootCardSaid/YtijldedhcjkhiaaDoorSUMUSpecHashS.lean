import Derived.Test.YtijldedhcjkhiaaDoorSUMUHashS
import Derived.Test.YtijldedhcjkhiaaDoorSUU8
namespace Go.Proofs.YtijldedhcjkhiaaDoor.Pure
open Go.RowKit Go.Proofs.YtijldedhcjkhiaaDoorW.PrintWords Go.Proofs.YtijldedhcjkhiaaDoorW.PrintLast Go.Proofs.YtijldedhcjkhiaaDoorW.PrintMore U Go.Proofs.YtijldedhcjkhiaaDoorM
set_option linter.unusedVariables false
set_option linter.unusedSimpArgs false
theorem sword_out (w : Int) (m : Nat) (hm : m ≤ 8) : ∀ (d k : Nat), d ≤ m → d < k → spec_word.l1 k w ((wordL w m).take (m - d)) ((d : Int) - 1) = some (wordL w m) := by
  intro d
  induction d with
  | zero =>
    intro k hd hk
    obtain ⟨k, rfl⟩ : ∃ m, k = m + 1 := ⟨k - 1, by omega⟩
    simp only [spec_word.l1]
    rw [if_neg (by omega), List.take_of_length_le (by rw [wordL_length]; omega)]
  | succ d ih =>
    intro k hd hk
    obtain ⟨k, rfl⟩ : ∃ m, k = m + 1 := ⟨k - 1, by omega⟩
    have e0 : (((d + 1 : Nat) : Int) - 1) = (d : Int) := by omega
    have e1 : wrap64 (8 * (d : Int)) = ((8 * d : Nat) : Int) := by rw [wrap64_of (by omega) (by omega)]; omega
    have e2 : wrap64 ((d : Int) - 1) = (d : Int) - 1 := wrap64_of (by omega) (by omega)
    simp only [spec_word.l1]
    rw [e0, if_pos (by omega), e1, if_pos (by omega), if_pos (by rw [List.length_take, wordL_length]; omega), e2]
    have h := wordL_take w m (m - (d + 1)) (by omega)
    rw [show m - 1 - (m - (d + 1)) = d by omega, show m - (d + 1) + 1 = m - d by omega] at h
    rw [← h]
    exact ih k (by omega) (by omega)
theorem sword_j2 (w : Int) (m : Nat) (h1 : 1 ≤ m) (hm : m ≤ 8) (k : Nat) (hk : 20 < k) : spec_word.j2 k w (m : Int) = some (wordL w m) := by
  obtain ⟨k, rfl⟩ : ∃ m, k = m + 1 := ⟨k - 1, by omega⟩
  simp only [spec_word.j2]
  rw [wrap64_of (by omega) (by omega)]
  have h := sword_out w m hm m k (Nat.le_refl _) (by omega)
  rw [Nat.sub_self, List.take_zero] at h
  exact h
theorem sword_tail (w n : Int) (k : Nat) (hk : 30 < k) : (if n < 1 then (spec_word.j1 k w n true) else (spec_word.j1 k w n (decide (n > 8)))) = some (wordL w (wlen n)) := by
  obtain ⟨k, rfl⟩ : ∃ m, k = m + 1 := ⟨k - 1, by omega⟩
  unfold wlen
  by_cases h1 : n < 1
  · rw [if_pos h1, if_pos h1]
    simp only [spec_word.j1, if_true]
    exact sword_j2 w 8 (by omega) (by omega) k (by omega)
  · rw [if_neg h1, if_neg h1]
    by_cases h8 : n > 8
    · rw [if_pos h8]
      simp only [spec_word.j1, h8, decide_true, if_true]
      exact sword_j2 w 8 (by omega) (by omega) k (by omega)
    · rw [if_neg h8]
      simp only [spec_word.j1, h8, decide_false, Bool.false_eq_true, if_false]
      have h := sword_j2 w n.toNat (by omega) (by omega) k (by omega)
      rw [show ((n.toNat : Nat) : Int) = n by omega] at h
      exact h
theorem sword_run (h : Hs) (suf : List Int) : ∀ (pre : List Int) (w : Int) (k : Nat), (pre ++ suf).length < 1000000000000 → suf.length + 40 < k →
    spec_word.l0 k w (pre ++ suf) ((pre ++ suf).length : Int) (pre.length : Int) h.k h.s h.b h.e h.l h.n = some (wordL (mixF w suf) (wlen h.b)) := by
  induction suf with
  | nil =>
    intro pre w k hl hk
    obtain ⟨k, rfl⟩ : ∃ m, k = m + 1 := ⟨k - 1, by omega⟩
    simp only [spec_word.l0]
    rw [if_neg (by simp)]
    exact sword_tail w h.b k (by omega)
  | cons x suf ih =>
    intro pre w k hl hk
    obtain ⟨k, rfl⟩ : ∃ m, k = m + 1 := ⟨k - 1, by omega⟩
    have hlen : (pre ++ x :: suf).length = pre.length + suf.length + 1 := by simp; omega
    rw [List.length_cons] at hk
    simp only [spec_word.l0]
    rw [if_pos (by rw [hlen]; omega), if_pos (by omega), if_pos (by rw [hlen]; omega), rd_mid, wrap64_succ (by omega) (by rw [hlen] at hl; omega)]
    have h := ih (pre ++ [x]) (IntKind.u64.wrap (Go.bits .xor .u64 w (IntKind.u64.wrap x) * 1099511628211)) k (by simpa using hl) (by omega)
    rw [List.append_assoc, List.singleton_append, step_len] at h
    rw [show ((pre.length : Int) + 1) = ((pre.length + 1 : Nat) : Int) by omega]
    exact h
theorem sword_eq (h : Hs) (w : Int) (l : List Int) (k : Nat) (hl : l.length < 1000000000000) (hk : l.length + 40 < k) : spec_word.f k h.k h.s h.b h.e h.l h.n w l = some (wordL (mixF w l) (wlen h.b)) := sword_run h l [] w k hl hk
theorem sterm_run (l r : List Int) (hl : l.length + r.length < 100000000000) : ∀ (d k : Nat), d ≤ 8 → d < k →
    spec_HashChildren.l0 k l r (1 :: (wordL (l.length : Int) 8).take (8 - d)) (8 * (d : Int) - 8) = some (1 :: (wordL (l.length : Int) 8 ++ (l ++ r))) := by
  intro d
  induction d with
  | zero =>
    intro k hd hk
    obtain ⟨k, rfl⟩ : ∃ m, k = m + 1 := ⟨k - 1, by omega⟩
    simp only [spec_HashChildren.l0]
    rw [if_neg (by omega), List.take_of_length_le (by rw [wordL_length]; omega), if_pos (by rw [List.length_cons, wordL_length]; omega)]
    simp only [Option.bind_some]
    rw [if_pos (by rw [List.length_append, List.length_cons, wordL_length]; omega)]
    simp
  | succ d ih =>
    intro k hd hk
    obtain ⟨k, rfl⟩ : ∃ m, k = m + 1 := ⟨k - 1, by omega⟩
    have e0 : (8 * ((d + 1 : Nat) : Int) - 8) = ((8 * d : Nat) : Int) := by omega
    have e2 : wrap64 (((8 * d : Nat) : Int) - 8) = 8 * (d : Int) - 8 := by rw [wrap64_of (by omega) (by omega)]; omega
    simp only [spec_HashChildren.l0]
    rw [e0, if_pos (by omega), if_pos (by omega)]
    simp only [Option.bind_some]
    rw [if_pos (by rw [List.length_cons, List.length_take, wordL_length, List.length_singleton]; omega), e2, u64_small _ (by omega)]
    have h := wordL_take (l.length : Int) 8 (8 - (d + 1)) (by omega)
    rw [show 8 - 1 - (8 - (d + 1)) = d by omega, show 8 - (d + 1) + 1 = 8 - d by omega] at h
    rw [List.cons_append, ← h]
    exact ih k (by omega) (by omega)
theorem shash_eq (h : Hs) (l r : List Int) (k : Nat) (hl : l.length + r.length < 100000000000) (hk : l.length + r.length + 60 < k) : spec_HashChildren.f k h.k h.s h.b h.e h.l h.n l r = some (H h l r) := by
  unfold spec_HashChildren.f spec_Terms.f H
  simp only [Option.bind_some]
  by_cases h1 : h.k = 1
  · rw [if_neg (by simp [h1]), if_pos h1]
    simp only [List.nil_append, List.length_nil, Nat.zero_add]
    rw [if_pos (by omega), if_pos (by simp; omega), if_pos (by simp; omega), sword_eq h h.n _ k (by simp; omega) (by simp; omega)]
    simp
  · rw [if_pos (by simp [h1]), if_neg h1]
    have h := sterm_run l r hl 8 k (Nat.le_refl _) (by omega)
    rw [Nat.sub_self, List.take_zero] at h
    exact h
end Go.Proofs.YtijldedhcjkhiaaDoor.Pure
