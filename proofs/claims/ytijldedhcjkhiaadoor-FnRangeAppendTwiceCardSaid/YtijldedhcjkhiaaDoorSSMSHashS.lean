import Derived.Test.YtijldedhcjkhiaaDoorSSMSSh
import Derived.Test.YtijldedhcjkhiaaDoorSSS7
import Derived.Test.YtijldedhcjkhiaaDoorSSS2
namespace Go.Proofs.YtijldedhcjkhiaaDoor.Pure
open Go.RowKit Go.Proofs.YtijldedhcjkhiaaDoorW.PrintWords Go.Proofs.YtijldedhcjkhiaaDoorW.PrintLast Go.Proofs.YtijldedhcjkhiaaDoorW.PrintMore S Go.Proofs.YtijldedhcjkhiaaDoorM
set_option linter.unusedVariables false
set_option linter.unusedSimpArgs false
theorem rd_mid (pre suf : List Int) (x : Int) : rd (pre ++ x :: suf) (pre.length : Int) = x := by
  simp [rd, List.getD_eq_getElem?_getD]
theorem step_len {α : Type} (pre : List α) (x : α) : (pre ++ [x]).length = pre.length + 1 := by simp
theorem wrap64_succ {i : Int} (h0 : 0 ≤ i) (h : i < 9000000000000000000) : wrap64 (i + 1) = i + 1 := by
  unfold wrap64
  omega
theorem wrap64_of {i : Int} (h0 : -9000000000000000000 ≤ i) (h : i < 9000000000000000000) : wrap64 i = i := by
  unfold wrap64
  omega
def mixF (w : Int) (l : List Int) : Int := l.foldl (fun w b => IntKind.u64.wrap (Go.bits .xor .u64 w (IntKind.u64.wrap b) * 1099511628211)) w
def wlen (n : Int) : Nat := if n < 1 then 8 else if n > 8 then 8 else n.toNat
theorem wlen_pos (n : Int) : 1 ≤ wlen n ∧ wlen n ≤ 8 := by
  unfold wlen
  split
  · omega
  · split <;> omega
def wordL (w : Int) (m : Nat) : List Int := (List.range m).map fun j => (shr .u64 w ((8 * (m - 1 - j) : Nat) : Int)) % 256
theorem wordL_length (w : Int) (m : Nat) : (wordL w m).length = m := by simp [wordL]
theorem wordL_drop (w : Int) (m d : Nat) (h : d < m) : (wordL w m).drop d = ((shr .u64 w ((8 * (m - 1 - d) : Nat) : Int)) % 256) :: (wordL w m).drop (d + 1) := by
  have hl : d < (wordL w m).length := by rw [wordL_length]; exact h
  rw [List.drop_eq_getElem_cons hl]
  simp [wordL]
theorem mixed_run (suf : List Int) : ∀ (pre : List Int) (w : Int) (k : Nat), (pre ++ suf).length < 1000000000000 → suf.length < k →
    impl_mixed.l0 k w (pre ++ suf) ((pre ++ suf).length : Int) (pre.length : Int) = some (mixF w suf) := by
  induction suf with
  | nil =>
    intro pre w k hl hk
    obtain ⟨k, rfl⟩ : ∃ m, k = m + 1 := ⟨k - 1, by omega⟩
    simp only [impl_mixed.l0]
    rw [if_neg (by simp)]
    rfl
  | cons x suf ih =>
    intro pre w k hl hk
    obtain ⟨k, rfl⟩ : ∃ m, k = m + 1 := ⟨k - 1, by omega⟩
    have hlen : (pre ++ x :: suf).length = pre.length + suf.length + 1 := by simp; omega
    rw [List.length_cons] at hk
    simp only [impl_mixed.l0]
    rw [if_pos (by rw [hlen]; omega), if_pos (by omega), if_pos (by rw [hlen]; omega), rd_mid, wrap64_succ (by omega) (by rw [hlen] at hl; omega)]
    have h := ih (pre ++ [x]) (IntKind.u64.wrap (Go.bits .xor .u64 w (IntKind.u64.wrap x) * 1099511628211)) k (by simpa using hl) (by omega)
    rw [List.append_assoc, List.singleton_append, step_len] at h
    rw [show ((pre.length : Int) + 1) = ((pre.length + 1 : Nat) : Int) by omega]
    exact h
theorem mixed_eq (w : Int) (l : List Int) (k : Nat) (hl : l.length < 1000000000000) (hk : l.length < k) : impl_mixed.f k w l = some (mixF w l) := mixed_run l [] w k hl hk
theorem word_run (w : Int) (m : Nat) (hm : m ≤ 8) : ∀ (d i k : Nat), i + d = m → d < k →
    impl_word.l0 k w (m : Int) (List.replicate d 0 ++ (wordL w m).drop d) (m : Int) (i : Int) = some (wordL w m) := by
  intro d
  induction d with
  | zero =>
    intro i k hi hk
    obtain ⟨k, rfl⟩ : ∃ m, k = m + 1 := ⟨k - 1, by omega⟩
    simp only [impl_word.l0]
    rw [if_neg (by omega)]
    simp
  | succ d ih =>
    intro i k hi hk
    obtain ⟨k, rfl⟩ : ∃ m, k = m + 1 := ⟨k - 1, by omega⟩
    have e1 : wrap64 (8 * (i : Int)) = ((8 * i : Nat) : Int) := by rw [wrap64_of (by omega) (by omega)]; omega
    have e2 : wrap64 (wrap64 ((m : Int) - 1) - (i : Int)) = (d : Int) := by rw [wrap64_of (i := (m : Int) - 1) (by omega) (by omega), wrap64_of (by omega) (by omega)]; omega
    simp only [impl_word.l0]
    rw [e1, e2, if_pos (by omega), if_pos (by omega), if_pos (by omega), if_pos (by rw [List.length_append, List.length_replicate, List.length_drop, wordL_length]; omega), wrap64_succ (by omega) (by omega)]
    have h := ih (i + 1) k (by omega) (by omega)
    rw [show ((i : Int) + 1) = ((i + 1 : Nat) : Int) by omega, Int.toNat_natCast, List.replicate_succ', List.append_assoc, List.set_append_right _ _ (by simp)]
    rw [List.length_replicate, Nat.sub_self, List.singleton_append, List.set_cons_zero]
    rw [wordL_drop w m d (by omega), show m - 1 - d = i by omega] at h
    exact h
theorem word_eq (w n : Int) (k : Nat) (hk : 20 < k) : impl_word.f k w n = some (wordL w (wlen n)) := by
  obtain ⟨k, rfl⟩ : ∃ m, k = m + 2 := ⟨k - 2, by omega⟩
  have key : ∀ m : Nat, 1 ≤ m → m ≤ 8 → impl_word.j1 (k + 1) w (m : Int) = some (wordL w m) := by
    intro m h1 h8
    simp only [impl_word.j1]
    rw [if_pos (by omega), if_pos (by omega)]
    simp only [Option.bind_some, Int.toNat_natCast, List.length_replicate]
    have h := word_run w m h8 m 0 k (by omega) (by omega)
    rw [List.drop_eq_nil_of_le (by rw [wordL_length]; omega), List.append_nil] at h
    exact h
  unfold impl_word.f wlen
  by_cases h1 : n < 1
  · rw [if_pos h1, if_pos h1]
    simp only [impl_word.j0, if_true]
    exact key 8 (by omega) (by omega)
  · rw [if_neg h1, if_neg h1]
    by_cases h8 : n > 8
    · rw [if_pos h8]
      simp only [impl_word.j0, h8, decide_true, if_true]
      exact key 8 (by omega) (by omega)
    · rw [if_neg h8]
      simp only [impl_word.j0, h8, decide_false]
      have h := key n.toNat (by omega) (by omega)
      rw [show ((n.toNat : Nat) : Int) = n by omega] at h
      exact h
structure Hs where
  k : Int
  s : Int
  b : Int
  e : Int
  l : Int
  n : Int
def H (h : Hs) (l r : List Int) : List Int :=
  if h.k = 1 then wordL (mixF h.n (l ++ 255 :: r)) (wlen h.b) else 1 :: (wordL (l.length : Int) 8 ++ (l ++ r))
theorem H_length (h : Hs) (l r : List Int) : (H h l r).length ≤ 9 + l.length + r.length := by
  unfold H
  split
  · rw [wordL_length]
    have := (wlen_pos h.b).2
    omega
  · simp [wordL_length]
    omega
theorem mixF_append (w : Int) (l m : List Int) : mixF w (l ++ m) = mixF (mixF w l) m := by simp [mixF, List.foldl_append]
theorem hash_eq (h : Hs) (l r : List Int) (k : Nat) (hl : l.length + r.length < 100000000000) (hk : l.length + r.length + 30 < k) : impl_toy_HashChildren.f k h.k h.s h.b h.e h.l h.n l r = some (H h l r) := by
  unfold impl_toy_HashChildren.f H
  by_cases h1 : h.k = 1
  · rw [if_pos h1, if_pos h1, mixed_eq _ l k (by omega) (by omega)]
    simp only [Option.bind_some]
    rw [mixed_eq _ [255] k (by simp) (by simp; omega)]
    simp only [Option.bind_some]
    rw [mixed_eq _ r k (by omega) (by omega)]
    simp only [Option.bind_some]
    rw [word_eq _ _ k (by omega)]
    simp only [Option.bind_some]
    rw [show l ++ 255 :: r = (l ++ [255]) ++ r by simp, mixF_append, mixF_append]
  · rw [if_neg h1, if_neg h1]
    have e : IntKind.u64.wrap (l.length : Int) = (l.length : Int) := u64_small _ (by omega)
    simp only [Option.bind_some]
    rw [word_eq _ _ k (by omega), e, show wlen 8 = 8 from rfl]
    simp only [Option.bind_some]
    rw [if_pos (by rw [wordL_length]; simp), if_pos (by simp [wordL_length]; omega), if_pos (by simp [wordL_length]; omega)]
    simp
theorem rdL_mid (pre suf : List (List Int)) (x : List Int) : rd_L1 (pre ++ x :: suf) (pre.length : Int) = x := by
  simp [rd_L1, List.getD_eq_getElem?_getD]
theorem texts_run (suf : List (List Int)) : ∀ (pre : List (List Int)) (k : Nat), (pre ++ suf).length < 1000000000000 → (∀ x ∈ pre ++ suf, x.length < 100000000000) → suf.length < k →
    impl_texts.l0 k pre (pre ++ suf) ((pre ++ suf).length : Int) (pre.length : Int) = some (pre ++ suf) := by
  induction suf with
  | nil =>
    intro pre k hl hx hk
    obtain ⟨k, rfl⟩ : ∃ m, k = m + 1 := ⟨k - 1, by omega⟩
    simp only [impl_texts.l0]
    rw [if_neg (by simp)]
    simp
  | cons x suf ih =>
    intro pre k hl hx hk
    obtain ⟨k, rfl⟩ : ∃ m, k = m + 1 := ⟨k - 1, by omega⟩
    have hlen : (pre ++ x :: suf).length = pre.length + suf.length + 1 := by simp; omega
    rw [List.length_cons] at hk
    have hxl := hx x (by simp)
    simp only [impl_texts.l0]
    rw [if_pos (by rw [hlen]; omega), if_pos (by omega), if_pos (by rw [hlen]; omega), rdL_mid]
    simp only [Option.bind_some, List.nil_append, List.length_nil, Nat.zero_add]
    rw [if_pos (by omega), if_pos (by rw [hlen] at hl; omega), wrap64_succ (by omega) (by rw [hlen] at hl; omega)]
    have h := ih (pre ++ [x]) k (by simpa using hl) (by simpa using hx) (by omega)
    rw [List.append_assoc, List.singleton_append, step_len] at h
    rw [show ((pre.length : Int) + 1) = ((pre.length + 1 : Nat) : Int) by omega]
    exact h
theorem texts_eq (l : List (List Int)) (k : Nat) (hl : l.length < 1000000000000) (hx : ∀ x ∈ l, x.length < 100000000000) (hk : l.length < k) : impl_texts.f k l = some l := texts_run l [] k hl hx hk
theorem small_run (suf : List (List Int)) : ∀ (pre : List (List Int)) (k : Nat), (pre ++ suf).length < 1000000000000000000 → suf.length < k →
    ∃ b, laws_logSmall.l0 k (pre ++ suf) (pre ++ suf) ((pre ++ suf).length : Int) (pre.length : Int) = some b ∧ (b = true → (∀ x ∈ suf, x.length ≤ 5000) ∧ (pre ++ suf).length ≤ 300) := by
  induction suf with
  | nil =>
    intro pre k hl hk
    obtain ⟨k, rfl⟩ : ∃ m, k = m + 1 := ⟨k - 1, by omega⟩
    refine ⟨_, by simp only [laws_logSmall.l0]; rw [if_neg (by simp)], fun h => ⟨by simp, ?_⟩⟩
    have := of_decide_eq_true h
    omega
  | cons x suf ih =>
    intro pre k hl hk
    obtain ⟨k, rfl⟩ : ∃ m, k = m + 1 := ⟨k - 1, by omega⟩
    have hlen : (pre ++ x :: suf).length = pre.length + suf.length + 1 := by simp; omega
    rw [List.length_cons] at hk
    simp only [laws_logSmall.l0]
    rw [if_pos (by rw [hlen]; omega), if_pos (by omega), if_pos (by rw [hlen]; omega), rdL_mid]
    by_cases hx : (x.length : Int) > 5000
    · exact ⟨false, by rw [if_pos hx], fun h => by cases h⟩
    · rw [if_neg hx, wrap64_succ (by omega) (by rw [hlen] at hl; omega)]
      obtain ⟨b, hb, hp⟩ := ih (pre ++ [x]) k (by simpa using hl) (by omega)
      rw [List.append_assoc, List.singleton_append, step_len] at hb
      rw [List.append_assoc, List.singleton_append] at hp
      rw [show ((pre.length : Int) + 1) = ((pre.length + 1 : Nat) : Int) by omega]
      refine ⟨b, hb, fun h => ⟨fun y hy => ?_, (hp h).2⟩⟩
      rcases List.mem_cons.1 hy with rfl | hy
      · omega
      · exact (hp h).1 y hy
theorem small_eq (l : List (List Int)) (k : Nat) (hl : l.length < 1000000000000000000) (hk : l.length < k) : ∃ b, laws_logSmall.f k l = some b ∧ (b = true → (∀ x ∈ l, x.length ≤ 5000) ∧ l.length ≤ 300) := small_run l [] k hl hk
theorem fits_run (suf : List (List Int)) : ∀ (pre : List (List Int)) (k : Nat), (pre ++ suf).length < 1000000000000000000 → suf.length < k →
    ∃ b, laws_zzFits2.l0 k (pre ++ suf) ((pre ++ suf).length : Int) (pre.length : Int) = some b ∧ (b = true → ∀ x ∈ suf, x.length ≤ 2147483647) := by
  induction suf with
  | nil =>
    intro pre k hl hk
    obtain ⟨k, rfl⟩ : ∃ m, k = m + 1 := ⟨k - 1, by omega⟩
    exact ⟨_, by simp only [laws_zzFits2.l0]; rw [if_neg (by simp)], fun h => by simp⟩
  | cons x suf ih =>
    intro pre k hl hk
    obtain ⟨k, rfl⟩ : ∃ m, k = m + 1 := ⟨k - 1, by omega⟩
    have hlen : (pre ++ x :: suf).length = pre.length + suf.length + 1 := by simp; omega
    rw [List.length_cons] at hk
    simp only [laws_zzFits2.l0]
    rw [if_pos (by rw [hlen]; omega), if_pos (by omega), if_pos (by rw [hlen]; omega), rdL_mid]
    by_cases hx : (x.length : Int) > 2147483647
    · exact ⟨false, by rw [if_pos hx], fun h => by cases h⟩
    · rw [if_neg hx, wrap64_succ (by omega) (by rw [hlen] at hl; omega)]
      obtain ⟨b, hb, hp⟩ := ih (pre ++ [x]) k (by simpa using hl) (by omega)
      rw [List.append_assoc, List.singleton_append, step_len] at hb
      rw [show ((pre.length : Int) + 1) = ((pre.length + 1 : Nat) : Int) by omega]
      refine ⟨b, hb, fun h y hy => ?_⟩
      rcases List.mem_cons.1 hy with rfl | hy
      · omega
      · exact hp h y hy
theorem fits_eq (l : List (List Int)) (k : Nat) (hk : l.length < k) : ∃ b, laws_zzFits2.f k l = some b ∧ (b = true → l.length ≤ 2147483647 ∧ ∀ x ∈ l, x.length ≤ 2147483647) := by
  unfold laws_zzFits2.f
  by_cases h : (l.length : Int) > 2147483647
  · exact ⟨false, by rw [if_pos h], fun h => by cases h⟩
  · rw [if_neg h]
    obtain ⟨b, hb, hp⟩ := fits_run l [] k (by rw [List.nil_append]; omega) hk
    exact ⟨b, hb, fun hh => ⟨by omega, hp hh⟩⟩
end Go.Proofs.YtijldedhcjkhiaaDoor.Pure
