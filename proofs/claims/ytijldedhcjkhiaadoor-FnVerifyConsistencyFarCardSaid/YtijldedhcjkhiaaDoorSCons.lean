import Derived.Test.YtijldedhcjkhiaaDoorSSplit
import Derived.Test.YtijldedhcjkhiaaDoorSSpecHash
import Derived.Test.YtijldedhcjkhiaaDoorSX15
namespace Go.Proofs.YtijldedhcjkhiaaDoor.Pure
open Go.RowKit Go.Proofs.YtijldedhcjkhiaaDoorW.PrintWords Go.Proofs.YtijldedhcjkhiaaDoorW.PrintLast Go.Proofs.YtijldedhcjkhiaaDoorW.PrintMore X Go.Proofs.YtijldedhcjkhiaaDoorM
theorem ctz_spec (a : Nat) (h0 : 0 < a) (h : a < 18446744073709551616) : ∃ s q, a = 2 ^ s * (2 * q + 1) ∧ s < 64 ∧ Lib.ctz 64 a = s := by
  obtain ⟨m, h1, h2⟩ := Lib.ctzFrom_spec 64 a h0 (by rw [pow64]; exact h)
  refine ⟨_, m, h1, h2, ?_⟩
  unfold Lib.ctz
  rw [if_neg (by omega)]
theorem low_of (s q : Nat) : 2 ^ s * (2 * q + 1) - 1 = 2 ^ s * (2 * q) + (2 ^ s - 1) := by
  have hp := two_pow_pos s
  rw [Nat.mul_add, Nat.mul_one]
  omega
theorem low_div (s q : Nat) : (2 ^ s * (2 * q + 1) - 1) / 2 ^ s = 2 * q := by
  have hp := two_pow_pos s
  rw [low_of, Nat.mul_add_div hp, Nat.div_eq_of_lt (by omega), Nat.add_zero]
theorem inn_ge (s q b : Nat) (h : 2 ^ s * (2 * q + 1) < b) (hb : b < 18446744073709551616) : s < inn (2 ^ s * (2 * q + 1) - 1) b := by
  have hp := two_pow_pos s
  apply Nat.lt_of_not_le
  intro hle
  have h1 := (shift_eq_iff (2 ^ s * (2 * q + 1) - 1) (b - 1) s (by omega) (by omega)).2 hle
  rw [low_div] at h1
  have h2 := Nat.div_add_mod (b - 1) (2 ^ s)
  have h3 := Nat.mod_lt (b - 1) hp
  rw [← h1] at h2
  have h4 := low_of s q
  have h5 : 0 < 2 ^ s * (2 * q + 1) := Nat.mul_pos hp (by omega)
  omega
theorem bitLen_div (x s : Nat) (hx : x < 18446744073709551616) : Lib.bitLen (x / 2 ^ s) = Lib.bitLen x - s := by
  have hp := two_pow_pos s
  have key : ∀ n, Lib.bitLen (x / 2 ^ s) ≤ n ↔ Lib.bitLen x ≤ n + s := by
    intro n
    rw [← bitLen_iff _ _ (Nat.lt_of_le_of_lt (Nat.div_le_self _ _) hx), ← bitLen_iff _ _ hx, Nat.div_lt_iff_lt_mul hp, Nat.pow_add]
  have h1 := (key (Lib.bitLen x - s)).2 (by omega)
  have h2 := (key (Lib.bitLen (x / 2 ^ s))).1 (Nat.le_refl _)
  omega
theorem two_odd (s q t : Nat) (h : 2 ^ s * (2 * q + 1) = 2 ^ t) : q = 0 ∧ s = t := by
  rcases Nat.lt_or_ge t s with hlt | hge
  · have := pow_lt hlt
    have h2 : 2 ^ s * 1 ≤ 2 ^ s * (2 * q + 1) := Nat.mul_le_mul_left _ (by omega)
    omega
  · rw [show t = s + (t - s) by omega, Nat.pow_add] at h
    have h2 := Nat.eq_of_mul_eq_mul_left (two_pow_pos s) h
    rcases Nat.eq_zero_or_pos (t - s) with h0 | h0
    · rw [h0] at h2
      omega
    · rw [show t - s = (t - s - 1) + 1 by omega, Nat.pow_succ] at h2
      omega
theorem in_len (m : Nat) : ∀ (s q B k : Nat) (w : Bool), (2 ^ s * (2 * q + 1) < m ∨ 2 ^ s * (2 * q + 1) = m ∧ ∃ t, m = 2 ^ t) → B + m < 18446744073709551616 → 66 + (inn (2 ^ s * (2 * q + 1) - 1) m + bor (2 ^ s * (2 * q + 1) - 1) m) ≤ k →
    ∃ L, spec_proofIn.f k ((B + 2 ^ s * (2 * q + 1) : Nat) : Int) (B : Int) ((B + m : Nat) : Int) w = some L ∧ L.length + s = (if w = true ∧ q = 0 then 0 else 1) + (inn (2 ^ s * (2 * q + 1) - 1) m + bor (2 ^ s * (2 * q + 1) - 1) m) := by
  induction m using Nat.strongRecOn with
  | _ m ih =>
    intro s q B k w hm hb hk
    obtain ⟨k, rfl⟩ : ∃ m, k = m + 1 := ⟨k - 1, by omega⟩
    have hps := two_pow_pos s
    have hap : 0 < 2 ^ s * (2 * q + 1) := Nat.mul_pos hps (by omega)
    simp only [spec_proofIn.f]
    by_cases h1 : 2 ^ s * (2 * q + 1) = m
    · have ⟨t, ht⟩ : ∃ t, m = 2 ^ t := by
        rcases hm with h | h
        · omega
        · exact h.2
      obtain ⟨rfl, rfl⟩ := two_odd s q t (by rw [h1, ht])
      rw [if_pos (by rw [h1])]
      have hf : inn (2 ^ s * (2 * 0 + 1) - 1) m + bor (2 ^ s * (2 * 0 + 1) - 1) m = s := by
        rw [ht]
        have h64 : s ≤ 64 := by
          have := len_lt (d := s) (x := 2 ^ s) (n := 64) (Nat.le_refl _) (by rw [pow64]; omega)
          omega
        exact path_full s h64 _ (by omega)
      cases w with
      | true => exact ⟨[], rfl, by rw [hf]; simp⟩
      | false => exact ⟨_, rfl, by rw [hf]; simp⟩
    · have hlt : 2 ^ s * (2 * q + 1) < m := by
        rcases hm with h | h
        · exact h
        · omega
      have hsub : IntKind.u64.wrap (((B + m : Nat) : Int) - (B : Int)) = (m : Int) := by rw [u64_sub _ _ (by omega) hb]; congr 1; omega
      obtain ⟨d, g1, g2⟩ := split_of m (by omega)
      have hd : d < 64 := len_lt (Nat.le_of_lt g1) (by rw [pow64]; omega)
      have e1 : 2 ^ (d + 1) = 2 ^ d * 2 := Nat.pow_succ ..
      have hp := two_pow_pos d
      rw [if_neg (by omega), hsub, split_eq m d k g1 g2 (by omega) (by omega)]
      simp only [Option.bind_some]
      rw [u64_add _ _ (by omega)]
      generalize ha : 2 ^ s * (2 * q + 1) = a at *
      by_cases hl : a ≤ 2 ^ d
      · have hin := inn_left (a - 1) m d (by omega) g1 g2 hd
        have hbo := bor_left (a - 1) m d (by omega) g1 g2 hd
        have hfull := path_full d (by omega) (a - 1) (by omega)
        obtain ⟨L, hL, hlen⟩ := ih (2 ^ d) g1 s q B k w (by rw [ha]; rcases Nat.lt_or_ge a (2 ^ d) with h | h; exact .inl h; exact .inr ⟨by omega, d, rfl⟩) (by omega) (by rw [ha]; omega)
        rw [ha] at hL hlen
        have hif : (if w = true ∧ q = 0 then 0 else 1) ≤ 1 := by split <;> omega
        rw [if_pos (by omega), hL]
        simp only [Option.bind_some]
        rw [if_pos (by simp; omega)]
        exact ⟨_, rfl, by rw [List.length_append, List.length_singleton]; omega⟩
      · have hsd : s < d := by
          apply Nat.lt_of_not_le
          intro hge
          have h3 : 2 ^ s = 2 ^ (s - d) * 2 ^ d := pow_split hge
          have h4 : a = 2 ^ d * (2 ^ (s - d) * (2 * q + 1)) := by rw [← ha, h3, Nat.mul_comm (2 ^ (s - d)), Nat.mul_assoc]
          generalize 2 ^ (s - d) * (2 * q + 1) = z at h4
          rcases Nat.lt_or_ge z 2 with hz | hz
          · have : 2 ^ d * z ≤ 2 ^ d * 1 := Nat.mul_le_mul_left _ (by omega)
            omega
          · have : 2 ^ d * 2 ≤ 2 ^ d * z := Nat.mul_le_mul_left _ hz
            omega
        have hq : q ≠ 0 := by
          intro h0
          subst h0
          have := pow_mono (m := s) (n := d) (by omega)
          omega
        have hdp : 2 ^ d = 2 ^ s * (2 * 2 ^ (d - s - 1)) := by
          rw [← Nat.pow_succ', ← Nat.pow_add]
          congr 1
          omega
        have hq2 : 2 ^ (d - s - 1) ≤ q := by
          apply Nat.le_of_not_lt
          intro hlt2
          have : 2 ^ s * (2 * q + 1) ≤ 2 ^ s * (2 * 2 ^ (d - s - 1)) := Nat.mul_le_mul_left _ (by omega)
          omega
        have ha2 : 2 ^ s * (2 * (q - 2 ^ (d - s - 1)) + 1) = a - 2 ^ d := by
          rw [← ha, hdp, ← Nat.mul_sub]
          congr 1
          omega
        have hin := inn_right (a - 1) m d (by omega) (by omega) g1 g2
        have hbo := bor_right (a - 1) m d (by omega) (by omega) g1 g2 hd
        have hle := inn_le (a - 1 - 2 ^ d) (m - 2 ^ d) 64 (by omega) (by rw [pow64]; omega) (Nat.le_refl _)
        have hle2 : bor (a - 1 - 2 ^ d) (m - 2 ^ d) ≤ 64 := pop_le _ _
        have hs1 : a - 2 ^ d - 1 = a - 1 - 2 ^ d := by omega
        obtain ⟨L, hL, hlen⟩ := ih (m - 2 ^ d) (by omega) s (q - 2 ^ (d - s - 1)) (B + 2 ^ d) k false (by rw [ha2]; exact .inl (by omega)) (by omega) (by rw [ha2, hs1]; omega)
        rw [ha2, show B + 2 ^ d + (a - 2 ^ d) = B + a by omega, show B + 2 ^ d + (m - 2 ^ d) = B + m by omega] at hL
        rw [ha2, hs1, if_neg (by simp)] at hlen
        rw [if_neg (by omega), hL]
        simp only [Option.bind_some]
        rw [if_pos (by rw [List.length_singleton]; omega)]
        refine ⟨_, rfl, ?_⟩
        rw [if_neg (by intro hh; exact hq hh.2), List.length_append, List.length_singleton]
        omega
theorem proofParts_len (s q b k : Nat) (hm : 2 ^ s * (2 * q + 1) < b) (hb : b < 18446744073709551616) (hk : 200 ≤ k) :
    ∃ L, spec_ProofParts.f k ((2 ^ s * (2 * q + 1) : Nat) : Int) (b : Int) = some L ∧ L.length + s = (if q = 0 then 0 else 1) + (inn (2 ^ s * (2 * q + 1) - 1) b + bor (2 ^ s * (2 * q + 1) - 1) b) := by
  have hap : 0 < 2 ^ s * (2 * q + 1) := Nat.mul_pos (two_pow_pos s) (by omega)
  have hle := inn_le (2 ^ s * (2 * q + 1) - 1) b 64 (by omega) (by rw [pow64]; omega) (Nat.le_refl _)
  have hle2 : bor (2 ^ s * (2 * q + 1) - 1) b ≤ 64 := pop_le _ _
  obtain ⟨L, hL, hlen⟩ := in_len b s q 0 k true (.inl hm) (by omega) (by omega)
  rw [Nat.zero_add, Nat.zero_add, show ((0 : Nat) : Int) = 0 from rfl] at hL
  refine ⟨L, ?_, by simpa using hlen⟩
  unfold spec_ProofParts.f
  rw [hL]
  rfl
theorem inner_loop (x y : Nat) (hx : x < 18446744073709551616) (hy : y < 18446744073709551616) (f : Nat) : ∀ j k, j + f = Lib.bitLen (x ^^^ y) → f < k → spec_Inner.l0 k (x : Int) ((y : Int) + 1) (j : Int) = some ((Lib.bitLen (x ^^^ y) : Nat) : Int) := by
  have hmax : Lib.bitLen (x ^^^ y) ≤ 64 := (bitLen_iff _ _ (xor_lt64 hx hy)).1 (by rw [pow64]; exact xor_lt64 hx hy)
  induction f with
  | zero =>
    intro j k hj hk
    obtain ⟨k, rfl⟩ : ∃ m, k = m + 1 := ⟨k - 1, by omega⟩
    simp only [spec_Inner.l0]
    rw [if_pos (by omega), show (y : Int) + 1 - 1 = (y : Int) by omega, u64_small _ hy, shr_nat x j (by omega), shr_nat y j (by omega), if_pos (by rw [(shift_eq_iff x y j hx hy).2 (by omega)]), ← hj, Nat.add_zero]
  | succ f ih =>
    intro j k hj hk
    obtain ⟨k, rfl⟩ : ∃ m, k = m + 1 := ⟨k - 1, by omega⟩
    simp only [spec_Inner.l0]
    rw [if_pos (by omega), show (y : Int) + 1 - 1 = (y : Int) by omega, u64_small _ hy, shr_nat x j (by omega), shr_nat y j (by omega), if_neg (by intro hh; have := (shift_eq_iff x y j hx hy).1 (by omega); omega), wrap64_succ (by omega) (by omega), show ((j : Int) + 1) = ((j + 1 : Nat) : Int) by omega]
    exact ih (j + 1) k (by omega) (by omega)
theorem inner_eq (x y k : Nat) (hx : x < 18446744073709551616) (hy : y < 18446744073709551616) (hk : 70 < k) : spec_Inner.f k (x : Int) ((y : Int) + 1) = some ((Lib.bitLen (x ^^^ y) : Nat) : Int) := by
  have hmax : Lib.bitLen (x ^^^ y) ≤ 64 := (bitLen_iff _ _ (xor_lt64 hx hy)).1 (by rw [pow64]; exact xor_lt64 hx hy)
  exact inner_loop x y hx hy (Lib.bitLen (x ^^^ y)) 0 k (by omega) (by omega)
theorem chained_run (h : Hs) (idx : Nat) (hidx : idx < 18446744073709551616) (right : Bool) (suf : List (List Int)) : ∀ (pre : List (List Int)) (s : List Int) (k : Nat), (pre ++ suf).length ≤ 64 → (∀ x ∈ suf, x.length ≤ 5000) → s.length ≤ 20000000 + pre.length * 6000 → 30000000 + 2 * suf.length < k →
    spec_Chained.l0 k s (idx : Int) right (pre ++ suf) ((pre ++ suf).length : Int) (pre.length : Int) h.k h.s h.b h.e h.l h.n = some (if right then chainR (H h) idx pre.length s suf else chain (H h) idx pre.length s suf) := by
  induction suf with
  | nil =>
    intro pre s k hl hx hs hk
    obtain ⟨k, rfl⟩ : ∃ m, k = m + 1 := ⟨k - 1, by omega⟩
    simp only [spec_Chained.l0]
    rw [if_neg (by simp)]
    cases right <;> rfl
  | cons x suf ih =>
    intro pre s k hl hx hs hk
    rw [List.length_cons] at hk
    obtain ⟨k, rfl⟩ : ∃ m, k = m + 2 := ⟨k - 2, by omega⟩
    have hlen : (pre ++ x :: suf).length = pre.length + suf.length + 1 := by simp; omega
    have hxl := hx x (by simp)
    have hs2 : s.length ≤ 20400000 := by
      have : pre.length * 6000 ≤ 64 * 6000 := Nat.mul_le_mul_right _ (by omega)
      omega
    have hbt := bit_test idx pre.length hidx (by omega)
    rw [u64_small _ (by omega)] at hbt
    have next : ∀ s' : List Int, s'.length ≤ s.length + 6000 → spec_Chained.l0 k s' (idx : Int) right (pre ++ x :: suf) ((pre ++ x :: suf).length : Int) (wrap64 ((pre.length : Int) + 1)) h.k h.s h.b h.e h.l h.n = some (if right then chainR (H h) idx (pre.length + 1) s' suf else chain (H h) idx (pre.length + 1) s' suf) := by
      intro s' hs'
      have h1 := ih (pre ++ [x]) s' k (by simpa using hl) (fun y hy => hx y (by simp [hy])) (by rw [step_len]; omega) (by omega)
      rw [List.append_assoc, List.singleton_append, step_len] at h1
      rw [wrap64_succ (by omega) (by omega), show ((pre.length : Int) + 1) = ((pre.length + 1 : Nat) : Int) by omega]
      exact h1
    have h1 := H_length h x s
    have h2 := H_length h s x
    simp only [spec_Chained.l0, spec_Chained.j1]
    rw [if_pos (by rw [hlen]; omega), if_pos (by omega), if_pos (by rw [hlen]; omega), if_pos (by omega), rdL_mid, hbt]
    cases hbit : idx.testBit pre.length with
    | true =>
      rw [if_pos (by rfl), shash_eq h x s k (by omega) (by omega), Option.bind_some, next _ (by omega)]
      cases right <;> simp [chain, chainR, hbit]
    | false =>
      rw [if_neg (by simp)]
      cases right with
      | true =>
        rw [if_pos rfl, next _ (by omega)]
        simp [chainR, hbit]
      | false =>
        rw [if_neg (by simp), shash_eq h s x k (by omega) (by omega), Option.bind_some, next _ (by omega)]
        simp [chain, hbit]
theorem chained_eq (h : Hs) (idx : Nat) (hidx : idx < 18446744073709551616) (right : Bool) (l : List (List Int)) (s : List Int) (k : Nat) (hl : l.length ≤ 64) (hx : ∀ x ∈ l, x.length ≤ 5000) (hs : s.length ≤ 20000000) (hk : 30000200 < k) :
    spec_Chained.f k h.k h.s h.b h.e h.l h.n s l (idx : Int) right = some (if right then chainR (H h) idx 0 s l else chain (H h) idx 0 s l) := by
  exact chained_run h idx hidx right l [] s k (by simpa using hl) hx (by simpa using hs) (by omega)
theorem chainR_border (f : List Int → List Int → List Int) (a : Nat) (l : List (List Int)) : ∀ (i : Nat) (s : List Int), (∀ j, i ≤ j → j < i + l.length → a.testBit j = true) → chainR f a i s l = border f s l := by
  induction l with
  | nil => intro i s hj; rfl
  | cons x l ih =>
    intro i s hj
    rw [List.length_cons] at hj
    show chainR f a (i + 1) _ l = border f (f x s) l
    rw [hj i (Nat.le_refl _) (by omega), if_pos rfl]
    exact ih _ _ fun j h1 h2 => hj j (by omega) (by omega)
theorem chained_ones (h : Hs) (l : List (List Int)) (s : List Int) (k : Nat) (hl : l.length ≤ 64) (hx : ∀ x ∈ l, x.length ≤ 5000) (hs : s.length ≤ 20000000) (hk : 30000200 < k) :
    spec_Chained.f k h.k h.s h.b h.e h.l h.n s l 18446744073709551615 true = some (border (H h) s l) := by
  have h1 := chained_eq h 18446744073709551615 (by omega) true l s k hl hx hs hk
  rw [if_pos rfl, chainR_border (H h) _ l 0 s (by
    intro j _ h2
    rw [show (18446744073709551615 : Nat) = 2 ^ 64 - 1 by decide, Nat.testBit_two_pow_sub_one]
    simp
    omega)] at h1
  exact h1
end Go.Proofs.YtijldedhcjkhiaaDoor.Pure
