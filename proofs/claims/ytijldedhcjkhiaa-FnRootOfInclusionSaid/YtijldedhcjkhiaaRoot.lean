/-
  The root that an audit path leads to (RFC 6962), and chains of hashes: the same.
-/
import Derived.Test.YtijldedhcjkhiaaSpecHash
import Derived.Test.YtijldedhcjkhiaaPathX
import Derived.Test.YtijldedhcjkhiaaX12
namespace Go.Proofs.Ytijldedhcjkhiaa.Pure
open Go.RowKit Go.Proofs.YtijldedhcjkhiaaW.PrintWords Go.Proofs.YtijldedhcjkhiaaW.PrintLast Go.Proofs.YtijldedhcjkhiaaW.PrintMore X Go.Proofs.YtijldedhcjkhiaaM
set_option linter.unusedVariables false
set_option linter.unusedSimpArgs false

theorem chain_congr (f : List Int → List Int → List Int) (a b : Nat) (l : List (List Int)) : ∀ (i : Nat) (s : List Int), (∀ j, i ≤ j → j < i + l.length → a.testBit j = b.testBit j) → chain f a i s l = chain f b i s l := by
  induction l with
  | nil => intro i s _; rfl
  | cons x l ih =>
    intro i s h
    rw [List.length_cons] at h
    show chain f a (i + 1) _ l = chain f b (i + 1) _ l
    rw [h i (Nat.le_refl _) (by omega)]
    exact ih (i + 1) _ (fun j h1 h2 => h j (by omega) (by omega))
theorem chain_border (f : List Int → List Int → List Int) (a : Nat) (l : List (List Int)) : ∀ (i : Nat) (s : List Int), (∀ j, i ≤ j → j < i + l.length → a.testBit j = true) → chain f a i s l = border f s l := by
  induction l with
  | nil => intro i s _; rfl
  | cons x l ih =>
    intro i s h
    rw [List.length_cons] at h
    show chain f a (i + 1) _ l = border f (f x s) l
    rw [h i (Nat.le_refl _) (by omega), if_pos rfl]
    exact ih (i + 1) _ (fun j h1 h2 => h j (by omega) (by omega))
theorem full_ones (d i j : Nat) (hd : d ≤ 64) (hi : i < 2 ^ d) (h1 : inn i (2 ^ d) ≤ j) (h2 : j < d) : i.testBit j = true := by
  have hx : i ^^^ (2 ^ d - 1) < 2 ^ j := by
    have hp := two_pow_pos d
    have hx64 : i ^^^ (2 ^ d - 1) < 18446744073709551616 := by
      rw [← pow64]
      exact Nat.lt_of_lt_of_le (Nat.xor_lt_two_pow hi (by omega)) (pow_mono hd)
    exact (bitLen_iff _ j hx64).2 h1
  have hb := Nat.testBit_lt_two_pow hx
  rw [Nat.testBit_xor, Nat.testBit_two_pow_sub_one] at hb
  simp [h2] at hb
  exact hb
theorem border_one (f : List Int → List Int → List Int) (s x : List Int) : border f s [x] = f x s := rfl
theorem take_snoc {α : Type} (p : List α) (x : α) (n : Nat) (h : n ≤ p.length) : (p ++ [x]).take n = p.take n := List.take_append_of_le_length h
theorem drop_snoc {α : Type} (p : List α) (x : α) (n : Nat) (h : n ≤ p.length) : (p ++ [x]).drop n = p.drop n ++ [x] := List.drop_append_of_le_length h

/-- What an audit path leads to. -/
def up (h : Hs) (i m : Nat) (leaf : List Int) (path : List (List Int)) : List Int := border (H h) (chain (H h) i 0 leaf (path.take (inn i m))) (path.drop (inn i m))

set_option maxHeartbeats 1000000 in
theorem root_in (h : Hs) (leaf : List Int) (hleaf : leaf.length ≤ 5000) (m : Nat) : ∀ (i b k : Nat) (path : List (List Int)), i < m → b + m < 18446744073709551616 → path.length = inn i m + bor i m → (∀ x ∈ path, x.length ≤ 5000) → 30000100 + path.length ≤ k →
    spec_rootIn.f k h.k h.s h.b h.e h.l h.n ((b + i : Nat) : Int) (b : Int) ((b + m : Nat) : Int) leaf path = some (up h i m leaf path) ∧ (up h i m leaf path).length ≤ 5000 + path.length * 6000 := by
  induction m using Nat.strongRecOn with
  | _ m ih =>
    intro i b k path hi hb hp hx hk
    obtain ⟨k, rfl⟩ : ∃ m, k = m + 1 := ⟨k - 1, by omega⟩
    have hinn := inn_le i m 64 hi (by rw [pow64]; omega) (Nat.le_refl _)
    have hbor : bor i m ≤ 64 := pop_le _ _
    simp only [spec_rootIn.f]
    have hsub : IntKind.u64.wrap (((b + m : Nat) : Int) - (b : Int)) = (m : Int) := by rw [u64_sub _ _ (by omega) hb]; congr 1; omega
    rw [hsub]
    by_cases h1 : m = 1
    · subst h1
      obtain rfl : i = 0 := by omega
      rw [inn_one, bor_one] at hp
      obtain rfl : path = [] := List.eq_nil_of_length_eq_zero (by omega)
      rw [if_pos (by omega)]
      refine ⟨rfl, ?_⟩
      show leaf.length ≤ _
      omega
    · obtain ⟨d, g1, g2⟩ := split_of m (by omega)
      have hd : d < 64 := len_lt (Nat.le_of_lt g1) (by rw [pow64]; omega)
      have e1 : 2 ^ (d + 1) = 2 ^ d * 2 := Nat.pow_succ ..
      have hpp := two_pow_pos d
      rw [if_neg (by omega), split_eq m d k g1 g2 (by omega) (by omega)]
      simp only [Option.bind_some]
      rw [u64_add _ _ (by omega)]
      by_cases hl : i < 2 ^ d
      · have hin := inn_left i m d hl g1 g2 hd
        have hbo := bor_left i m d hl g1 g2 hd
        have hfull := path_full d (by omega) i hl
        rcases List.eq_nil_or_concat path with rfl | ⟨p, x, rfl⟩
        · simp at hp; omega
        rw [List.concat_eq_append] at *
        rw [step_len] at hp hk ⊢
        have hpl : p.length = d := by omega
        have hxp : ∀ y ∈ p, y.length ≤ 5000 := fun y hy => hx y (by simp [hy])
        have hxx : x.length ≤ 5000 := hx x (by simp)
        obtain ⟨q1, q2⟩ := ih (2 ^ d) g1 i b k p hl (by omega) (by omega) hxp (by omega)
        have ew : wrap64 (((p.length + 1 : Nat) : Int) - 1) = (p.length : Int) := by rw [wrap64_of (by omega) (by omega)]; omega
        have et : (p ++ [x]).take ((p.length : Int)).toNat = p := by rw [Int.toNat_natCast]; exact List.take_left' rfl
        have er := rdL_mid p [] x
        rw [if_pos (by omega), ew, if_pos (by omega), if_pos (by omega), et, q1]
        simp only [Option.bind_some]
        have eu : up h i (2 ^ d) leaf p = chain (H h) i 0 leaf p := by
          unfold up
          have hle : inn i (2 ^ d) ≤ p.length := by omega
          have ha := chain_append (H h) i (p.take (inn i (2 ^ d))) (p.drop (inn i (2 ^ d))) 0 leaf
          rw [List.take_append_drop, List.length_take, Nat.min_eq_left hle, Nat.zero_add] at ha
          rw [ha]
          refine (chain_border (H h) i _ _ _ (fun j j1 j2 => full_ones d i j (by omega) hl j1 ?_)).symm
          rw [List.length_drop] at j2
          omega
        have ev : up h i m leaf (p ++ [x]) = H h (chain (H h) i 0 leaf p) x := by
          unfold up
          rw [hin, List.take_of_length_le (by rw [step_len]; omega), List.drop_eq_nil_of_le (by rw [step_len]; omega)]
          show chain (H h) i 0 leaf (p ++ [x]) = _
          rw [chain_append, Nat.zero_add, hpl]
          show (if i.testBit d then H h x _ else H h _ x) = _
          rw [Nat.testBit_lt_two_pow hl, if_neg (by simp)]
        rw [eu] at q2 ⊢
        have hpb : p.length * 6000 ≤ 128 * 6000 := Nat.mul_le_mul_right _ (by omega)
        rw [if_pos (by omega), er, shash_eq h _ x k (by omega) (by omega), ev]
        refine ⟨rfl, ?_⟩
        have hH := H_length h (chain (H h) i 0 leaf p) x
        omega
      · have hin := inn_right i m d (by omega) hi g1 g2
        have hbo := bor_right i m d (by omega) hi g1 g2 hd
        have hle := inn_le (i - 2 ^ d) (m - 2 ^ d) d (by omega) (by omega) (by omega)
        rcases List.eq_nil_or_concat path with rfl | ⟨p, x, rfl⟩
        · simp at hp; omega
        rw [List.concat_eq_append] at *
        rw [step_len] at hp hk ⊢
        have hpl : p.length = inn (i - 2 ^ d) (m - 2 ^ d) + bor (i - 2 ^ d) (m - 2 ^ d) := by omega
        have hxp : ∀ y ∈ p, y.length ≤ 5000 := fun y hy => hx y (by simp [hy])
        have hxx : x.length ≤ 5000 := hx x (by simp)
        obtain ⟨q1, q2⟩ := ih (m - 2 ^ d) (by omega) (i - 2 ^ d) (b + 2 ^ d) k p (by omega) (by omega) hpl hxp (by omega)
        rw [show b + 2 ^ d + (i - 2 ^ d) = b + i by omega, show b + 2 ^ d + (m - 2 ^ d) = b + m by omega] at q1
        have ew : wrap64 (((p.length + 1 : Nat) : Int) - 1) = (p.length : Int) := by rw [wrap64_of (by omega) (by omega)]; omega
        have et : (p ++ [x]).take ((p.length : Int)).toNat = p := by rw [Int.toNat_natCast]; exact List.take_left' rfl
        have er := rdL_mid p [] x
        rw [if_neg (by omega), ew, if_pos (by omega), if_pos (by omega), if_pos (by omega), et, q1]
        simp only [Option.bind_some]
        have ev : up h i m leaf (p ++ [x]) = H h x (up h (i - 2 ^ d) (m - 2 ^ d) leaf p) := by
          have ec : chain (H h) i 0 leaf (p.take (inn (i - 2 ^ d) (m - 2 ^ d))) = chain (H h) (i - 2 ^ d) 0 leaf (p.take (inn (i - 2 ^ d) (m - 2 ^ d))) := by
            refine chain_congr _ _ _ _ _ _ (fun j j1 j2 => ?_)
            rw [List.length_take] at j2
            have e3 : i = 2 ^ d + (i - 2 ^ d) := by omega
            conv => lhs; rw [e3]
            exact Nat.testBit_two_pow_add_gt (by omega) _
          unfold up
          rw [hin, take_snoc _ _ _ (by omega), drop_snoc _ _ _ (by omega), border_append, border_one, ec]
        have hpb : p.length * 6000 ≤ 128 * 6000 := Nat.mul_le_mul_right _ (by omega)
        rw [er, shash_eq h x _ k (by omega) (by omega), ev]
        refine ⟨rfl, ?_⟩
        have hH := H_length h x (up h (i - 2 ^ d) (m - 2 ^ d) leaf p)
        omega
theorem root_from_path (h : Hs) (leaf : List Int) (hleaf : leaf.length ≤ 5000) (i m k : Nat) (path : List (List Int)) (hi : i < m) (h64 : m < 18446744073709551616) (hp : path.length = inn i m + bor i m) (hx : ∀ x ∈ path, x.length ≤ 5000) (hk : 30001000 < k) :
    spec_RootFromPath.f k h.k h.s h.b h.e h.l h.n (i : Int) (m : Int) leaf path = some (up h i m leaf path) := by
  have hinn := inn_le i m 64 hi (by rw [pow64]; omega) (Nat.le_refl _)
  have hbor : bor i m ≤ 64 := pop_le _ _
  obtain ⟨q, _⟩ := root_in h leaf hleaf m i 0 k path hi (by omega) hp hx (by omega)
  rw [Nat.zero_add, Nat.zero_add, show ((0 : Nat) : Int) = 0 from rfl] at q
  unfold spec_RootFromPath.f
  rw [q]
  rfl
end Go.Proofs.Ytijldedhcjkhiaa.Pure
