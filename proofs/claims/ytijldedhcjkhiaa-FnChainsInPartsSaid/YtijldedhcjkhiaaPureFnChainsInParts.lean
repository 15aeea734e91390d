/-
  The plain statement of FnChainsInParts: chaining hashes up in two goes is chaining them up in one.
-/
import Derived.Test.YtijldedhcjkhiaaHash
import Derived.Test.YtijldedhcjkhiaaX4
namespace Go.Proofs.Ytijldedhcjkhiaa.Pure
open Go.RowKit Go.Proofs.YtijldedhcjkhiaaW.PrintWords Go.Proofs.YtijldedhcjkhiaaW.PrintLast Go.Proofs.YtijldedhcjkhiaaW.PrintMore X Go.Proofs.YtijldedhcjkhiaaM
set_option linter.unusedVariables false

theorem chain_ones (f : List Int → List Int → List Int) (l : List (List Int)) : ∀ (i : Nat) (s : List Int), i + l.length ≤ 64 → chain f 18446744073709551615 i s l = border f s l := by
  induction l with
  | nil => intro i s _; rfl
  | cons x l ih =>
    intro i s h
    rw [List.length_cons] at h
    show chain f 18446744073709551615 (i + 1) _ l = border f (f x s) l
    have hb : Nat.testBit 18446744073709551615 i = true := by
      rw [show 18446744073709551615 = 2 ^ 64 - 1 by decide, Nat.testBit_two_pow_sub_one]
      exact decide_eq_true (by omega)
    rw [hb, if_pos rfl]
    exact ih (i + 1) _ (by omega)
theorem chainR_ones (f : List Int → List Int → List Int) (l : List (List Int)) : ∀ (i : Nat) (s : List Int), i + l.length ≤ 64 → chainR f 18446744073709551615 i s l = border f s l := by
  induction l with
  | nil => intro i s _; rfl
  | cons x l ih =>
    intro i s h
    rw [List.length_cons] at h
    show chainR f 18446744073709551615 (i + 1) _ l = border f (f x s) l
    have hb : Nat.testBit 18446744073709551615 i = true := by
      rw [show 18446744073709551615 = 2 ^ 64 - 1 by decide, Nat.testBit_two_pow_sub_one]
      exact decide_eq_true (by omega)
    rw [hb, if_pos rfl]
    exact ih (i + 1) _ (by omega)
theorem chainR_none (f : List Int → List Int → List Int) (l : List (List Int)) : ∀ (i : Nat) (s : List Int), chainR f 0 i s l = s := by
  induction l with
  | nil => intro i s; rfl
  | cons x l ih =>
    intro i s
    show chainR f 0 (i + 1) _ l = s
    rw [Nat.zero_testBit, if_neg (by simp)]
    exact ih (i + 1) s

theorem inner_eq (h : Hs) (s : List Int) (l : List (List Int)) (idx k : Nat) (hidx : idx < 18446744073709551616) (hs : s.length ≤ 20000000) (hl : l.length ≤ 300) (hx : ∀ x ∈ l, x.length ≤ 5000) (hk : 30001000 < k) :
    impl_ChainInner.f k h.k h.s h.b h.e h.l h.n s l (idx : Int) = some (chain (H h) idx 0 s l) ∧ (chain (H h) idx 0 s l).length ≤ s.length + l.length * 6000 := by
  obtain ⟨h1, h2⟩ := inner_run h idx hidx l [] s k (by simpa using by omega) hx (by omega) (by omega)
  refine ⟨?_, h2⟩
  unfold impl_ChainInner.f
  simp only [Option.bind_some, List.nil_append, List.length_nil, Nat.zero_add]
  rw [if_pos (by omega), texts_eq l k (by omega) (fun x hx' => by have := hx x hx'; omega) (by omega)]
  simp only [Option.bind_some]
  unfold proof_DoorInner.f proof_chainInner.f
  rw [List.nil_append] at h1
  rw [show ((([] : List (List Int)).length : Nat) : Int) = 0 from rfl] at h1
  rw [h1]
  rfl
theorem innerR_eq (h : Hs) (s : List Int) (l : List (List Int)) (idx k : Nat) (hidx : idx < 18446744073709551616) (hs : s.length ≤ 20000000) (hl : l.length ≤ 300) (hx : ∀ x ∈ l, x.length ≤ 5000) (hk : 30001000 < k) :
    impl_ChainInnerRight.f k h.k h.s h.b h.e h.l h.n s l (idx : Int) = some (chainR (H h) idx 0 s l) ∧ (chainR (H h) idx 0 s l).length ≤ s.length + l.length * 6000 := by
  obtain ⟨h1, h2⟩ := innerR_run h idx hidx l [] s k (by simpa using by omega) hx (by omega) (by omega)
  refine ⟨?_, h2⟩
  unfold impl_ChainInnerRight.f
  simp only [Option.bind_some, List.nil_append, List.length_nil, Nat.zero_add]
  rw [if_pos (by omega), texts_eq l k (by omega) (fun x hx' => by have := hx x hx'; omega) (by omega)]
  simp only [Option.bind_some]
  unfold proof_DoorInnerRight.f proof_chainInnerRight.f
  rw [List.nil_append] at h1
  rw [show ((([] : List (List Int)).length : Nat) : Int) = 0 from rfl] at h1
  rw [h1]
  rfl
theorem border_eq (h : Hs) (s : List Int) (l : List (List Int)) (k : Nat) (hs : s.length ≤ 20000000) (hl : l.length ≤ 300) (hx : ∀ x ∈ l, x.length ≤ 5000) (hk : 30001000 < k) :
    impl_ChainBorder.f k h.k h.s h.b h.e h.l h.n s l = some (border (H h) s l) ∧ (border (H h) s l).length ≤ s.length + l.length * 6000 := by
  obtain ⟨h1, h2⟩ := border_run h l [] s k (by simpa using by omega) hx (by omega) (by omega)
  refine ⟨?_, h2⟩
  unfold impl_ChainBorder.f
  simp only [Option.bind_some, List.nil_append, List.length_nil, Nat.zero_add]
  rw [if_pos (by omega), texts_eq l k (by omega) (fun x hx' => by have := hx x hx'; omega) (by omega)]
  simp only [Option.bind_some]
  unfold proof_DoorBorder.f proof_chainBorderRight.f
  rw [List.nil_append] at h1
  rw [show ((([] : List (List Int)).length : Nat) : Int) = 0 from rfl] at h1
  rw [h1]
  rfl

theorem shr_any (idx n : Nat) (hidx : idx < 18446744073709551616) (hn : n ≤ 60) : shr .u64 (idx : Int) (n : Int) = ((idx / 2 ^ n : Nat) : Int) := shr_nat idx n (by omega)

theorem parts (h : Hs) (s : List Int) (l m : List (List Int)) (idx k : Nat) (hidx : idx < 18446744073709551616) (hs : s.length ≤ 5000) (hx : ∀ x ∈ l ++ m, x.length ≤ 5000) (hl : (l ++ m).length ≤ 60) (hk : 30001100 < k) :
    laws_FnChainsInParts.j3 k s l m (idx : Int) (l ++ m) h.k h.s h.b h.e h.l h.n = some true := by
  obtain ⟨k, rfl⟩ : ∃ m, k = m + 3 := ⟨k - 3, by omega⟩
  have hlm : l.length + m.length ≤ 60 := by simpa using hl
  have hxl : ∀ x ∈ l, x.length ≤ 5000 := fun x hx' => hx x (List.mem_append_left _ hx')
  have hxm : ∀ x ∈ m, x.length ≤ 5000 := fun x hx' => hx x (List.mem_append_right _ hx')
  have hq : idx / 2 ^ l.length < 18446744073709551616 := Nat.lt_of_le_of_lt (Nat.div_le_self _ _) hidx
  have hsh := shr_any idx l.length hidx (by omega)
  have ones : (18446744073709551615 : Int) = ((18446744073709551615 : Nat) : Int) := rfl
  have zero : (0 : Int) = ((0 : Nat) : Int) := rfl
  simp only [laws_FnChainsInParts.j3]
  obtain ⟨a1, a2⟩ := inner_eq h s (l ++ m) idx (k + 2) hidx (by omega) (by omega) hx (by omega)
  obtain ⟨b1, b2⟩ := inner_eq h s l idx (k + 2) hidx (by omega) (by omega) hxl (by omega)
  obtain ⟨c1, c2⟩ := inner_eq h (chain (H h) idx 0 s l) m (idx / 2 ^ l.length) (k + 2) hq (by omega) (by omega) hxm (by omega)
  rw [a1]
  simp only [Option.bind_some]
  rw [b1]
  simp only [Option.bind_some]
  rw [hsh, c1, chain_append, chain_shift _ idx l.length m 0]
  simp only [Option.bind_some, same_refl, if_true]
  simp only [laws_FnChainsInParts.j4]
  obtain ⟨a1, a2⟩ := innerR_eq h s (l ++ m) idx (k + 1) hidx (by omega) (by omega) hx (by omega)
  obtain ⟨b1, b2⟩ := innerR_eq h s l idx (k + 1) hidx (by omega) (by omega) hxl (by omega)
  obtain ⟨c1, c2⟩ := innerR_eq h (chainR (H h) idx 0 s l) m (idx / 2 ^ l.length) (k + 1) hq (by omega) (by omega) hxm (by omega)
  rw [a1]
  simp only [Option.bind_some]
  rw [b1]
  simp only [Option.bind_some]
  rw [hsh, c1, chainR_append, chainR_shift _ idx l.length m 0]
  simp only [Option.bind_some, same_refl, if_true]
  simp only [laws_FnChainsInParts.j5]
  obtain ⟨a1, a2⟩ := border_eq h s (l ++ m) k (by omega) (by omega) hx (by omega)
  obtain ⟨b1, b2⟩ := border_eq h s l k (by omega) (by omega) hxl (by omega)
  obtain ⟨c1, c2⟩ := border_eq h (border (H h) s l) m k (by omega) (by omega) hxm (by omega)
  obtain ⟨d1, d2⟩ := inner_eq h s (l ++ m) 18446744073709551615 k (by decide) (by omega) (by omega) hx (by omega)
  obtain ⟨e1, e2⟩ := innerR_eq h s (l ++ m) 18446744073709551615 k (by decide) (by omega) (by omega) hx (by omega)
  obtain ⟨f1, f2⟩ := innerR_eq h s (l ++ m) 0 k (by decide) (by omega) (by omega) hx (by omega)
  rw [chain_ones _ _ _ _ (by omega)] at d1
  rw [chainR_ones _ _ _ _ (by omega)] at e1
  rw [chainR_none] at f1
  rw [a1]
  simp only [Option.bind_some]
  rw [b1]
  simp only [Option.bind_some]
  rw [c1]
  simp only [Option.bind_some]
  rw [← border_append, same_refl]
  simp only [Option.bind_some, if_true]
  rw [ones, d1]
  simp only [Option.bind_some]
  rw [same_refl]
  simp only [Option.bind_some, if_true]
  rw [e1]
  simp only [Option.bind_some]
  rw [same_refl]
  simp only [Option.bind_some, if_true]
  rw [zero, f1]
  simp only [Option.bind_some]
  exact same_refl _

theorem FnChainsInParts (a0_0 : Int) (a0_1 : Int) (a0_2 : Int) (a0_3 : Int) (a0_4 : Int) (a0_5 : Int) (w0 : ((Lit.int .i64 a0_0).wf = true) ∧ ((Lit.int .i64 a0_1).wf = true) ∧ ((Lit.int .i64 a0_2).wf = true) ∧ ((Lit.int .u64 a0_3).wf = true) ∧ ((Lit.int .u64 a0_4).wf = true) ∧ ((Lit.int .u64 a0_5).wf = true)) (l1 : List Int) (w1 : l1.length ≤ maxLen ∧ ∀ y ∈ l1, (Lit.int .u8 y).wf = true) (l2 : List (List Int)) (w2 : l2.length ≤ maxLen ∧ ∀ y ∈ l2, y.length ≤ maxLen ∧ ∀ y' ∈ y, (Lit.int .u8 y').wf = true) (l3 : List (List Int)) (w3 : l3.length ≤ maxLen ∧ ∀ y ∈ l3, y.length ≤ maxLen ∧ ∀ y' ∈ y, (Lit.int .u8 y').wf = true) (a4 : Int) (w4 : (Lit.int .u64 a4).wf = true) :
    ∃ k, X.laws_FnChainsInParts.f k a0_0 a0_1 a0_2 a0_3 a0_4 a0_5 l1 l2 l3 a4 = some true := by
  obtain ⟨idx, rfl, hidx⟩ := wf_u64 a4 w4
  generalize hK : 30002000 + l2.length + l3.length = K
  have out : ∀ k, laws_FnChainsInParts.j0 (k + 1) l1 l2 l3 (idx : Int) true a0_0 a0_1 a0_2 a0_3 a0_4 a0_5 = some true := fun k => by simp only [laws_FnChainsInParts.j0, if_true]
  refine ⟨K + 3, ?_⟩
  unfold laws_FnChainsInParts.f
  by_cases h1 : (l1.length : Int) > 2147483647
  · rw [if_pos h1]
    exact out (K + 2)
  rw [if_neg h1]
  obtain ⟨b2, e2, p2⟩ := fits_eq l2 (K + 3) (by omega)
  obtain ⟨b3, e3, p3⟩ := fits_eq l3 (K + 3) (by omega)
  rw [e2]
  simp only [Option.bind_some]
  cases b2 with
  | false =>
    rw [if_neg (by simp)]
    exact out (K + 2)
  | true =>
  rw [if_pos rfl, e3]
  simp only [Option.bind_some]
  cases b3 with
  | false => exact out (K + 2)
  | true =>
  simp only [laws_FnChainsInParts.j0, Bool.not_true, Bool.false_eq_true, if_false]
  have q2 := (p2 rfl).1
  have q3 := (p3 rfl).1
  simp only [laws_FnChainsInParts.j1, Option.bind_some, List.nil_append, List.length_nil, Nat.zero_add]
  rw [if_pos (by omega), if_pos (by omega)]
  obtain ⟨b, e, p⟩ := small_eq (l2 ++ l3) (K + 1) (by rw [List.length_append]; omega) (by rw [List.length_append]; omega)
  rw [e]
  simp only [Option.bind_some]
  cases b with
  | false => simp [laws_FnChainsInParts.j2]
  | true =>
  rw [if_pos rfl]
  by_cases h60 : ((l2 ++ l3).length : Int) > 60
  · rw [if_pos h60]
    simp [laws_FnChainsInParts.j2]
  rw [if_neg h60]
  by_cases h5 : (l1.length : Int) > 5000
  · simp only [h5, decide_true]
    simp [laws_FnChainsInParts.j2]
  simp only [h5, decide_false, laws_FnChainsInParts.j2, Bool.false_eq_true, if_false]
  exact parts ⟨a0_0, a0_1, a0_2, a0_3, a0_4, a0_5⟩ l1 l2 l3 idx K hidx (by omega) (p rfl).1 (by omega) (by omega)
end Go.Proofs.Ytijldedhcjkhiaa.Pure
