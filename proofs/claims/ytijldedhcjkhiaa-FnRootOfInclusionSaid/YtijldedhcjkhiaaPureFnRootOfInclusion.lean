/-
  The plain statement of FnRootOfInclusion: the root that a leaf hash and an audit path lead to is that of RFC 6962, exactly if there is one.
-/
import Derived.Test.YtijldedhcjkhiaaRoot
import Derived.Test.YtijldedhcjkhiaaX12
namespace Go.Proofs.Ytijldedhcjkhiaa.Pure
open Go.RowKit Go.Proofs.YtijldedhcjkhiaaW.PrintWords Go.Proofs.YtijldedhcjkhiaaW.PrintLast Go.Proofs.YtijldedhcjkhiaaW.PrintMore X Go.Proofs.YtijldedhcjkhiaaM
set_option linter.unusedVariables false

theorem rf_far (h : Hs) (i m : Nat) (leaf : List Int) (path : List (List Int)) (k : Nat) (hi : ¬ i < m) : proof_RootFromInclusionProof.f k h.k h.s h.b h.e h.l h.n (i : Int) (m : Int) leaf path = some ([], some 0) := by
  unfold proof_RootFromInclusionProof.f
  rw [if_pos (by omega)]
  rfl
theorem rf_size (h : Hs) (i m : Nat) (leaf : List Int) (path : List (List Int)) (k : Nat) (hi : i < m) (hs : ¬ (leaf.length : Int) = h.s) : proof_RootFromInclusionProof.f k h.k h.s h.b h.e h.l h.n (i : Int) (m : Int) leaf path = some ([], some 0) := by
  unfold proof_RootFromInclusionProof.f impl_toy_Size.f
  rw [if_neg (by omega), Option.bind_some, if_neg hs]
  rfl
theorem rf_len (h : Hs) (i m : Nat) (leaf : List Int) (path : List (List Int)) (k : Nat) (h64 : m < 18446744073709551616) (hi : i < m) (hs : (leaf.length : Int) = h.s) (hp : ¬ path.length = inn i m + bor i m) : proof_RootFromInclusionProof.f k h.k h.s h.b h.e h.l h.n (i : Int) (m : Int) leaf path = some ([], some 0) := by
  have hinn := inn_le i m 64 hi (by rw [pow64]; omega) (Nat.le_refl _)
  have hbor : bor i m ≤ 64 := pop_le _ _
  have ew : wrap64 ((inn i m : Int) + (bor i m : Int)) = ((inn i m + bor i m : Nat) : Int) := by rw [wrap64_of (by omega) (by omega)]; omega
  unfold proof_RootFromInclusionProof.f impl_toy_Size.f
  rw [if_neg (by omega), Option.bind_some, if_pos hs, decomp_incl i m hi h64, Option.bind_some, ew, if_neg (by omega)]
  rfl
theorem rf_ok (h : Hs) (i m : Nat) (leaf : List Int) (path : List (List Int)) (k : Nat) (hi64 : i < 18446744073709551616) (h64 : m < 18446744073709551616) (hleaf : leaf.length ≤ 5000) (hl : path.length ≤ 300) (hx : ∀ x ∈ path, x.length ≤ 5000) (hk : 30001000 < k) (hi : i < m) (hs : (leaf.length : Int) = h.s) (hp : path.length = inn i m + bor i m) :
    proof_RootFromInclusionProof.f k h.k h.s h.b h.e h.l h.n (i : Int) (m : Int) leaf path = some (up h i m leaf path, none) := by
  have hinn := inn_le i m 64 hi (by rw [pow64]; omega) (Nat.le_refl _)
  have hbor : bor i m ≤ 64 := pop_le _ _
  have ew : wrap64 ((inn i m : Int) + (bor i m : Int)) = ((inn i m + bor i m : Nat) : Int) := by rw [wrap64_of (by omega) (by omega)]; omega
  have hlt : (path.take (inn i m)).length = inn i m := by rw [List.length_take]; omega
  have hld : (path.drop (inn i m)).length ≤ 300 := by rw [List.length_drop]; omega
  obtain ⟨a1, a2⟩ := inner_run h i hi64 (path.take (inn i m)) [] leaf k (by rw [List.nil_append]; omega) (fun x hx' => hx x (List.mem_of_mem_take hx')) (by omega) (by omega)
  have a3 : proof_chainInner.f k h.k h.s h.b h.e h.l h.n leaf (path.take (inn i m)) (i : Int) = some (chain (H h) i 0 leaf (path.take (inn i m))) := a1
  have a4 : (chain (H h) i 0 leaf (path.take (inn i m))).length ≤ leaf.length + (path.take (inn i m)).length * 6000 := a2
  obtain ⟨b1, b2⟩ := border_run h (path.drop (inn i m)) [] (chain (H h) i 0 leaf (path.take (inn i m))) k (by rw [List.nil_append]; omega) (fun x hx' => hx x (List.mem_of_mem_drop hx')) (by omega) (by omega)
  have b3 : proof_chainBorderRight.f k h.k h.s h.b h.e h.l h.n (chain (H h) i 0 leaf (path.take (inn i m))) (path.drop (inn i m)) = some (up h i m leaf path) := b1
  unfold proof_RootFromInclusionProof.f impl_toy_Size.f
  rw [if_neg (by omega), Option.bind_some, if_pos hs, decomp_incl i m hi h64, Option.bind_some, ew, if_pos (by omega), if_pos (by omega), if_pos (by omega), Int.toNat_natCast, a3, Option.bind_some, b3, Option.bind_some]

/-- What the machine answers: the root and true, or false. -/
def fine (h : Hs) (i m : Nat) (leaf : List Int) (path : List (List Int)) : Bool := decide (i < m) && (decide ((leaf.length : Int) = h.s) && decide (path.length = inn i m + bor i m))
theorem root_of (h : Hs) (i m : Nat) (leaf : List Int) (path : List (List Int)) (k : Nat) (hi64 : i < 18446744073709551616) (h64 : m < 18446744073709551616) (hleaf : leaf.length ≤ 5000) (hl : path.length ≤ 300) (hx : ∀ x ∈ path, x.length ≤ 5000) (hk : 30001000 < k) :
    ∃ r, impl_RootOfInclusion.f k h.k h.s h.b h.e h.l h.n (i : Int) (m : Int) leaf path = some (r, fine h i m leaf path) ∧ (fine h i m leaf path = true → r = up h i m leaf path) := by
  have key : ∃ r e, proof_RootFromInclusionProof.f k h.k h.s h.b h.e h.l h.n (i : Int) (m : Int) leaf path = some (r, e) ∧ e.isNone = fine h i m leaf path ∧ (fine h i m leaf path = true → r = up h i m leaf path) := by
    unfold fine
    by_cases hi : i < m
    · by_cases hs : (leaf.length : Int) = h.s
      · by_cases hp : path.length = inn i m + bor i m
        · exact ⟨_, _, rf_ok h i m leaf path k hi64 h64 hleaf hl hx hk hi hs hp, by simp [hi, hs, hp], fun _ => rfl⟩
        · exact ⟨_, _, rf_len h i m leaf path k h64 hi hs hp, by simp [hp], fun hh => by simp [hp] at hh⟩
      · exact ⟨_, _, rf_size h i m leaf path k hi hs, by simp [hs], fun hh => by simp [hs] at hh⟩
    · exact ⟨_, _, rf_far h i m leaf path k hi, by simp [hi], fun hh => by simp [hi] at hh⟩
  obtain ⟨r, e, h1, h2, h3⟩ := key
  refine ⟨r, ?_, h3⟩
  unfold impl_RootOfInclusion.f
  simp only [Option.bind_some, List.nil_append, List.length_nil, Nat.zero_add]
  rw [if_pos (by omega), texts_eq path k (by omega) (fun x hx' => by have := hx x hx'; omega) (by omega), Option.bind_some, h1, Option.bind_some, ← h2]
  cases e <;> rfl

theorem FnRootOfInclusion (a0_0 : Int) (a0_1 : Int) (a0_2 : Int) (a0_3 : Int) (a0_4 : Int) (a0_5 : Int) (w0 : ((Lit.int .i64 a0_0).wf = true) ∧ ((Lit.int .i64 a0_1).wf = true) ∧ ((Lit.int .i64 a0_2).wf = true) ∧ ((Lit.int .u64 a0_3).wf = true) ∧ ((Lit.int .u64 a0_4).wf = true) ∧ ((Lit.int .u64 a0_5).wf = true)) (a1 : Int) (w1 : (Lit.int .u64 a1).wf = true) (a2 : Int) (w2 : (Lit.int .u64 a2).wf = true) (l3 : List Int) (w3 : l3.length ≤ maxLen ∧ ∀ y ∈ l3, (Lit.int .u8 y).wf = true) (l4 : List (List Int)) (w4 : l4.length ≤ maxLen ∧ ∀ y ∈ l4, y.length ≤ maxLen ∧ ∀ y' ∈ y, (Lit.int .u8 y').wf = true) :
    ∃ k, X.laws_FnRootOfInclusion.f k a0_0 a0_1 a0_2 a0_3 a0_4 a0_5 a1 a2 l3 l4 = some true := by
  obtain ⟨i, rfl, hi64⟩ := wf_u64 a1 w1
  obtain ⟨m, rfl, h64⟩ := wf_u64 a2 w2
  generalize hK : 30002000 + l4.length = K
  have out : ∀ k, laws_FnRootOfInclusion.j0 (k + 1) (i : Int) (m : Int) l3 l4 true a0_0 a0_1 a0_2 a0_3 a0_4 a0_5 = some true := fun k => by simp only [laws_FnRootOfInclusion.j0, if_true]
  refine ⟨K + 3, ?_⟩
  unfold laws_FnRootOfInclusion.f
  by_cases h1 : (l3.length : Int) > 2147483647
  · rw [if_pos h1]
    exact out (K + 2)
  rw [if_neg h1]
  obtain ⟨b, e, p⟩ := fits_eq l4 (K + 3) (by omega)
  rw [e]
  simp only [Option.bind_some]
  cases b with
  | false => exact out (K + 2)
  | true =>
  have q := (p rfl).1
  simp only [laws_FnRootOfInclusion.j0, Bool.not_true, Bool.false_eq_true, if_false]
  obtain ⟨b, e, p⟩ := small_eq l4 (K + 2) (by omega) (by omega)
  rw [e]
  simp only [Option.bind_some]
  cases b with
  | false => simp [laws_FnRootOfInclusion.j1]
  | true =>
  rw [if_pos rfl]
  by_cases h5 : (l3.length : Int) > 5000
  · simp only [h5, decide_true]
    simp [laws_FnRootOfInclusion.j1]
  simp only [h5, decide_false, laws_FnRootOfInclusion.j1, Bool.false_eq_true, if_false]
  obtain ⟨r, hr, hu⟩ := root_of ⟨a0_0, a0_1, a0_2, a0_3, a0_4, a0_5⟩ i m l3 l4 (K + 1) hi64 h64 (by omega) (p rfl).2 (p rfl).1 (by omega)
  rw [show impl_RootOfInclusion.f (K + 1) a0_0 a0_1 a0_2 a0_3 a0_4 a0_5 (i : Int) (m : Int) l3 l4 = _ from hr]
  simp only [Option.bind_some]
  by_cases hi : i < m
  · rw [if_neg (by omega)]
    by_cases hs : (l3.length : Int) = a0_1
    · rw [if_pos hs]
      obtain ⟨L, hL, hlen⟩ := parts_len i m (K + 1) hi h64 (by omega)
      rw [hL]
      simp only [Option.bind_some, laws_FnRootOfInclusion.j2]
      by_cases hp : l4.length = inn i m + bor i m
      · have hf : fine ⟨a0_0, a0_1, a0_2, a0_3, a0_4, a0_5⟩ i m l3 l4 = true := by simp [fine, hi, hs, hp]
        rw [hlen, hp]
        simp only [bne_self_eq_false, Bool.false_eq_true, if_false]
        rw [hf, if_pos rfl, hu hf]
        rw [show spec_RootFromPath.f K a0_0 a0_1 a0_2 a0_3 a0_4 a0_5 (i : Int) (m : Int) l3 l4 = _ from root_from_path ⟨a0_0, a0_1, a0_2, a0_3, a0_4, a0_5⟩ l3 (by omega) i m K l4 hi h64 hp (p rfl).1 (by omega)]
        simp only [Option.bind_some]
        rw [same_refl]
        rfl
      · have hne : ((l4.length : Int) != (L.length : Int)) = true := by simp; omega
        have hf : fine ⟨a0_0, a0_1, a0_2, a0_3, a0_4, a0_5⟩ i m l3 l4 = false := by simp [fine, hp]
        rw [hne, if_pos rfl, hf]
        rfl
    · have hf : fine ⟨a0_0, a0_1, a0_2, a0_3, a0_4, a0_5⟩ i m l3 l4 = false := by simp [fine, hs]
      rw [if_neg hs]
      simp only [laws_FnRootOfInclusion.j2, if_true, hf]
      rfl
  · have hf : fine ⟨a0_0, a0_1, a0_2, a0_3, a0_4, a0_5⟩ i m l3 l4 = false := by simp [fine, hi]
    rw [if_pos (by omega)]
    simp only [laws_FnRootOfInclusion.j2, if_true, hf]
    rfl
end Go.Proofs.Ytijldedhcjkhiaa.Pure
