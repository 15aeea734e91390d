import Derived.Test.YtijldedhcjkhiaaDoorSTMath
import Derived.Test.YtijldedhcjkhiaaDoorSTT12
namespace Go.Proofs.YtijldedhcjkhiaaDoor.Pure
open Go.RowKit Go.Proofs.YtijldedhcjkhiaaDoorW.PrintWords Go.Proofs.YtijldedhcjkhiaaDoorW.PrintLast Go.Proofs.YtijldedhcjkhiaaDoorW.PrintMore T Go.Proofs.YtijldedhcjkhiaaDoorM
set_option linter.unusedVariables false
theorem border_foldr (f : List Int → List Int → List Int) : ∀ (l : List (List Int)) (s : List Int), border f s l = l.reverse.foldr f s
  | [], s => rfl
  | x :: l, s => by
    rw [List.reverse_cons, List.foldr_append]
    exact border_foldr f l (f x s)
theorem inn_last (n : Nat) : inn n (n + 1) = 0 := by
  unfold inn
  rw [Nat.add_sub_cancel, Nat.xor_self]
  decide
theorem bor_last (n : Nat) : bor n (n + 1) = pop 64 n := by
  unfold bor
  rw [inn_last, Nat.pow_zero, Nat.div_one]
theorem row_zero (n : Nat) (h : n < 18446744073709551616) : ∃ t, Row 0 n t ∧ t.length = pop 64 n := by
  obtain ⟨t, g1, g2, g3, g4⟩ := right_run n h 64 n 0 (by omega) (by omega) (by rw [pow64]; exact h) (by simp)
  have := pop_le 64 n
  exact ⟨t, ⟨g1, g2, by omega, g4⟩, g3⟩
theorem incl_ev (h : Hs) (n : Nat) (h64 : n + 1 < 18446744073709551616) (leaf : List Int) (path : List (List Int)) (hleaf : leaf.length ≤ 5000) (hl : path.length ≤ 300) (hx : ∀ x ∈ path, x.length ≤ 5000) (hs : (leaf.length : Int) = h.s) (hp : path.length = pop 64 n) :
    Ev (fun k => impl_RootOfInclusion.f k h.k h.s h.b h.e h.l h.n (n : Int) ((n + 1 : Nat) : Int) leaf path) (path.reverse.foldr (H h) leaf, true) := by
  refine ⟨30002000 + path.length, fun k hk => ?_⟩
  have hbor : pop 64 n ≤ 64 := pop_le _ _
  have ew : wrap64 (((0 : Nat) : Int) + ((pop 64 n : Nat) : Int)) = ((pop 64 n : Nat) : Int) := by rw [wrap64_of (by omega) (by omega)]; omega
  obtain ⟨a1, a2⟩ := inner_run h n (by omega) [] [] leaf k (by simp) (by simp) (by omega) (by simp; omega)
  have a3 : proof_chainInner.f k h.k h.s h.b h.e h.l h.n leaf (path.take 0) (n : Int) = some leaf := a1
  obtain ⟨b1, b2⟩ := border_run h path [] leaf k (by rw [List.nil_append]; omega) hx (by omega) (by omega)
  have b3 : proof_chainBorderRight.f k h.k h.s h.b h.e h.l h.n leaf path = some (border (H h) leaf path) := b1
  have hpf : proof_RootFromInclusionProof.f k h.k h.s h.b h.e h.l h.n (n : Int) ((n + 1 : Nat) : Int) leaf path = some (border (H h) leaf path, none) := by
    unfold proof_RootFromInclusionProof.f impl_toy_Size.f
    rw [if_neg (by omega), Option.bind_some, if_pos hs, decomp_incl n (n + 1) (by omega) h64, inn_last, bor_last, Option.bind_some, ew, if_pos (by omega), if_pos (by omega), if_pos (by omega), Int.toNat_natCast, a3, Option.bind_some, List.drop_zero, b3, Option.bind_some]
  unfold impl_RootOfInclusion.f
  simp only [Option.bind_some, List.nil_append, List.length_nil, Nat.zero_add]
  rw [if_pos (by omega), texts_eq path k (by omega) (fun x hx' => by have := hx x hx'; omega) (by omega), Option.bind_some, hpf, Option.bind_some, border_foldr]
  rfl
theorem grown_ev (h : Hs) (b n : Nat) (hb : b = 0) (h64 : n + 1 < 18446744073709551616) (S : List Nd) (RS : Row 0 n S) (T : List (List Int)) (hl : T.length = S.length) (x : List Int) (hw : wt T + x.length + 9 ≤ 1000000000) :
    ∃ (l : List (List Int)) (y : List Int) (t1 : List Nd) (V : List S88), Row 0 (n + 1) t1 ∧ (l ++ [y]).length = t1.length ∧ wt (l ++ [y]) ≤ wt T + x.length + 9 ∧ l.foldr (H h) y = T.foldr (H h) x ∧
      Ev (fun k => impl_AppendRange.f k h.k h.s h.b h.e h.l h.n (b : Int) (n : Int) T (n : Int) ((n + 1 : Nat) : Int) [x]) ((b : Int), ((n + 1 : Nat) : Int), l ++ [y], V, true) := by
  obtain ⟨hf, h1, h2, hlaw⟩ := leaf_hf h 0 n S RS.til T hl x
  have RT : Row n (n + 1) [((0, n) : Nd)] := row_of' (by omega) h64 ⟨by simp, by simp; rfl⟩ ⟨by intro m hm; simp at hm, trivial⟩
  have h0 : ¬ (n = 0 ∧ n + 1 = 18446744073709551615) := by omega
  obtain ⟨t1, d, R1, w1, _, _, hev⟩ := appR_ev h hf 0 n (n + 1) (Nat.zero_le _) (by omega) h64 h0 S RS (0, n) [] RT (fun j _ _ hI => hlaw j hI) (by rw [h1, h2]; simpa [wt] using hw)
  rw [h1, h2] at w1 hev
  rw [List.map_nil] at w1 hev
  rw [wt_nil, Nat.add_zero] at w1
  have hbi : (b : Int) = ((0 : Nat) : Int) := by rw [hb]
  rw [← hbi] at hev
  obtain ⟨K, hK⟩ := hev
  have hk := hK (K + 3000000001) (by omega)
  obtain ⟨low, hi0, hi, x0, ones, TT, i1, i2, _, _, _, _, _, _, _, _, _, _, _, q12, q13⟩ := appR_inv hk
  obtain ⟨g1, g2⟩ := apl_nil h T (K + 3000000001) (by omega) (hi - low) low T.length x0 x [] TT i1 i2 _ (by rw [List.take_length]; exact hw) q12
  rw [List.take_length] at g2
  have q13' : t1.map hf = T.take i1 ++ [TT] := by simpa using q13
  rw [q13'] at w1 hK
  refine ⟨T.take i1, TT, t1, vis hf n d 0, R1, by rw [← q13', List.length_map], w1, by rw [g2]; exact foldr_split h T i1 x, ?_⟩
  have hS := RS.len
  have hT := wt_len T
  have h1' := R1.len
  have tx : ∀ l : List (List Int), wt l ≤ 1000000000 → Ev (fun k => impl_texts.f k l) l := fun l hl => texts_ev l (by have := wt_len l; omega) (fun x hx => by have := wt_mem hx; omega)
  have hsz := size_of (Nat.zero_le n) (by omega) RS
  rw [← hbi] at hsz
  have hsz2 := size_of (b := n) (e := n + 1) (by omega) h64 RT
  have hc : ((b : Int) ≤ (n : Int) ∧ (0 : Int) ≤ (n : Int) ∧ (T.length : Int) = (S.length : Int)) ∧ True ∧ (n : Int) ≤ ((n + 1 : Nat) : Int) ∧ ((([x] : List (List Int)).length : Nat) : Int) = (([((0, n) : Nd)].length : Nat) : Int) := ⟨⟨by omega, by omega, by omega⟩, trivial, by omega, rfl⟩
  unfold impl_AppendRange.f
  refine Ev.bind (tx T (by omega)) ?_
  simp only [hsz, Option.bind_some]
  refine Ev.bind (tx [x] (by rw [wt_one]; omega)) ?_
  simp only [hsz2, Option.bind_some]
  simp only [if_pos hc, Int.toNat_natCast]
  refine Ev.bind (a := (T.take i1 ++ [TT], vis hf n d 0)) ⟨K, hK⟩ ?_
  exact Ev.bind (tx (T.take i1 ++ [TT]) (by omega)) (Ev.now _)
theorem rev_ev (h : Hs) (n : Int) (leaf : List Int) (path : List (List Int)) (hl : path.length ≤ 300) (fin : Ev (fun k => laws_FnRangeFromLast.l0 k n leaf path (-1) h.k h.s h.b h.e h.l h.n 0 n path.reverse) true) : ∀ i, i ≤ path.length → Ev (fun k => laws_FnRangeFromLast.l0 k n leaf path ((i : Int) - 1) h.k h.s h.b h.e h.l h.n 0 n (path.drop i).reverse) true := by
  intro i
  induction i with
  | zero => exact fun _ => by rw [List.drop_zero]; exact fin
  | succ i ih =>
    intro hi
    have hil : i < path.length := by omega
    have ed : (path.drop i).reverse = (path.drop (i + 1)).reverse ++ [path.getD i []] := by
      rw [List.drop_eq_getElem_cons hil, List.reverse_cons, List.getD_eq_getElem?_getD, List.getElem?_eq_getElem hil]
      rfl
    have h1 := ih (by omega)
    rw [ed] at h1
    refine Ev.step (f := fun k => laws_FnRangeFromLast.l0 k n leaf path ((i : Int) - 1) h.k h.s h.b h.e h.l h.n 0 n ((path.drop (i + 1)).reverse ++ [path.getD i []])) (fun k => ?_) h1
    have hx : ((i + 1 : Nat) : Int) - 1 = (i : Int) := by omega
    have hrd : rd_L1 path (i : Int) = path.getD i [] := by unfold rd_L1; rw [Int.toNat_natCast]
    have hln : (path.drop (i + 1)).reverse.length < 5864062014805 := by rw [List.length_reverse, List.length_drop]; omega
    simp only [laws_FnRangeFromLast.l0]
    rw [hx, if_pos (by omega), if_pos (by omega), if_pos (by omega), if_pos hln, wrap_id _ (by omega) (by omega), hrd]
theorem core (h : Hs) (n : Nat) (h64 : n + 1 < 18446744073709551616) (leaf : List Int) (path : List (List Int)) (hleaf : leaf.length ≤ 5000) (hl : path.length ≤ 300) (hx : ∀ x ∈ path, x.length ≤ 5000) (hs : (leaf.length : Int) = h.s) (hp : path.length = pop 64 n) :
    Ev (fun k => laws_FnRangeFromLast.l0 k (n : Int) leaf path (-1) h.k h.s h.b h.e h.l h.n 0 (n : Int) path.reverse) true := by
  obtain ⟨S, RS, hSl⟩ := row_zero n (by omega)
  have hrl : path.reverse.length = S.length := by rw [List.length_reverse]; omega
  have hrw : wt path.reverse ≤ 1502700 := Nat.le_trans (wt_small path.reverse 5000 (fun x hx' => hx x (by simpa using hx'))) (by rw [List.length_reverse]; omega)
  obtain ⟨b, hb⟩ : ∃ b : Nat, b = 0 := ⟨0, rfl⟩
  have hbi : (0 : Int) = (b : Int) := by rw [hb]; rfl
  obtain ⟨l, y, t1, V, R1, hlen, hw1, hfold, hA⟩ := grown_ev h b n hb h64 S RS path.reverse hrl leaf (by omega)
  have tx : ∀ l : List (List Int), wt l ≤ 1000000000 → Ev (fun k => impl_texts.f k l) l := fun l hl => texts_ev l (by have := wt_len l; omega) (fun x hx => by have := wt_mem hx; omega)
  have hsz := size_of (Nat.zero_le (n + 1)) h64 R1
  rw [show ((0 : Nat) : Int) = (b : Int) by rw [hb]] at hsz
  rw [wt_append, wt_one] at hw1
  obtain ⟨V2, hR⟩ := root_ev h b (n + 1) hb h64 t1 R1 l y hlen (by omega) (tx (l ++ [y]) (by rw [wt_append, wt_one]; omega)) hsz
  rw [hfold] at hR
  have hI := incl_ev h n h64 leaf path hleaf hl hx hs hp
  have hT := tx path.reverse (by omega)
  have hszN := size_of (Nat.zero_le n) (by omega) RS
  rw [show ((0 : Nat) : Int) = (b : Int) by rw [hb]] at hszN
  obtain ⟨K1, k1⟩ := hA
  obtain ⟨K2, k2⟩ := hR
  obtain ⟨K3, k3⟩ := hI
  obtain ⟨K4, k4⟩ := hT
  dsimp only at k1 k2 k3 k4
  refine ⟨K1 + K2 + K3 + K4 + 1, fun k hk => ?_⟩
  obtain ⟨k, rfl⟩ : ∃ m, k = m + 1 := ⟨k - 1, by omega⟩
  have hw : IntKind.u64.wrap ((n : Int) + 1) = ((n + 1 : Nat) : Int) := by rw [show (n : Int) + 1 = ((n + 1 : Nat) : Int) by omega]; exact u64_small _ h64
  have hG : laws_growthRoot.f k h.k h.s h.b h.e h.l h.n [⟨(b : Int), (n : Int), path.reverse⟩, ⟨(n : Int), ((n + 1 : Nat) : Int), [leaf]⟩] = some (path.reverse.foldr (H h) leaf, true) := by
    unfold laws_growthRoot.f
    rw [if_pos ⟨by simp, by simp⟩]
    simp only [List.drop_succ_cons, List.drop_zero, List.getD_cons_zero, groot]
    rw [k1 k (by omega), Option.bind_some]
    dsimp only
    rw [if_pos rfl, Option.bind_some]
    dsimp only
    rw [k2 k (by omega), Option.bind_some]
  have hN : impl_NewRange.f k (b : Int) (n : Int) path.reverse = some true := by
    unfold impl_NewRange.f
    rw [k4 k (by omega), Option.bind_some, hszN, Option.bind_some, if_pos ⟨by omega, by omega⟩]
  simp only [laws_FnRangeFromLast.l0]
  rw [if_neg (by decide), hw, k3 k (by omega), Option.bind_some]
  unfold laws_growthLeaf.f
  rw [Option.bind_some, hw]
  dsimp only
  rw [hbi, hG, Option.bind_some]
  dsimp only
  rw [if_pos rfl, if_pos rfl, hN, Option.bind_some, if_pos rfl]
  unfold spec_SameText.f
  simp
theorem FnRangeFromLast_ev (h : Hs) (n : Nat) (h64 : n < 18446744073709551616) (leaf : List Int) (path : List (List Int)) : Ev (fun k => laws_FnRangeFromLast.f k h.k h.s h.b h.e h.l h.n (n : Int) leaf path) true := by
  unfold laws_FnRangeFromLast.f
  have hj0 : Ev (fun k => laws_FnRangeFromLast.j0 k (n : Int) leaf path true h.k h.s h.b h.e h.l h.n) true := Ev.now1 fun k => by simp only [laws_FnRangeFromLast.j0]; first | (rw [if_pos rfl]) | (rw [if_pos trivial])
  have hj1 : Ev (fun k => laws_FnRangeFromLast.j1 k (n : Int) leaf path true h.k h.s h.b h.e h.l h.n) true := Ev.now1 fun k => by simp only [laws_FnRangeFromLast.j1]; first | (rw [if_pos rfl]) | (rw [if_pos trivial])
  by_cases hlf : (leaf.length : Int) > 2147483647
  · simp only [if_pos hlf]
    exact hj0
  simp only [if_neg hlf]
  obtain ⟨f, hf, hf2⟩ := fits_eq path (path.length + 1) (Nat.lt_succ_self _)
  refine Ev.bind (Ev.of (laws_zzFits2.mono _) hf) ?_
  cases f with
  | false => exact hj0
  | true =>
  obtain ⟨s, hs, hs2⟩ := small_eq path (path.length + 1) (Nat.lt_of_le_of_lt (hf2 rfl).1 (by decide)) (Nat.lt_succ_self _)
  refine Ev.step (f := fun k => (laws_logSmall.f k path).bind fun t238 => (if t238 = true then (if (leaf.length : Int) = h.s then (if (leaf.length : Int) > 5000 then (laws_FnRangeFromLast.j1 k (n : Int) leaf path true h.k h.s h.b h.e h.l h.n) else (if (IntKind.u64.wrap ((n : Int) + 1)) = 0 then (laws_FnRangeFromLast.j1 k (n : Int) leaf path true h.k h.s h.b h.e h.l h.n) else ((spec_PathParts.f k (n : Int) (IntKind.u64.wrap ((n : Int) + 1))).bind fun t239 => (laws_FnRangeFromLast.j1 k (n : Int) leaf path ((path.length : Int) != (t239.length : Int)) h.k h.s h.b h.e h.l h.n)))) else (laws_FnRangeFromLast.j1 k (n : Int) leaf path true h.k h.s h.b h.e h.l h.n)) else (laws_FnRangeFromLast.j1 k (n : Int) leaf path true h.k h.s h.b h.e h.l h.n))) (fun k => ?_) ?_
  · simp only [Bool.not_true, laws_FnRangeFromLast.j0]
    first | (rw [if_neg (by decide)]) | rfl
  refine Ev.bind (Ev.of (laws_logSmall.mono _) hs) ?_
  cases s with
  | false => exact hj1
  | true =>
  simp only [if_true]
  by_cases c1 : (leaf.length : Int) = h.s
  case neg => simp only [if_neg c1]; exact hj1
  simp only [if_pos c1]
  by_cases c2 : (leaf.length : Int) > 5000
  · simp only [if_pos c2]; exact hj1
  simp only [if_neg c2]
  by_cases c3 : IntKind.u64.wrap ((n : Int) + 1) = 0
  · simp only [if_pos c3]; exact hj1
  simp only [if_neg c3]
  have h65 : n + 1 < 18446744073709551616 := by
    rcases Nat.lt_or_ge (n + 1) 18446744073709551616 with h1 | h1
    · exact h1
    · exfalso
      apply c3
      rw [show (n : Int) + 1 = ((n + 1 : Nat) : Int) by omega, u64_wrap_nat, show n + 1 = 18446744073709551616 by omega]
      rfl
  have hw : IntKind.u64.wrap ((n : Int) + 1) = ((n + 1 : Nat) : Int) := by rw [show (n : Int) + 1 = ((n + 1 : Nat) : Int) by omega]; exact u64_small _ h65
  rw [hw]
  obtain ⟨L, hL, hlen⟩ := parts_len n (n + 1) 200 (by omega) h65 (Nat.le_refl _)
  refine Ev.bind (Ev.of (spec_PathParts.mono _ _) hL) ?_
  rw [inn_last, bor_last, Nat.zero_add] at hlen
  by_cases c4 : path.length = L.length
  case neg =>
    rw [show ((path.length : Int) != (L.length : Int)) = true by simp; omega]
    exact hj1
  rw [show ((path.length : Int) != (L.length : Int)) = false by simp; omega]
  have hl3 := (hs2 rfl).2
  have hr := rev_ev h (n : Int) leaf path hl3 (core h n h65 leaf path (by omega) hl3 (hs2 rfl).1 c1 (by omega)) path.length (Nat.le_refl _)
  rw [List.drop_length, List.reverse_nil] at hr
  refine Ev.step (f := fun k => laws_FnRangeFromLast.l0 k (n : Int) leaf path ((path.length : Int) - 1) h.k h.s h.b h.e h.l h.n 0 (n : Int) []) (fun k => ?_) hr
  simp only [laws_FnRangeFromLast.j1]
  rw [if_neg (by decide), wrap_id _ (by omega) (by omega)]
theorem FnRangeFromLast (a0_0 : Int) (a0_1 : Int) (a0_2 : Int) (a0_3 : Int) (a0_4 : Int) (a0_5 : Int) (w0 : ((Lit.int .i64 a0_0).wf = true) ∧ ((Lit.int .i64 a0_1).wf = true) ∧ ((Lit.int .i64 a0_2).wf = true) ∧ ((Lit.int .u64 a0_3).wf = true) ∧ ((Lit.int .u64 a0_4).wf = true) ∧ ((Lit.int .u64 a0_5).wf = true)) (a1 : Int) (w1 : (Lit.int .u64 a1).wf = true) (l2 : List Int) (w2 : l2.length ≤ maxLen ∧ ∀ y ∈ l2, (Lit.int .u8 y).wf = true) (l3 : List (List Int)) (w3 : l3.length ≤ maxLen ∧ ∀ y ∈ l3, y.length ≤ maxLen ∧ ∀ y' ∈ y, (Lit.int .u8 y').wf = true) : ∃ k, T.laws_FnRangeFromLast.f k a0_0 a0_1 a0_2 a0_3 a0_4 a0_5 a1 l2 l3 = some true := by
  have h2 : 0 ≤ a1 ∧ a1 < 18446744073709551616 := by
    simp [Lit.wf, IntKind.min, IntKind.max, IntKind.signed, IntKind.bits] at w1
    omega
  obtain ⟨n, rfl⟩ := Int.eq_ofNat_of_zero_le h2.1
  exact (FnRangeFromLast_ev ⟨a0_0, a0_1, a0_2, a0_3, a0_4, a0_5⟩ n (by omega) l2 l3).rounds
end Go.Proofs.YtijldedhcjkhiaaDoor.Pure
