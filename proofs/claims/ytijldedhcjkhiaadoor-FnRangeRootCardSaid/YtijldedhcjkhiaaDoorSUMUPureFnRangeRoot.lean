import Derived.Test.YtijldedhcjkhiaaDoorSUMUMrg
import Derived.Test.YtijldedhcjkhiaaDoorSUMUNodesV
import Derived.Test.YtijldedhcjkhiaaDoorSUMUSpecHashS
import Derived.Test.YtijldedhcjkhiaaDoorSUMULoopsE
import Derived.Test.YtijldedhcjkhiaaDoorSUU10
namespace Go.Proofs.YtijldedhcjkhiaaDoor.Pure
open Go.RowKit Go.Proofs.YtijldedhcjkhiaaDoorW.PrintWords Go.Proofs.YtijldedhcjkhiaaDoorW.PrintLast Go.Proofs.YtijldedhcjkhiaaDoorW.PrintMore U Go.Proofs.YtijldedhcjkhiaaDoorM
set_option linter.unusedVariables false
theorem hash_ev (h : Hs) (l r : List Int) (hl : l.length + r.length < 100000000000) : Ev (fun k => impl_toy_HashChildren.f k h.k h.s h.b h.e h.l h.n l r) (H h l r) := ⟨l.length + r.length + 31, fun k hk => hash_eq h l r k hl (by omega)⟩
theorem shash_ev (h : Hs) (l r : List Int) (hl : l.length + r.length < 100000000000) : Ev (fun k => spec_HashChildren.f k h.k h.s h.b h.e h.l h.n l r) (H h l r) := ⟨l.length + r.length + 61, fun k hk => shash_eq h l r k hl (by omega)⟩
theorem texts_ev (l : List (List Int)) (hl : l.length < 1000000000000) (hx : ∀ x ∈ l, x.length < 100000000000) : Ev (fun k => impl_texts.f k l) l := ⟨l.length + 1, fun k hk => texts_eq l k hl hx (by omega)⟩
theorem zero_row {e : Nat} {s r : List Nd} {n : Nd} (h : Til e 0 (s ++ n :: r)) (hs : SF (s ++ n :: r)) : n.2 % 2 = 0 ∧ Til (n.2 * 2 ^ n.1) 0 s ∧ Til e ((n.2 + 1) * 2 ^ n.1) r ∧ e < (n.2 + 2) * 2 ^ n.1 := by
  obtain ⟨m, h1, h2⟩ := h.split
  have h3 : n.2 * 2 ^ n.1 = m := h2.1
  subst h3
  have h4 := h2.2
  rw [show n.2 * 2 ^ n.1 + 2 ^ n.1 = (n.2 + 1) * 2 ^ n.1 by rw [Nat.add_mul, Nat.one_mul]] at h4
  have hev : n.2 % 2 = 0 := by
    rcases Nat.mod_two_eq_zero_or_one n.2 with h | h
    · exact h
    · exfalso
      obtain ⟨s', rfl⟩ := left_sib h1 hs.left h (Nat.zero_le _)
      rw [List.append_assoc] at hs
      exact hs.fit ⟨rfl, by show (n.2 - 1) % 2 = 0; omega⟩
  refine ⟨hev, h1, h4, ?_⟩
  rcases Nat.lt_or_ge e ((n.2 + 2) * 2 ^ n.1) with h | h
  · exact h
  · exfalso
    obtain ⟨t', rfl⟩ := right_sib h4 (SF.right (s := s ++ [n]) (by simpa using hs)) hev h
    exact hs.fit ⟨rfl, hev⟩
theorem clr_pow (y : Nat) : ∀ l : Nat, clr ((2 * y + 1) * 2 ^ l) = 2 * y * 2 ^ l
  | 0 => by
    unfold clr
    rw [Nat.pow_zero, Nat.mul_one, Nat.mul_one, Nat.add_sub_cancel]
    apply Nat.eq_of_testBit_eq
    intro i
    rw [Nat.testBit_and]
    cases i with
    | zero => simp [Nat.testBit_zero]
    | succ i =>
      rw [Nat.testBit_succ, Nat.testBit_succ, show (2 * y + 1) / 2 = y by omega, show 2 * y / 2 = y by omega, Bool.and_self]
  | l + 1 => by
    have ih := clr_pow y l
    have hp := two_pow_pos l
    unfold clr at ih ⊢
    have e1 : (2 * y + 1) * 2 ^ (l + 1) = 2 * ((2 * y + 1) * 2 ^ l) := by rw [Nat.pow_succ, ← Nat.mul_assoc, Nat.mul_comm]
    have e2 : 2 * y * 2 ^ (l + 1) = 2 * (2 * y * 2 ^ l) := by rw [Nat.pow_succ, ← Nat.mul_assoc, Nat.mul_comm]
    have h0 : 0 < (2 * y + 1) * 2 ^ l := Nat.mul_pos (by omega) hp
    rw [e1, e2, ← ih]
    generalize (2 * y + 1) * 2 ^ l = m at *
    apply Nat.eq_of_testBit_eq
    intro i
    rw [Nat.testBit_and]
    cases i with
    | zero => simp [Nat.testBit_zero]
    | succ i =>
      rw [Nat.testBit_succ, Nat.testBit_succ, Nat.testBit_succ, show 2 * m / 2 = m by omega, show (2 * m - 1) / 2 = m - 1 by omega, show 2 * (m &&& (m - 1)) / 2 = m &&& (m - 1) by omega, Nat.testBit_and]
theorem cover_run (b e L : Nat) (hb : b < e) (he : e < 18446744073709551616) (h1 : 2 ^ L ≤ e - b - 1) (h2 : e - b - 1 < 2 ^ (L + 1)) (hL : L < 64) : ∀ d j, j + d = L + 1 →
    Ev (fun k => spec_Covering.l0 k (b : Int) (e : Int) (j : Int) 0) (((L + 1 : Nat) : Int), ((b / 2 ^ (L + 1) : Nat) : Int)) := by
  have hw : IntKind.u64.wrap (IntKind.u64.wrap ((e : Int) - (b : Int)) - 1) = ((e - b - 1 : Nat) : Int) := by
    rw [sub64 e b (by omega) he]
    exact sub64 (e - b) 1 (by omega) (by omega)
  intro d
  induction d with
  | zero =>
    intro j hj
    obtain rfl : j = L + 1 := hj
    refine Ev.now1 fun k => ?_
    simp only [spec_Covering.l0]
    rw [hw]
    by_cases h64 : ((L + 1 : Nat) : Int) < 64
    · rw [if_pos h64, if_pos (by omega), shr_nat _ _ (by omega), shr_nat _ _ (by omega), Nat.div_eq_of_lt h2, if_neg (by decide)]
    · rw [if_neg h64, if_pos (by omega), shr_nat _ _ (by omega)]
  | succ d ih =>
    intro j hj
    have hge : 1 ≤ (e - b - 1) / 2 ^ j := by
      rw [Nat.le_div_iff_mul_le (two_pow_pos j), Nat.one_mul]
      exact Nat.le_trans (pow_mono (by omega)) h1
    refine Ev.step (f := fun k => spec_Covering.l0 k (b : Int) (e : Int) ((j + 1 : Nat) : Int) 0) (fun k => ?_) (ih (j + 1) (by omega))
    simp only [spec_Covering.l0]
    rw [hw, if_pos (by omega), if_pos (by omega), shr_nat _ _ (by omega), if_pos (by omega)]
    rw [show (j : Int) + 1 = ((j + 1 : Nat) : Int) by omega, u64_small _ (by omega)]
theorem leaves_eq (n : Nd) (h1 : n.1 < 64) (h2 : (n.2 + 1) * 2 ^ n.1 < 18446744073709551616) : ∃ z, spec_Leaves.f (n.1 : Int) (n.2 : Int) = some (((n.2 * 2 ^ n.1 : Nat) : Int), z) := by
  unfold spec_Leaves.f
  have h3 : n.2 * 2 ^ n.1 ≤ (n.2 + 1) * 2 ^ n.1 := Nat.mul_le_mul_right _ (by omega)
  rw [if_pos (by omega), shl_nat _ _ (by omega), Nat.mod_eq_of_lt (by omega)]
  exact ⟨_, rfl⟩
def named (t : List Nd) (l : List (List Int)) : List S88 := List.zipWith (fun n x => (⟨sn n, x⟩ : S88)) t l
theorem named_length (t : List Nd) (l : List (List Int)) (h : l.length = t.length) : (named t l).length = t.length := by simp [named, h]
theorem named_get (t : List Nd) (l : List (List Int)) (h : l.length = t.length) (i : Nat) (hi : i < t.length) : (named t l).getD i z88 = ⟨sn (t.getD i (0, 0)), l.getD i []⟩ := by
  have hi2 : i < l.length := by omega
  simp [named, List.getD_eq_getElem?_getD, List.getElem?_zipWith, hi, hi2]
theorem nodes_ev {b e : Nat} {t : List Nd} (h64 : e < 18446744073709551616) (R : Row b e t) : Ev (fun k => spec_Nodes.f k (b : Int) (e : Int)) (t.map sn) := ⟨10001, fun k hk => spec_nodes h64 R k (by omega)⟩
theorem named_ev (b e : Nat) (h64 : e < 18446744073709551616) (t : List Nd) (l : List (List Int)) (R : Row b e t) (hl : l.length = t.length) : Ev (fun k => spec_Named.f k (b : Int) (e : Int) l) (named t l) := by
  unfold spec_Named.f
  refine Ev.bind (a := t.map sn) (nodes_ev h64 R) ?_
  have hlen := R.len
  have hnl := named_length t l hl
  have h := for_ev0 (fun k (s : List S88) i => spec_Named.l0 k s (t.map sn) ((t.map sn).length : Int) i (b : Int) (e : Int) l) t.length (fun i => (named t l).take i) (named t l) ?_ ?_
  · simpa using h
  · refine Ev.now1 fun k => ?_
    simp only [spec_Named.l0]
    rw [if_neg (by simp), List.take_of_length_le (by omega)]
  · intro i hi ih
    refine Ev.step (f := fun k => spec_Named.l0 k ((named t l).take (i + 1)) (t.map sn) ((t.map sn).length : Int) ((i + 1 : Nat) : Int) (b : Int) (e : Int) l) (fun k => ?_) ih
    simp only [spec_Named.l0]
    rw [if_pos (by simp; omega), if_pos (by omega), if_pos (by simp; omega), if_pos (by omega), if_pos (by rw [List.length_take]; omega), wr1 i (by omega)]
    have e1 : rd_T70 (t.map sn) (i : Int) = sn (t.getD i (0, 0)) := by
      unfold rd_T70
      rw [Int.toNat_natCast]
      simp [List.getD_eq_getElem?_getD, hi]
    have e2 : rd_L1 l (i : Int) = l.getD i [] := by unfold rd_L1; rw [Int.toNat_natCast]
    rw [e1, e2, ← take_snoc (named t l) z88 i (by omega), named_get t l hl i hi]
theorem sameV_ev (L : List S88) (h : L.length ≤ 1000000) : Ev (fun k => spec_SameVisits.f k L L) true := by
  unfold spec_SameVisits.f
  simp only [if_true]
  have h2 := for_ev0 (fun k (s : Unit) i => spec_SameVisits.l0 k L L (L.length : Int) i) L.length (fun _ => ()) true ?_ ?_
  · simpa using h2
  · refine Ev.now1 fun k => ?_
    simp only [spec_SameVisits.l0]
    rw [if_neg (by omega)]
  · intro i hi ih
    refine Ev.step (f := fun k => spec_SameVisits.l0 k L L (L.length : Int) ((i + 1 : Nat) : Int)) (fun k => ?_) ih
    simp only [spec_SameVisits.l0]
    rw [if_pos (by omega), if_pos (by omega), if_pos (by omega), if_pos (by omega), if_neg (by simp), if_pos trivial, wr1 i (by omega)]
theorem both (h : Hs) (e : Nat) (he : e < 18446744073709551616) (t : List Nd) (R : Row 0 e t) (l : List (List Int)) (hl : l.length = t.length) (hx : ∀ x ∈ l, x.length ≤ 5000) (hl3 : l.length ≤ 300) : ∀ (i : Nat) (hash : List Int) (size : Nat) (L : List S88), i < t.length → Til size 0 (t.take (i + 1)) → hash.length + 5009 * i ≤ 1600000 → L.length + i ≤ 1000 →
    ∃ root L', root.length ≤ 1600000 ∧ L'.length ≤ 1000 ∧ Ev (fun k => rroot k h.k h.s h.b h.e h.l h.n l i hash size L) (root, L') ∧ Ev (fun k => srr k h.k h.s h.b h.e h.l h.n (e : Int) (named t l) i hash L) (root, L') := by
  intro i
  induction i with
  | zero => exact fun hash size L _ _ h3 h4 => ⟨hash, L, by omega, by omega, Ev.now _, Ev.now _⟩
  | succ i ih =>
    intro hash size L hi hT h3 h4
    have hxl : (l.getD i []).length ≤ 5000 := by
      rw [List.getD_eq_getElem?_getD, List.getElem?_eq_getElem (by omega)]
      exact hx _ (List.getElem_mem _)
    have hHl := H_length h (l.getD i []) hash
    obtain ⟨n, hn⟩ : ∃ n, n = t.getD i (0, 0) := ⟨_, rfl⟩
    obtain ⟨m, hm⟩ : ∃ m, m = t.getD (i + 1) (0, 0) := ⟨_, rfl⟩
    have et2 : t.take (i + 1 + 1) = t.take (i + 1) ++ [m] := by rw [hm, take_snoc t (0, 0) (i + 1) hi]
    have et1 : t.take (i + 1) = t.take i ++ [n] := by rw [hn, take_snoc t (0, 0) i (by omega)]
    have ed : t = t.take (i + 1) ++ m :: t.drop (i + 2) := by
      rw [show t.take (i + 1) ++ m :: t.drop (i + 2) = t.take (i + 1 + 1) ++ t.drop (i + 1 + 1) by rw [et2]; simp]
      exact (List.take_append_drop _ _).symm
    have ed1 : t = t.take i ++ n :: (m :: t.drop (i + 2)) := by rw [show t.take i ++ n :: (m :: t.drop (i + 2)) = t.take (i + 1) ++ m :: t.drop (i + 2) by rw [et1]; simp]; exact ed
    have zm := zero_row (s := t.take (i + 1)) (n := m) (r := t.drop (i + 2)) (by rw [← ed]; exact R.til) (by rw [← ed]; exact R.sf)
    have zn := zero_row (s := t.take i) (n := n) (r := m :: t.drop (i + 2)) (by rw [← ed1]; exact R.til) (by rw [← ed1]; exact R.sf)
    rw [et2] at hT
    obtain ⟨g1, g2⟩ := til_snoc hT
    obtain ⟨y, hy⟩ : ∃ y, m.2 = 2 * y := ⟨m.2 / 2, by omega⟩
    have hclr : clr size = m.2 * 2 ^ m.1 := by rw [← g2, hy, clr_pow]
    have g3 := zm.2.1
    rw [et1] at g3
    obtain ⟨g4, g5⟩ := til_snoc g3
    obtain ⟨u, hu⟩ : ∃ u, n.2 = 2 * u := ⟨n.2 / 2, by omega⟩
    have hn1 : n.1 < 64 := R.lev n (by rw [ed1]; simp)
    have hpn := two_pow_pos n.1
    have hpm := two_pow_pos m.1
    have hee := zm.2.2.1.le
    have hem : (m.2 + 1) * 2 ^ m.1 = m.2 * 2 ^ m.1 + 2 ^ m.1 := by rw [Nat.add_mul, Nat.one_mul]
    have hen : (n.2 + 1) * 2 ^ n.1 = n.2 * 2 ^ n.1 + 2 ^ n.1 := by rw [Nat.add_mul, Nat.one_mul]
    have hen2 : (n.2 + 2) * 2 ^ n.1 = n.2 * 2 ^ n.1 + 2 * 2 ^ n.1 := by rw [Nat.add_mul]
    have hlt := zn.2.2.2
    have hdiv1 : clr size / 2 ^ (n.1 + 1) = u := by
      rw [hclr, ← g5, hu, pow_add_two, Nat.mul_comm 2 (2 ^ n.1), ← Nat.div_div_eq_div_mul, Nat.mul_div_cancel _ hpn]
      omega
    have hdiv2 : n.2 * 2 ^ n.1 / 2 ^ (n.1 + 1) = u := by
      rw [hu, Nat.mul_comm 2 u, Nat.mul_assoc, ← pow_add_two, Nat.mul_div_cancel _ (two_pow_pos _)]
    have htz : bits_TrailingZeros64.f ((clr size : Nat) : Int) = some ((n.1 : Nat) : Int) := by
      have e1 : clr size = 2 ^ n.1 * (2 * u + 1) := by rw [hclr, ← g5, hu, Nat.mul_comm]
      unfold bits_TrailingZeros64.f
      rw [if_pos (by omega), if_pos (by omega), Int.toNat_natCast, e1, ctz_of u n.1 hn1 (by rw [← e1]; omega)]
    obtain ⟨z, hlv⟩ := leaves_eq n hn1 (by omega)
    have hcov := cover_run (n.2 * 2 ^ n.1) e n.1 (by omega) he (by omega) (by rw [pow_add_two]; omega) hn1 (n.1 + 1) 0 (by omega)
    rw [hdiv2] at hcov
    obtain ⟨root, L', r1, r2, r3, r4⟩ := ih (H h (l.getD i []) hash) (clr size) (L ++ [⟨⟨((n.1 + 1 : Nat) : Int), (u : Int)⟩, H h (l.getD i []) hash⟩]) (by omega) (by rw [hclr]; exact zm.2.1) (by omega) (by rw [List.length_append, List.length_singleton]; omega)
    refine ⟨root, L', r1, r2, ?_, ?_⟩
    · simp only [rroot]
      refine Ev.bind (hash_ev h _ _ (by omega)) ?_
      simp only [if_pos (show (H h (l.getD i []) hash).length < 140737488355328 by omega), htz, Option.bind_some, if_pos (show (0 : Int) ≤ (n.1 : Int) ∧ (n.1 : Int) < 64 by omega), Int.toNat_natCast, hdiv1]
      exact r3
    · simp only [srr, named_get t l hl i (by omega)]
      refine Ev.bind (shash_ev h _ _ (by omega)) ?_
      rw [← hn]
      simp only [sn, hlv, Option.bind_some]
      refine Ev.bind hcov ?_
      simp only [if_pos (show L.length < 1000000 by omega)]
      exact r4
theorem small_ev (l : List (List Int)) (hl : l.length ≤ 2147483647) : ∃ s, Ev (fun k => laws_logSmall.f k l) s ∧ (s = true → (∀ x ∈ l, x.length ≤ 5000) ∧ l.length ≤ 300) := by
  have h1 : l.length < 1000000000000000000 := Nat.lt_of_le_of_lt hl (by decide)
  obtain ⟨s, h2, h3⟩ := small_eq l (l.length + 1) h1 (Nat.lt_succ_self _)
  exact ⟨s, Ev.of (laws_logSmall.mono _) h2, h3⟩
theorem fair_ev (b e : Nat) (h64 : e < 18446744073709551616) (l : List (List Int)) (hl : l.length ≤ 2147483647) : ∃ r, Ev (fun k => laws_rangeFair.f k (b : Int) (e : Int) l) r ∧ (r = true → b ≤ e ∧ (∃ t, Row b e t ∧ l.length = t.length) ∧ (∀ x ∈ l, x.length ≤ 5000) ∧ l.length ≤ 300) := by
  unfold laws_rangeFair.f spec_ProperRange.f
  by_cases hbe : b ≤ e
  · obtain ⟨t, R, _⟩ := range_row b e hbe h64
    simp only [if_pos (Int.ofNat_le.2 hbe)]
    by_cases hlt : l.length = t.length
    · obtain ⟨s, h1, h2⟩ := small_ev l hl
      refine ⟨s, Ev.bind (a := true) (Ev.bind (a := t.map sn) (nodes_ev h64 R) ?_) ?_, fun hs => ⟨hbe, ⟨t, R, hlt⟩, (h2 hs).1, (h2 hs).2⟩⟩
      · have e1 : ((l.length : Int) == ((t.map sn).length : Int)) = true := by rw [beq_iff_eq, hlt, List.length_map]
        rw [e1]
        exact Ev.now _
      · simp only [if_true]
        exact Ev.bind h1 (Ev.now _)
    · refine ⟨false, Ev.bind (a := false) (Ev.bind (a := t.map sn) (nodes_ev h64 R) ?_) ?_, fun hs => by cases hs⟩
      · have e1 : ((l.length : Int) == ((t.map sn).length : Int)) = false := by rw [beq_eq_false_iff_ne, List.length_map]; exact fun h => hlt (Int.ofNat.inj h)
        rw [e1]
        exact Ev.now _
      · exact Ev.now _
  · simp only [if_neg (show ¬ (b : Int) ≤ (e : Int) from fun h => hbe (Int.ofNat_le.1 h))]
    exact ⟨false, Ev.bind (a := false) (Ev.now _) (Ev.now _), fun hs => by cases hs⟩
theorem FnRangeRoot_ev (h : Hs) (b e : Nat) (hb64 : b < 18446744073709551616) (h64 : e < 18446744073709551616) (l : List (List Int)) : Ev (fun k => laws_FnRangeRoot.f k h.k h.s h.b h.e h.l h.n (b : Int) (e : Int) l) true := by
  unfold laws_FnRangeRoot.f laws_zzFits7.f
  obtain ⟨f, hf, hf2⟩ := fits_eq l (l.length + 1) (by omega)
  have hfe : Ev (fun k => laws_zzFits2.f k l) f := Ev.of (laws_zzFits2.mono _) hf
  cases f with
  | false => exact Ev.bind (a := false) (Ev.bind hfe (Ev.now _)) (Ev.now _)
  | true =>
  refine Ev.bind (a := true) (Ev.bind hfe (Ev.now _)) ?_
  simp only [if_true]
  obtain ⟨r, hr, hr2⟩ := fair_ev b e h64 l (hf2 rfl).1
  refine Ev.bind hr ?_
  cases r with
  | false => exact Ev.now _
  | true =>
  simp only [if_true]
  obtain ⟨hbe, ⟨t, R, hlt⟩, hx, hl3⟩ := hr2 rfl
  have htx := texts_ev l (by omega) (fun x hx' => by have := hx x hx'; omega)
  have hsz := size_of hbe h64 R
  have hcond : (b : Int) ≤ (e : Int) ∧ (0 : Int) ≤ (b : Int) ∧ (e : Int) < 18446744073709551616 ∧ l.length ≤ 100000 ∧ (l.length : Int) = (t.length : Int) := ⟨by omega, by omega, by omega, by omega, by omega⟩
  by_cases hb0 : b = 0
  · have R0 : Row 0 e t := hb0 ▸ R
    have hbi : (b : Int) = 0 := by rw [hb0]; rfl
    by_cases he0 : e = 0
    · have hei : (e : Int) = 0 := by rw [he0]; rfl
      have ht0 : t = [] := by
        cases t with
        | nil => rfl
        | cons n t => have h1 := R0.til.1; have h2 := R0.til.2.le; have := two_pow_pos n.1; omega
      have hl0 : l.length = 0 := by rw [hlt, ht0]; rfl
      have hroot : Ev (fun k => impl_RootHash.f k h.k h.s h.b h.e h.l h.n (b : Int) (e : Int) l) ([], [], true) := by
        unfold impl_RootHash.f
        refine Ev.bind htx ?_
        simp only [hsz, Option.bind_some, if_pos hcond]
        simp only [if_pos hbi, if_pos hl0]
        exact Ev.now _
      refine Ev.bind hroot ?_
      simp only [if_pos hbi, if_pos hei]
      exact Ev.now _
    · have hei : ¬ (e : Int) = 0 := fun h => he0 (Int.ofNat.inj h)
      have htp : 0 < t.length := by
        cases t with
        | nil => exact absurd R0.til (by intro h1; have h2 : 0 = e := h1; omega)
        | cons n t => simp
      have hne : ¬ l.length = 0 := by rw [hlt]; exact Nat.ne_of_gt htp
      have hlast : (l.getD (l.length - 1) []).length ≤ 5000 := by
        rw [List.getD_eq_getElem?_getD, List.getElem?_eq_getElem (by omega)]
        exact hx _ (List.getElem_mem _)
      obtain ⟨root, L', r1, r2, r3, r4⟩ := both h e h64 t R0 l hlt hx hl3 (l.length - 1) (l.getD (l.length - 1) []) e [] (by omega) (by rw [show l.length - 1 + 1 = t.length by omega, List.take_length]; exact R0.til) (by omega) (by simp; omega)
      have hrl : root.length < 140737488355328 := Nat.lt_of_le_of_lt r1 (by decide)
      have hroot : Ev (fun k => impl_RootHash.f k h.k h.s h.b h.e h.l h.n (b : Int) (e : Int) l) (root, L', true) := by
        unfold impl_RootHash.f
        refine Ev.bind htx ?_
        simp only [hsz, Option.bind_some, if_pos hcond]
        simp only [if_pos hbi, if_neg hne, Int.toNat_natCast]
        refine Ev.bind r3 ?_
        simp only [if_pos hrl]
        exact Ev.now _
      refine Ev.bind hroot ?_
      simp only [if_pos hbi, if_neg hei]
      have hspec : Ev (fun k => spec_RangeRoot.f k h.k h.s h.b h.e h.l h.n (b : Int) (e : Int) l) (root, L') := by
        unfold spec_RangeRoot.f
        refine Ev.bind (named_ev b e h64 t l R hlt) ?_
        have hnl := named_length t l hlt
        have hc2 : 0 < t.length ∧ t.length ≤ 100000 := ⟨htp, by omega⟩
        simp only [hnl, if_pos hc2, named_get t l hlt (t.length - 1) (by omega)]
        rw [← hlt]
        exact r4
      refine Ev.bind hspec ?_
      simp only [if_true]
      refine Ev.bind (a := true) ?_ ?_
      · simp only [spec_SameText.f]
        simp
        exact Ev.now _
      · simp only [if_true]
        exact Ev.bind (sameV_ev L' (by omega)) (Ev.now _)
  · have hroot : Ev (fun k => impl_RootHash.f k h.k h.s h.b h.e h.l h.n (b : Int) (e : Int) l) ([], [], false) := by
      unfold impl_RootHash.f
      refine Ev.bind htx ?_
      simp only [hsz, Option.bind_some, if_pos hcond]
      simp only [if_neg (show ¬ (b : Int) = 0 by omega)]
      exact Ev.now _
    refine Ev.bind hroot ?_
    simp only [if_neg (show ¬ (b : Int) = 0 by omega)]
    exact Ev.now _
theorem u64_nat (a : Int) (h : (Lit.int .u64 a).wf = true) : ∃ n : Nat, a = (n : Int) ∧ n < 18446744073709551616 := by
  have h2 : 0 ≤ a ∧ a < 18446744073709551616 := by
    simp [Lit.wf, IntKind.min, IntKind.max, IntKind.signed, IntKind.bits] at h
    omega
  exact ⟨a.toNat, by omega, by omega⟩
theorem FnRangeRoot (a0_0 : Int) (a0_1 : Int) (a0_2 : Int) (a0_3 : Int) (a0_4 : Int) (a0_5 : Int) (w0 : ((Lit.int .i64 a0_0).wf = true) ∧ ((Lit.int .i64 a0_1).wf = true) ∧ ((Lit.int .i64 a0_2).wf = true) ∧ ((Lit.int .u64 a0_3).wf = true) ∧ ((Lit.int .u64 a0_4).wf = true) ∧ ((Lit.int .u64 a0_5).wf = true)) (a1_0 : Int) (a1_1 : Int) (l1_2 : List (List Int)) (w1 : ((Lit.int .u64 a1_0).wf = true) ∧ ((Lit.int .u64 a1_1).wf = true) ∧ (l1_2.length ≤ maxLen ∧ ∀ y ∈ l1_2, y.length ≤ maxLen ∧ ∀ y' ∈ y, (Lit.int .u8 y').wf = true)) : ∃ k, U.laws_FnRangeRoot.f k a0_0 a0_1 a0_2 a0_3 a0_4 a0_5 a1_0 a1_1 l1_2 = some true := by
  obtain ⟨b, rfl, hb⟩ := u64_nat a1_0 w1.1
  obtain ⟨e, rfl, he⟩ := u64_nat a1_1 w1.2.1
  exact (FnRangeRoot_ev ⟨a0_0, a0_1, a0_2, a0_3, a0_4, a0_5⟩ b e hb he l1_2).rounds
end Go.Proofs.YtijldedhcjkhiaaDoor.Pure
