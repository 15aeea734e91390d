import Derived.Test.YtijldedhcjkhiaaDoorKMZConsN
import Derived.Test.YtijldedhcjkhiaaDoorKMZPath
namespace Go.Proofs.YtijldedhcjkhiaaDoor.Z
open Go.RowKit Go.Proofs.YtijldedhcjkhiaaDoorW.PrintWords Go.Proofs.YtijldedhcjkhiaaDoorW.PrintLast Go.Proofs.YtijldedhcjkhiaaDoorW.PrintMore Go.Proofs.YtijldedhcjkhiaaDoorM
set_option linter.unusedVariables false
theorem low_scaled (c A n : Nat) : (2 ^ c * A + (2 ^ c - 1)) / 2 ^ (n + c) = A / 2 ^ n := by
  have hp := two_pow_pos c
  rw [Nat.add_comm n c, Nat.pow_add, ← Nat.div_div_eq_div_mul, Nat.mul_add_div hp, Nat.div_eq_of_lt (show 2 ^ c - 1 < 2 ^ c by omega), Nat.add_zero]
theorem pred_scaled (c a : Nat) (h : 0 < a) : a * 2 ^ c - 1 = 2 ^ c * (a - 1) + (2 ^ c - 1) := by
  have hp := two_pow_pos c
  obtain ⟨z, rfl⟩ : ∃ z, a = z + 1 := ⟨a - 1, by omega⟩
  rw [Nat.add_sub_cancel, Nat.add_mul, Nat.one_mul, Nat.mul_comm z]
  omega
theorem inn_scaled (c a b : Nat) (ha : 0 < a) (hab : a < b) (hb : b * 2 ^ c < 18446744073709551616) : inn (a * 2 ^ c - 1) (b * 2 ^ c) = inn (a - 1) b + c ∧ bor (a * 2 ^ c - 1) (b * 2 ^ c) = bor (a - 1) b := by
  have hp := two_pow_pos c
  have hb1 : b < 18446744073709551616 := Nat.lt_of_le_of_lt (Nat.le_mul_of_pos_right _ hp) hb
  have hab2 : a * 2 ^ c ≤ b * 2 ^ c := Nat.mul_le_mul_right _ (by omega)
  have hA : a * 2 ^ c - 1 < 18446744073709551616 := Nat.lt_of_le_of_lt (Nat.sub_le _ _) (Nat.lt_of_le_of_lt hab2 hb)
  have hB : b * 2 ^ c - 1 < 18446744073709551616 := Nat.lt_of_le_of_lt (Nat.sub_le _ _) hb
  have key : ∀ n, inn (a * 2 ^ c - 1) (b * 2 ^ c) ≤ n + c ↔ inn (a - 1) b ≤ n := by
    intro n
    unfold inn
    rw [← shift_eq_iff _ _ _ hA hB, ← shift_eq_iff _ _ _ (by omega) (by omega), pred_scaled c a ha, pred_scaled c b (by omega), low_scaled, low_scaled]
  have h0 : ¬ inn (a - 1) b ≤ 0 := by
    unfold inn
    rw [← shift_eq_iff _ _ _ (by omega) (by omega), Nat.pow_zero, Nat.div_one, Nat.div_one]
    omega
  have k1 := (key (inn (a - 1) b)).2 (Nat.le_refl _)
  have k2 : ¬ inn (a * 2 ^ c - 1) (b * 2 ^ c) ≤ inn (a - 1) b - 1 + c := fun h => by
    have := (key (inn (a - 1) b - 1)).1 h
    omega
  have e : inn (a * 2 ^ c - 1) (b * 2 ^ c) = inn (a - 1) b + c := by omega
  refine ⟨e, ?_⟩
  unfold bor
  rw [e, pred_scaled c a ha, low_scaled]
def up (c : Nat) (n : Nd) : Nd := (n.1 + c, n.2)
theorem til_up (c : Nat) {e : Nat} : ∀ {t : List Nd} {b : Nat}, Til e b t → Til (e * 2 ^ c) (b * 2 ^ c) (t.map (up c))
  | [], b, h => by
    have h' : b = e := h
    subst h'
    exact rfl
  | n :: t, b, h => by
    obtain ⟨h1, h2⟩ := h
    refine ⟨?_, ?_⟩
    · show n.2 * 2 ^ (n.1 + c) = b * 2 ^ c
      rw [Nat.pow_add, ← Nat.mul_assoc, h1]
    · show Til (e * 2 ^ c) (b * 2 ^ c + 2 ^ (n.1 + c)) (t.map (up c))
      have h3 := til_up c h2
      rw [Nat.add_mul, ← Nat.pow_add] at h3
      exact h3
theorem sf_up (c : Nat) : ∀ {t : List Nd}, SF t → SF (t.map (up c))
  | [], h => trivial
  | n :: t, h => by
    refine ⟨fun m hm => ?_, sf_up c h.2⟩
    cases t with
    | nil => simp at hm
    | cons x t =>
      simp only [List.map_cons, List.head?_cons, Option.some.injEq] at hm
      subst hm
      have hf := h.1 x rfl
      intro hx
      refine hf ⟨?_, hx.2⟩
      have h1 : n.1 + c = x.1 + c := hx.1
      omega
theorem sibs_up (c L i d : Nat) : sibs (L + c) i d = (sibs L i d).map (up c) := by
  induction d with
  | zero => rfl
  | succ d ih =>
    rw [sibs_succ, sibs_succ, ih, List.map_append]
    congr 1
    show [(L + c + d, i / 2 ^ d ^^^ 1)] = [(L + d + c, i / 2 ^ d ^^^ 1)]
    rw [show L + c + d = L + d + c by omega]
theorem cl_up (c s u d : Nat) (t1 t2 : List Nd) : cl (s + c) u d (t1.map (up c)) (t2.map (up c)) = (cl s u d t1 t2).map (up c) := by
  unfold cl
  rw [sibs_up]
  split <;> simp
theorem clb_up (c u d : Nat) (t1 : List Nd) : clb u d (t1.map (up c)) = clb u d t1 := by
  unfold clb
  cases t1 <;> simp
theorem cons_scaled (a b s u c : Nat) (ha : a = 2 ^ s * (2 * u + 1)) (hs : Lib.ctz 64 a = s) (hab : a < b) (hb : b * 2 ^ c < 18446744073709551616) : ∃ d t1 t2, (∀ n ∈ cl s u d t1 t2, n.1 < 64) ∧ (cl s u d t1 t2).length ≤ 400 ∧ s + d < 64 ∧
    ∀ k, 1200 < k → impl_Consistency.f k (a : Int) (b : Int) = some ((cl s u d t1 t2).map sn, ((s + d : Nat) : Int), ((2 * u / 2 ^ d ^^^ 1 : Nat) : Int), clb u d t1, clb u d t1 + (t1.length : Int), true) ∧
      impl_Consistency.f k ((a * 2 ^ c : Nat) : Int) ((b * 2 ^ c : Nat) : Int) = some (((cl s u d t1 t2).map (up c)).map sn, ((s + d + c : Nat) : Int), ((2 * u / 2 ^ d ^^^ 1 : Nat) : Int), clb u d t1, clb u d t1 + (t1.length : Int), true) := by
  have hp := two_pow_pos c
  have hb1 : b < 18446744073709551616 := Nat.lt_of_le_of_lt (Nat.le_mul_of_pos_right _ hp) hb
  have hac : a * 2 ^ c = 2 ^ (s + c) * (2 * u + 1) := by rw [ha, Nat.pow_add, Nat.mul_right_comm]
  have habc : a * 2 ^ c < b * 2 ^ c := Nat.mul_lt_mul_of_pos_right hab hp
  have hsc : s + c < 64 := by
    refine pow_lt_iff.1 (Nat.lt_of_le_of_lt ?_ (show b * 2 ^ c < 2 ^ 64 by rw [pow64]; exact hb))
    refine Nat.le_trans ?_ (Nat.le_of_lt habc)
    rw [hac]
    exact Nat.le_mul_of_pos_right _ (by omega)
  have hctz : Lib.ctz 64 (a * 2 ^ c) = s + c := by
    rw [hac]
    exact ctz_of u (s + c) hsc (by rw [← hac]; omega)
  obtain ⟨d, t1, t2, R1, R2, hsd, hend, hlen, hn⟩ := cons_eq a b s u ha hs hab hb1
  obtain ⟨d', v1, v2, S1, S2, hsd', hend', hlen', hn'⟩ := cons_eq (a * 2 ^ c) (b * 2 ^ c) (s + c) u hac hctz habc hb
  have hdiv : b * 2 ^ c / 2 ^ (s + c) = b / 2 ^ s := by rw [Nat.pow_add, Nat.mul_div_mul_right _ _ hp]
  rw [hdiv, hlen] at hlen'
  obtain rfl : d = d' := by omega
  have e1 : 2 ^ (s + c + d) = 2 ^ (s + d) * 2 ^ c := by rw [← Nat.pow_add]; congr 1; omega
  have T1 := S1.til
  have T2 := S2.til
  rw [e1, ← Nat.mul_assoc] at T1 T2
  have q1 : v1 = t1.map (up c) := uniq T1 S1.sf (til_up c R1.til) (sf_up c R1.sf)
  have R2' := til_up c R2.til
  rw [Nat.zero_mul] at R2'
  have q2 : v2 = t2.map (up c) := uniq T2 S2.sf R2' (sf_up c R2.sf)
  subst q1 q2
  have l1 := R1.len
  have l2 := R2.len
  refine ⟨d, t1, t2, ?_, ?_, hsd, fun k hk => ⟨hn k hk, ?_⟩⟩
  · intro n hn2
    have hsib : ∀ m ∈ sibs s (2 * u) d, m.1 < 64 := by
      intro m hm
      unfold sibs at hm
      rcases List.mem_cons.1 hm with rfl | hm
      · show s < 64
        omega
      · obtain ⟨j, hj, rfl⟩ := List.mem_map.1 hm
        have := List.mem_range.1 hj
        show s + j < 64
        omega
    unfold cl at hn2
    rcases List.mem_append.1 hn2 with hn2 | hn2
    · split at hn2
      · exact hsib n (List.mem_of_mem_tail hn2)
      · exact hsib n hn2
    · rcases List.mem_append.1 hn2 with hn2 | hn2
      · exact R1.lev n (List.mem_reverse.1 hn2)
      · exact R2.lev n (List.mem_reverse.1 hn2)
  · unfold cl
    split <;> simp [sibs_length] <;> omega
  · rw [hn' k hk, cl_up, clb_up, List.length_map, show s + c + d = s + d + c by omega]
end Go.Proofs.YtijldedhcjkhiaaDoor.Z
