import Derived.Test.YtijldedhcjkhiaaDoorCMYConsN
import Derived.Test.YtijldedhcjkhiaaDoorCY5
namespace Go.Proofs.YtijldedhcjkhiaaDoor.Pure
open Go.RowKit Go.Proofs.YtijldedhcjkhiaaDoorW.PrintWords Go.Proofs.YtijldedhcjkhiaaDoorW.PrintLast Go.Proofs.YtijldedhcjkhiaaDoorW.PrintMore Go.Proofs.YtijldedhcjkhiaaDoor.Y Go.Proofs.YtijldedhcjkhiaaDoorM
set_option linter.unusedVariables false
theorem read_at (p t : List Nd) (n : Nd) : rd_T70 ((p ++ n :: t).map sn) (p.length : Int) = sn n := by simp [rd_T70]
theorem leaves_eq (n : Nd) (hl : n.1 < 64) (h : nhi n < 18446744073709551616) : spec_Leaves.f (n.1 : Int) (n.2 : Int) = some ((nlo n : Int), (nhi n : Int)) := by
  have e := nhi_eq n
  have hp := two_pow_pos n.1
  have h1 : n.2 + 1 < 18446744073709551616 := Nat.lt_of_le_of_lt (Nat.le_mul_of_pos_right _ hp) h
  unfold spec_Leaves.f
  rw [if_pos (Int.natCast_nonneg _), show (n.2 : Int) + 1 = ((n.2 + 1 : Nat) : Int) by omega, u64_small _ h1, shl_nat _ _ (by omega), shl_nat _ _ (by omega)]
  have h2 : n.2 * 2 ^ n.1 < 18446744073709551616 := Nat.lt_of_le_of_lt (Nat.mul_le_mul_right _ (by omega)) h
  have h3 : (n.2 + 1) * 2 ^ n.1 < 18446744073709551616 := h
  rw [Nat.mod_eq_of_lt h2, Nat.mod_eq_of_lt h3]
  rfl
theorem apart_run (a b sum from_ : Int) (L : List S70) (len idx c1 c2 c3 c4 : Int) (n : Nd) (suf : List Nd) : ∀ (pre : List Nd) (k : Nat), (pre ++ suf).length ≤ 1000 → (∀ m ∈ suf, m.1 < 64 ∧ nhi m < 18446744073709551616 ∧ Apart m n) →
    laws_FnConsistencyCovers.l1 (k + suf.length + 1) a b true sum from_ L len idx ((pre ++ suf).map sn) (((pre ++ suf).map sn).length : Int) (pre.length : Int) L c1 c2 c3 c4 (nlo n : Int) (nhi n : Int)
      = laws_FnConsistencyCovers.l0 (k) a b true (IntKind.u64.wrap (sum + IntKind.u64.wrap ((nhi n : Int) - (nlo n : Int)))) from_ L len (wrap64 (idx + 1)) L c1 c2 c3 c4 := by
  induction suf with
  | nil =>
    intro pre k hl hm
    rw [List.length_nil, Nat.add_zero, laws_FnConsistencyCovers.l1, if_neg (by simp)]
  | cons m suf ih =>
    intro pre k hl hm
    obtain ⟨m1, m2, m3⟩ := hm m (by simp)
    have hlt : (pre.length : Int) < (((pre ++ m :: suf).map sn).length : Int) := by simp; omega
    have ih' := ih (pre ++ [m]) k (by simp at hl ⊢; omega) (fun x hx => hm x (by simp [hx]))
    rw [List.append_assoc, List.singleton_append] at ih'
    have ew : wrap64 ((pre.length : Int) + 1) = ((pre ++ [m]).length : Int) := by
      rw [show ((pre ++ [m]).length : Int) = (pre.length : Int) + 1 by simp]
      simp at hl
      exact wrap64_id _ (by omega) (by omega)
    rw [List.length_cons, show k + (suf.length + 1) + 1 = (k + suf.length + 1) + 1 by omega, laws_FnConsistencyCovers.l1, if_pos hlt, if_pos (Int.natCast_nonneg _), if_pos hlt, read_at, ew]
    refine (bind_of (leaves_eq m m1 m2)).trans ?_
    by_cases hc : (nlo n : Int) < (nhi m : Int)
    · have h2 : nhi n ≤ nlo m := by rcases m3 with h | h <;> omega
      rw [if_pos hc]
      refine (if_neg (show ¬ (nlo m : Int) < (nhi n : Int) by omega)).trans ih'
    · rw [if_neg hc]
      exact ih'
theorem cover_run (a b from_ : Nat) (l : List Nd) (c1 c2 c3 c4 : Int) (hb : b < 18446744073709551616) (hl : l.length ≤ 900) (hn : ∀ n ∈ l, n.1 < 64 ∧ nhi n ≤ b ∧ from_ ≤ nlo n ∧ ¬ (nlo n < a ∧ a < nhi n)) (hd : l.Pairwise Apart) (hs : from_ + tot l = b) (suf : List Nd) :
    ∀ (pre : List Nd) (k : Nat), pre ++ suf = l → suf.length * (l.length + 5) + 1 ≤ k → laws_FnConsistencyCovers.l0 k (a : Int) (b : Int) true ((from_ + tot pre : Nat) : Int) (from_ : Int) (l.map sn) ((l.map sn).length : Int) (pre.length : Int) (l.map sn) c1 c2 c3 c4 = some true := by
  induction suf with
  | nil =>
    intro pre k hp hk
    obtain ⟨k, rfl⟩ : ∃ z, k = z + 1 := ⟨k - 1, by omega⟩
    rw [List.append_nil] at hp
    subst hp
    rw [laws_FnConsistencyCovers.l0, if_neg (by simp), if_pos rfl, hs]
    simp
  | cons n suf ih =>
    intro pre k hp hk
    have hpl : pre.length + (suf.length + 1) = l.length := by rw [← hp]; simp
    obtain ⟨n1, n2, n3, n4⟩ := hn n (by rw [← hp]; simp)
    rw [List.length_cons, Nat.add_mul, Nat.one_mul] at hk
    obtain ⟨k, rfl⟩ : ∃ z, k = (z + pre.length + 1) + 1 + 1 := ⟨k - pre.length - 3, by omega⟩
    have hlt : (pre.length : Int) < ((l.map sn).length : Int) := by rw [List.length_map]; omega
    have hrd : rd_T70 (l.map sn) (pre.length : Int) = sn n := by rw [← hp]; exact read_at pre suf n
    have e := nhi_eq n
    have hpw := two_pow_pos n.1
    have hap := hd
    rw [← hp] at hap
    have hap2 := (List.pairwise_append.1 hap).2.2
    have htk : (l.map sn).take (pre.length : Int).toNat = pre.map sn := by rw [← hp, Int.toNat_natCast, List.map_append, List.take_left' (by simp)]
    have htot : from_ + tot pre + 2 ^ n.1 ≤ b := by
      rw [← hs, ← hp, tot_append, tot_cons]
      omega
    have hj3 : laws_FnConsistencyCovers.j3 (k + pre.length + 1 + 1) (a : Int) (b : Int) true ((from_ + tot pre : Nat) : Int) (from_ : Int) (pre.length : Int) (l.map sn) ((l.map sn).length : Int) (pre.length : Int) false (l.map sn) c1 c2 c3 c4 (nlo n : Int) (nhi n : Int) = some true := by
      rw [laws_FnConsistencyCovers.j3, if_neg Bool.false_ne_true, if_pos (Int.natCast_nonneg _), if_pos (by omega), htk]
      refine (bind_of rfl).trans ?_
      have h1 := apart_run (a : Int) (b : Int) ((from_ + tot pre : Nat) : Int) (from_ : Int) (l.map sn) ((l.map sn).length : Int) (pre.length : Int) c1 c2 c3 c4 n pre [] k (by rw [List.nil_append]; omega) (fun m hm => by
        have h2 := hn m (by rw [← hp]; simp [hm])
        exact ⟨h2.1, by omega, hap2 m hm n (by simp)⟩)
      rw [List.nil_append] at h1
      have ew : wrap64 ((pre.length : Int) + 1) = ((pre ++ [n]).length : Int) := by
        rw [show ((pre ++ [n]).length : Int) = (pre.length : Int) + 1 by simp]
        exact wrap64_id _ (by omega) (by omega)
      have es : IntKind.u64.wrap (((from_ + tot pre : Nat) : Int) + IntKind.u64.wrap ((nhi n : Int) - (nlo n : Int))) = ((from_ + tot (pre ++ [n]) : Nat) : Int) := by
        rw [sub64 _ _ (by omega) (by omega), show nhi n - nlo n = 2 ^ n.1 by omega, add64 _ _ (by omega), tot_append]
        rw [show tot [n] = 2 ^ n.1 by simp [tot], Nat.add_assoc]
      rw [ew, es] at h1
      have h3 := ih (pre ++ [n]) k (by rw [← hp]; simp) (by omega)
      rw [h3] at h1
      exact h1
    rw [laws_FnConsistencyCovers.l0, if_pos hlt, if_pos (Int.natCast_nonneg _), if_pos hlt, hrd]
    refine (bind_of (leaves_eq n n1 (by omega))).trans ?_
    refine (if_neg (show ¬ (sn n).f0 ≥ 64 by unfold sn; simp only; omega)).trans ?_
    refine (if_neg (show ¬ (nhi n : Int) > (b : Int) by omega)).trans ?_
    refine (if_neg (show ¬ (nlo n : Int) ≥ (nhi n : Int) by omega)).trans ?_
    refine (if_neg (show ¬ (nlo n : Int) < (from_ : Int) by omega)).trans ?_
    by_cases hc : (nlo n : Int) < (a : Int)
    · refine (if_pos hc).trans ?_
      have hdec : decide ((nhi n : Int) > (a : Int)) = false := decide_eq_false (by omega)
      show laws_FnConsistencyCovers.j3 _ _ _ _ _ _ _ _ _ _ (decide ((nhi n : Int) > (a : Int))) _ _ _ _ _ _ _ = _
      rw [hdec]
      exact hj3
    · refine (if_neg hc).trans hj3
theorem and_pred (s u : Nat) (h64 : 2 ^ s * (2 * u + 1) < 18446744073709551616) : (2 ^ s * (2 * u + 1)) &&& (2 ^ s * (2 * u + 1) - 1) = 2 ^ s * (2 * u) := by
  have hp := two_pow_pos s
  have e1 : 2 ^ s * (2 * u + 1) - 1 = 2 ^ s * (2 * u) + (2 ^ s - 1) := by rw [Nat.mul_add]; omega
  have e2 : 2 ^ s * (2 * u + 1) = 2 ^ (s + 1) * u + 2 ^ s := by rw [pow_add_two, Nat.mul_add, Nat.mul_one, Nat.mul_assoc, Nat.mul_left_comm]
  have e3 : 2 ^ s * (2 * u) = 2 ^ (s + 1) * u := by rw [pow_add_two, Nat.mul_assoc, Nat.mul_left_comm]
  have e4 : 2 ^ (s + 1) = 2 * 2 ^ s := pow_add_two s
  rw [e1, e2, e3]
  apply Nat.eq_of_testBit_eq
  intro j
  rw [Nat.testBit_and, Nat.testBit_two_pow_mul_add _ (by omega), Nat.testBit_two_pow_mul_add _ (by omega), Nat.testBit_two_pow_mul]
  by_cases hj : j < s + 1
  · rw [if_pos hj, if_pos hj, Nat.testBit_two_pow, Nat.testBit_two_pow_sub_one]
    by_cases h : s = j
    · subst h
      simp
      intro hh
      omega
    · simp [h]; omega
  · rw [if_neg hj, if_neg hj]
    simp
    omega
theorem FnConsistencyCovers : laws_FnConsistencyCovers.Pure := by
  intro a0 a1 w0 w1
  obtain ⟨a, rfl, ha⟩ := wf_u64 a0 w0
  obtain ⟨b, rfl, hb⟩ := wf_u64 a1 w1
  refine ⟨1000000 + 3, ?_⟩
  unfold laws_FnConsistencyCovers.f
  by_cases h0 : a = 0
  · rw [if_pos (by omega), laws_FnConsistencyCovers.j0, if_pos rfl]
  rw [if_neg (by omega)]
  by_cases hab : b ≤ a
  · rw [decide_eq_true (by omega), laws_FnConsistencyCovers.j0, if_pos rfl]
  rw [decide_eq_false (by omega), laws_FnConsistencyCovers.j0, if_neg Bool.false_ne_true]
  obtain ⟨s, u, hau, hs, hctz⟩ := ctz_odd a (by omega) ha
  obtain ⟨d, t1, t2, R1, R2, hsd, hend, hlen, hn⟩ := cons_eq a b s u hau hctz (by omega) hb
  refine (bind_of (hn _ (by omega))).trans ?_
  have P := cons_pak R1 R2 hend
  have l1 := R1.len
  have l2 := R2.len
  have hps := two_pow_pos s
  have hand : Go.bits .and .u64 (a : Int) (IntKind.u64.wrap ((a : Int) - 1)) = ((2 ^ s * (2 * u) : Nat) : Int) := by
    rw [show (a : Int) - 1 = ((a - 1 : Nat) : Int) by omega, u64_small _ (by omega), and_nat _ _ ha (by omega)]
    rw [hau, and_pred s u (by rw [← hau]; exact ha)]
  have hfirst : nhi (s, 2 * u) = a := by
    show (2 * u + 1) * 2 ^ s = a
    rw [hau, Nat.mul_comm]
  have hlev : ∀ n : Nd, nhi n ≤ b → n.1 < 64 := fun n h => by
    refine pow_lt_iff.1 (Nat.lt_of_le_of_lt ?_ (show b < 2 ^ 64 by rw [pow64]; exact hb))
    have e := nhi_eq n
    omega
  have hcons : sibs s (2 * u) d ++ (t1.reverse ++ t2.reverse) = (s, 2 * u) :: ((sibs s (2 * u) d).tail ++ (t1.reverse ++ t2.reverse)) := rfl
  rw [hcons] at P
  have hpc := List.pairwise_cons.1 P.dis
  -- no node but the first one lies on both sides of the first log's end
  have hno : ∀ n ∈ (sibs s (2 * u) d).tail ++ (t1.reverse ++ t2.reverse), ¬ (nlo n < a ∧ a < nhi n) := fun n hn2 h => by
    have h1 := hpc.1 n hn2
    have e : nhi (s, 2 * u) = nlo (s, 2 * u) + 2 ^ s := nhi_eq _
    rcases h1 with h1 | h1 <;> omega
  have hlt : ((sibs s (2 * u) d).tail ++ (t1.reverse ++ t2.reverse)).length ≤ 400 := by simp [sibs_length]; omega
  generalize hT : (sibs s (2 * u) d).tail ++ (t1.reverse ++ t2.reverse) = T at *
  by_cases hu : u = 0
  · have hc : cl s u d t1 t2 = T := by unfold cl; rw [if_pos hu, hT]
    have ha2 : a = 2 ^ s := by rw [hau, hu]; simp
    have hlo : nlo (s, 2 * u) = 0 := by rw [hu]; simp [nlo]
    refine (if_pos (by rw [hand, hu]; simp)).trans ?_
    rw [laws_FnConsistencyCovers.j1, hc]
    have hsum := P.sum
    rw [tot_cons] at hsum
    have := cover_run a b a T ((s + d : Nat) : Int) ((2 * u / 2 ^ d ^^^ 1 : Nat) : Int) (clb u d t1) (clb u d t1 + (t1.length : Int)) hb (by omega) (fun n hn2 => by
      have h1 := P.ins n (List.mem_cons_of_mem _ hn2)
      have h2 := hpc.1 n hn2
      have e := nhi_eq n
      have hp := two_pow_pos n.1
      refine ⟨hlev n h1.2, h1.2, ?_, hno n hn2⟩
      rcases h2 with h2 | h2 <;> omega) hpc.2 (by simp only at hsum; omega) T [] 1000001 rfl (by
        have : T.length * (T.length + 5) ≤ 400 * 405 := Nat.mul_le_mul hlt (by omega)
        omega)
    simpa [tot] using this
  · have hc : cl s u d t1 t2 = (s, 2 * u) :: T := by unfold cl; rw [if_neg hu, ← hcons]
    have hne : ¬ Go.bits .and .u64 (a : Int) (IntKind.u64.wrap ((a : Int) - 1)) = 0 := by
      rw [hand]
      have : 0 < 2 ^ s * (2 * u) := Nat.mul_pos hps (by omega)
      omega
    refine (if_neg hne).trans ?_
    rw [laws_FnConsistencyCovers.j1, hc]
    have := cover_run a b 0 ((s, 2 * u) :: T) ((s + d : Nat) : Int) ((2 * u / 2 ^ d ^^^ 1 : Nat) : Int) (clb u d t1) (clb u d t1 + (t1.length : Int)) hb (by simp; omega) (fun n hn2 => by
      have h1 := P.ins n hn2
      refine ⟨hlev n h1.2, h1.2, Nat.zero_le _, ?_⟩
      rcases List.mem_cons.1 hn2 with rfl | hn2
      · omega
      · exact hno n hn2) P.dis (by rw [P.sum, Nat.zero_add]) ((s, 2 * u) :: T) [] 1000001 rfl (by
        have : (T.length + 1) * (T.length + 1 + 5) ≤ 401 * 406 := Nat.mul_le_mul (by omega) (by omega)
        rw [List.length_cons]
        omega)
    simpa [tot] using this
end Go.Proofs.YtijldedhcjkhiaaDoor.Pure
