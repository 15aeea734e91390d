/-
  The levels at which two neighbouring ranges merge are those between the two that MergePath tells. Plain numbers.
-/
import Derived.Test.YtijldedhcjkhiaaDoorNodes
import Derived.Test.YtijldedhcjkhiaaDoorOnes
import Derived.Test.YtijldedhcjkhiaaDoorX5
namespace Go.Proofs.YtijldedhcjkhiaaDoor.Pure
open Go.RowKit Go.Proofs.YtijldedhcjkhiaaDoor.X Go.Proofs.YtijldedhcjkhiaaDoorW.PrintWords Go.Proofs.YtijldedhcjkhiaaDoorW.PrintLast Go.Proofs.YtijldedhcjkhiaaDoorW.PrintMore Go.Proofs.YtijldedhcjkhiaaDoorM
set_option linter.unusedVariables false

/-- The levels over lo, n of them. -/
def lv (lo n : Nat) : List Int := (List.range n).map fun i => ((lo + 1 + i : Nat) : Int)
theorem lv_succ (lo n : Nat) : lv lo (n + 1) = lv lo n ++ [((lo + n + 1 : Nat) : Int)] := by
  unfold lv
  rw [List.range_succ, List.map_append]
  congr 2
  simp
  omega
theorem lv_length (lo n : Nat) : (lv lo n).length = n := by simp [lv]

theorem rd_at (s t : List Nd) (p : Nd) (i : Int) (h : i = (s.length : Int)) : rd_T70 ((s ++ p :: t).map sn) i = sn p := by
  subst h
  simp [rd_T70]

/-- No merge at this node. -/
theorem stay (out : List Int) (L : List Nd) (n : Nd) (ps : List S70) (len idx : Int) (k : Nat) (hL : L.length ≤ 1000) (hs : SF (L ++ [n])) (hi : 0 ≤ idx ∧ idx ≤ 1000) :
    spec_MergedLevels.l1 (k + 1) out ((L ++ [n]).map sn) (((L ++ [n]).map sn).length : Int) ps len idx (n.1 : Int) (n.2 : Int) = spec_MergedLevels.l0 k out ((L ++ [n]).map sn) ps len (idx + 1) := by
  have ew : wrap64 (idx + 1) = idx + 1 := by rw [wrap64_id] <;> omega
  simp only [spec_MergedLevels.l1]
  rcases List.eq_nil_or_concat L with rfl | ⟨s, p, rfl⟩
  · rw [if_neg (by simp), ew]
  · rw [List.concat_eq_append] at hs hL ⊢
    have h2 : wrap64 ((((s ++ [p] ++ [n]).map sn).length : Int) - 2) = (s.length : Int) := by
      simp at hL ⊢
      rw [wrap64_id] <;> omega
    have hf : Fit p n := by
      rw [List.append_assoc] at hs
      exact hs.fit
    have hrd : rd_T70 ((s ++ [p] ++ [n]).map sn) (s.length : Int) = sn p := by
      rw [List.append_assoc]
      exact rd_at s [n] p _ rfl
    rw [if_pos (by simp; omega), h2, if_pos (by omega), if_pos (by simp; omega), hrd, ew]
    by_cases hl : p.1 = n.1
    · rw [if_pos (show (sn p).f0 = (n.1 : Int) by rw [← hl]; rfl)]
      have ho : p.2 % 2 = 1 := by
        have : ¬ p.2 % 2 = 0 := fun h => hf ⟨hl, h⟩
        omega
      rw [if_neg (show ¬ Int.tmod (sn p).f1 2 = 0 by
        show ¬ Int.tmod (p.2 : Int) 2 = 0
        rw [show Int.tmod (p.2 : Int) 2 = ((p.2 % 2 : Nat) : Int) from rfl, ho]; decide)]
    · rw [if_neg (show ¬ (sn p).f0 = (n.1 : Int) by show ¬ (p.1 : Int) = (n.1 : Int); omega)]

/-- The next node is put on the stack. -/
theorem push (out : List Int) (all pre R : List Nd) (n : Nd) (k : Nat) (hall : all.length ≤ 1000) (hp : (pre ++ n :: R).length ≤ 1000) :
    spec_MergedLevels.l0 (k + 1) out (all.map sn) ((pre ++ n :: R).map sn) (((pre ++ n :: R).map sn).length : Int) (pre.length : Int) =
      spec_MergedLevels.l1 k out ((all ++ [n]).map sn) (((all ++ [n]).map sn).length : Int) ((pre ++ n :: R).map sn) (((pre ++ n :: R).map sn).length : Int) (pre.length : Int) (n.1 : Int) (n.2 : Int) := by
  have hlt : (pre.length : Int) < (((pre ++ n :: R).map sn).length : Int) := by simp; omega
  simp only [spec_MergedLevels.l0]
  rw [if_pos hlt, if_pos (by omega), if_pos hlt, rd_at pre R n _ rfl]
  simp only [Option.bind_some]
  rw [if_pos (by simp at hall ⊢; omega)]
  have : all.map sn ++ [(⟨(sn n).f0, (sn n).f1⟩ : S70)] = (all ++ [n]).map sn := by simp [sn]
  rw [this]
  rfl

theorem quiet (out : List Int) (R : List Nd) : ∀ (all pre : List Nd) (k : Nat), SF (all ++ R) → all.length + R.length ≤ 900 → (pre ++ R).length ≤ 900 → 2 * R.length < k →
    spec_MergedLevels.l0 k out (all.map sn) ((pre ++ R).map sn) (((pre ++ R).map sn).length : Int) (pre.length : Int) = some out := by
  induction R with
  | nil =>
    intro all pre k _ _ _ hk
    obtain ⟨k, rfl⟩ : ∃ m, k = m + 1 := ⟨k - 1, by omega⟩
    simp only [spec_MergedLevels.l0]
    rw [if_neg (by simp)]
  | cons n R ih =>
    intro all pre k hs h1 h2 hk
    simp only [List.length_cons] at h1 hk
    obtain ⟨k, rfl⟩ : ∃ m, k = m + 2 := ⟨k - 2, by omega⟩
    have hs' : SF (all ++ [n] ++ R) := by rw [List.append_assoc]; exact hs
    have hpl : pre.length + (R.length + 1) ≤ 900 := by simpa using h2
    rw [push out all pre R n (k + 1) (by omega) (by omega), stay out all n _ _ _ k (by omega) hs'.left (by omega)]
    have ih' := ih (all ++ [n]) (pre ++ [n]) k hs' (by simp; omega) (by simp; omega) (by omega)
    rw [show pre ++ [n] ++ R = pre ++ n :: R by simp] at ih'
    rw [show (pre.length : Int) + 1 = ((pre ++ [n]).length : Int) by simp]
    exact ih'

/-- One merge: the two halves become one. -/
theorem merge (out : List Int) (L : List Nd) (l i : Nat) (ps : List S70) (len idx : Int) (k : Nat) (hL : L.length ≤ 1000) (hout : out.length ≤ 1000) (hl : l < 64) (hi : i % 2 = 0) (hi64 : i + 1 < 18446744073709551616) :
    spec_MergedLevels.l1 (k + 1) out ((L ++ [(l, i)] ++ [(l, i + 1)]).map sn) (((L ++ [(l, i)] ++ [(l, i + 1)]).map sn).length : Int) ps len idx (l : Int) ((i + 1 : Nat) : Int) =
      spec_MergedLevels.l1 k (out ++ [((l + 1 : Nat) : Int)]) ((L ++ [(l + 1, i / 2)]).map sn) (((L ++ [(l + 1, i / 2)]).map sn).length : Int) ps len idx ((l + 1 : Nat) : Int) ((i / 2 : Nat) : Int) := by
  have h2 : wrap64 ((((L ++ [(l, i)] ++ [(l, i + 1)]).map sn).length : Int) - 2) = (L.length : Int) := by
    simp
    rw [wrap64_id] <;> omega
  have hrd : rd_T70 ((L ++ [(l, i)] ++ [(l, i + 1)]).map sn) (L.length : Int) = sn (l, i) := by
    rw [List.append_assoc]
    exact rd_at L [(l, i + 1)] (l, i) _ rfl
  have hw1 : IntKind.u64.wrap ((l : Int) + 1) = ((l + 1 : Nat) : Int) := add64 l 1 (by omega)
  have hw2 : IntKind.u64.wrap (Int.tdiv ((i + 1 : Nat) : Int) 2) = ((i / 2 : Nat) : Int) := by
    rw [show Int.tdiv ((i + 1 : Nat) : Int) 2 = (((i + 1) / 2 : Nat) : Int) from rfl, u64_small _ (by omega)]
    omega
  simp only [spec_MergedLevels.l1]
  rw [if_pos (by simp; omega), h2, if_pos (by omega), if_pos (by simp; omega), hrd]
  rw [if_pos (show (sn (l, i)).f0 = (l : Int) from rfl), if_pos (show Int.tmod (sn (l, i)).f1 2 = 0 by
    show Int.tmod (i : Int) 2 = 0
    rw [show Int.tmod (i : Int) 2 = ((i % 2 : Nat) : Int) from rfl, hi]; rfl)]
  rw [if_pos (by simp; omega)]
  simp only [Option.bind_some]
  have ht : ((L ++ [(l, i)] ++ [(l, i + 1)]).map sn).take (L.length : Int).toNat = L.map sn := by simp
  rw [ht, hw1, hw2, if_pos (by simp; omega), if_pos (by simp; omega)]
  have : L.map sn ++ [(⟨((l + 1 : Nat) : Int), ((i / 2 : Nat) : Int)⟩ : S70)] = (L ++ [(l + 1, i / 2)]).map sn := by simp [sn]
  rw [this]

/-- The run of merges from the node of level l that has m in it. -/
theorem merges (b m e lo : Nat) (h64 : e < 18446744073709551616) (hme : m ≤ e) (N : Nat) : ∀ (L R pre : List Nd) (n l k : Nat), L.length + R.length ≤ N → N ≤ 300 → lo + n = l →
    Til (m / 2 ^ l * 2 ^ l) b L → SF L → Til e ((m / 2 ^ l + 1) * 2 ^ l) R → SF R → (pre ++ R).length ≤ 300 → 0 < pre.length → n ≤ 300 → 4 * N + 4 < k →
    ∃ h, n ≤ h ∧ Ins b m e (lo + h) ∧ ¬ Ins b m e (lo + h + 1) ∧ (h = n → SF (L ++ (l, m / 2 ^ l) :: R)) ∧
      spec_MergedLevels.l1 k (lv lo n) ((L ++ [(l, m / 2 ^ l)]).map sn) (((L ++ [(l, m / 2 ^ l)]).map sn).length : Int) ((pre ++ R).map sn) (((pre ++ R).map sn).length : Int) ((pre.length : Int) - 1) (l : Int) ((m / 2 ^ l : Nat) : Int) = some (lv lo h) := by
  induction N with
  | zero =>
    intro L R pre n l k hN _ hl hL sL hR sR hpre hp0 hn hk
    obtain rfl : L = [] := List.eq_nil_of_length_eq_zero (by omega)
    obtain rfl : R = [] := List.eq_nil_of_length_eq_zero (by omega)
    subst hl
    have hL' : b = m / 2 ^ (lo + n) * 2 ^ (lo + n) := hL
    have hR' : (m / 2 ^ (lo + n) + 1) * 2 ^ (lo + n) = e := hR
    have hp := two_pow_pos (lo + n)
    refine ⟨n, Nat.le_refl _, ⟨by omega, by omega⟩, ?_, fun _ => ⟨fun m hm => by simp at hm, trivial⟩, ?_⟩
    · intro ⟨h1, h2⟩
      rw [half, pow_add_two] at h1 h2
      generalize m / 2 ^ (lo + n) = q at *
      have e1 : q / 2 * (2 * 2 ^ (lo + n)) = (2 * (q / 2)) * 2 ^ (lo + n) := by rw [← Nat.mul_assoc, Nat.mul_comm (q / 2) 2]
      have e2 : (q / 2 + 1) * (2 * 2 ^ (lo + n)) = (2 * (q / 2) + 2) * 2 ^ (lo + n) := by rw [← Nat.mul_assoc]; congr 1; omega
      rw [e1, hL'] at h1
      rw [e2, ← hR'] at h2
      have := Nat.le_of_mul_le_mul_right h1 hp
      have := Nat.le_of_mul_le_mul_right h2 hp
      omega
    · obtain ⟨k, rfl⟩ : ∃ m, k = m + 1 := ⟨k - 1, by omega⟩
      have hst := stay (lv lo n) [] (lo + n, m / 2 ^ (lo + n)) ((pre ++ []).map sn) (((pre ++ []).map sn).length : Int) ((pre.length : Int) - 1) k (by simp) ⟨fun m hm => by simp at hm, trivial⟩ (by simp at hpre; omega)
      rw [show (pre.length : Int) - 1 + 1 = (pre.length : Int) by omega] at hst
      rw [hst]
      exact quiet (lv lo n) [] [(lo + n, m / 2 ^ (lo + n))] pre k ⟨fun m hm => by simp at hm, trivial⟩ (by simp) (by omega) (by simp; omega)
  | succ N ih =>
    intro L R pre n l k hN hN300 hl hL sL hR sR hpre hp0 hn hk
    have hp := two_pow_pos l
    have hbl := hL.le
    have hre := hR.le
    have hll : l < 64 := by
      refine pow_lt_iff.1 (Nat.lt_of_le_of_lt (Nat.le_trans (Nat.le_mul_of_pos_left _ (Nat.succ_pos _)) hre) ?_)
      rw [pow64]; exact h64
    have hins : Ins b m e (lo + n) := by rw [hl]; exact ⟨hbl, hre⟩
    have hhalf : m / 2 ^ (l + 1) = m / 2 ^ l / 2 := half m l
    have e1 : m / 2 ^ (l + 1) * 2 ^ (l + 1) = (2 * (m / 2 ^ l / 2)) * 2 ^ l := by rw [hhalf, pow_add_two, ← Nat.mul_assoc, Nat.mul_comm (m / 2 ^ l / 2) 2]
    have e2 : (m / 2 ^ (l + 1) + 1) * 2 ^ (l + 1) = (2 * (m / 2 ^ l / 2) + 2) * 2 ^ l := by rw [hhalf, pow_add_two, ← Nat.mul_assoc]; congr 1; omega
    have hq64 : m / 2 ^ l + 1 < 18446744073709551616 := by
      have : m / 2 ^ l + 1 ≤ (m / 2 ^ l + 1) * 2 ^ l := Nat.le_mul_of_pos_right _ hp
      omega
    generalize hq : m / 2 ^ l = q at *
    have hpl : pre.length + R.length ≤ 300 := by simpa using hpre
    -- the end without a further merge
    have fin : SF (L ++ (l, q) :: R) → ¬ Ins b m e (lo + n + 1) → ∃ h, n ≤ h ∧ Ins b m e (lo + h) ∧ ¬ Ins b m e (lo + h + 1) ∧ (h = n → SF (L ++ (l, q) :: R)) ∧
      spec_MergedLevels.l1 k (lv lo n) ((L ++ [(l, q)]).map sn) (((L ++ [(l, q)]).map sn).length : Int) ((pre ++ R).map sn) (((pre ++ R).map sn).length : Int) ((pre.length : Int) - 1) (l : Int) (q : Int) = some (lv lo h) := by
      intro hs hno
      refine ⟨n, Nat.le_refl _, hins, hno, fun _ => hs, ?_⟩
      obtain ⟨k, rfl⟩ : ∃ m, k = m + 1 := ⟨k - 1, by omega⟩
      have hs' : SF (L ++ [(l, q)] ++ R) := by rw [List.append_assoc]; exact hs
      have hst := stay (lv lo n) L (l, q) ((pre ++ R).map sn) (((pre ++ R).map sn).length : Int) ((pre.length : Int) - 1) k (by omega) hs'.left (by omega)
      rw [show (pre.length : Int) - 1 + 1 = (pre.length : Int) by omega] at hst
      rw [hst]
      exact quiet (lv lo n) R (L ++ [(l, q)]) pre k hs' (by simp; omega) (by simp; omega) (by omega)
    have hsLq : (∀ p s, L = s ++ [p] → Fit p (l, q)) → SF (L ++ [(l, q)]) := by
      intro hh
      rcases List.eq_nil_or_concat L with rfl | ⟨s, p, rfl⟩
      · exact ⟨fun m hm => by simp at hm, trivial⟩
      · rw [List.concat_eq_append] at sL hh ⊢
        rw [List.append_assoc]
        exact SF.join sL ⟨fun m hm => by simp at hm, trivial⟩ (fun n' hn' => by obtain rfl : (l, q) = n' := (by simpa using hn'); exact hh p s rfl)
    by_cases hev : q % 2 = 0
    · -- the node is a left half
      have hfitL : ∀ p s, L = s ++ [p] → Fit p (l, q) := by
        rintro p s rfl ⟨h1, h2⟩
        obtain ⟨_, h4⟩ := til_snoc hL
        rw [h1] at h4
        have := Nat.eq_of_mul_eq_mul_right hp h4
        omega
      cases R with
      | nil =>
        refine fin (hsLq hfitL) ?_
        intro ⟨_, h2⟩
        rw [hl, e2] at h2
        have hR' : (q + 1) * 2 ^ l = e := hR
        rw [← hR'] at h2
        have := Nat.le_of_mul_le_mul_right h2 hp
        omega
      | cons r R =>
        obtain ⟨hr1, hr2⟩ := hR
        have hrl := odd_le hr1 (by omega)
        by_cases hrl2 : r.1 = l
        · obtain ⟨r1, r2⟩ := r
          obtain rfl : r1 = l := hrl2
          have hr2' : r2 = q + 1 := Nat.eq_of_mul_eq_mul_right hp hr1
          subst hr2'
          obtain ⟨k, rfl⟩ : ∃ m, k = m + 3 := ⟨k - 3, by omega⟩
          have hst := stay (lv lo n) L (r1, q) ((pre ++ (r1, q + 1) :: R).map sn) (((pre ++ (r1, q + 1) :: R).map sn).length : Int) ((pre.length : Int) - 1) (k + 2) (by omega) (hsLq hfitL) (by omega)
          rw [show (pre.length : Int) - 1 + 1 = (pre.length : Int) by omega] at hst
          simp only [List.length_cons] at hN hpl
          have hpu := push (lv lo n) (L ++ [(r1, q)]) pre R (r1, q + 1) (k + 1) (by simp; omega) (by simp; omega)
          have hme := merge (lv lo n) L r1 q ((pre ++ (r1, q + 1) :: R).map sn) (((pre ++ (r1, q + 1) :: R).map sn).length : Int) (pre.length : Int) k (by omega) (by rw [lv_length]; omega) hll hev hq64
          obtain ⟨h, g1, g2, g3, g4, g5⟩ := ih L R (pre ++ [(r1, q + 1)]) (n + 1) (r1 + 1) k (by omega) (by omega) (by omega) (by rw [e1, show 2 * (q / 2) = q by omega]; exact hL) sL
            (by rw [e2, show 2 * (q / 2) + 2 = q + 1 + 1 by omega, Nat.add_mul (q + 1), Nat.one_mul]; exact hr2) sR.2 (by simp; omega) (by simp) (by omega) (by omega)
          refine ⟨h, by omega, g2, g3, fun hh => by omega, ?_⟩
          rw [hst, hpu, hme]
          rw [hhalf, lv_succ, show pre ++ [(r1, q + 1)] ++ R = pre ++ (r1, q + 1) :: R by simp, show ((pre ++ [(r1, q + 1)]).length : Int) - 1 = (pre.length : Int) by simp, hl] at g5
          exact g5
        · have hlt : r.1 < l := by omega
          refine fin (SF.join (hsLq hfitL) sR (fun n' hn' => by obtain rfl : r = n' := (by simpa using hn'); exact fun hf => hrl2 hf.1.symm)) ?_
          intro ⟨_, h2⟩
          rw [hl, e2, show 2 * (q / 2) + 2 = q + 1 + 1 by omega, Nat.add_mul (q + 1), Nat.one_mul] at h2
          have hp2 : 2 * 2 ^ r.1 ≤ 2 ^ l := by rw [← pow_add_two]; exact pow_mono (by omega)
          exact greedy ⟨hr1, hr2⟩ sR (even_of_lt hr1 hlt) (by omega)
    · -- the node is a right half
      have hodd : q % 2 = 1 := by omega
      have hjoin : SF (L ++ [(l, q)]) → SF (L ++ (l, q) :: R) := fun h => SF.join h sR (fun n' _ hf => by have : q % 2 = 0 := hf.2; omega)
      rcases List.eq_nil_or_concat L with rfl | ⟨s, p, rfl⟩
      · refine fin (hjoin ⟨fun m hm => by simp at hm, trivial⟩) ?_
        intro ⟨h1, _⟩
        rw [hl, e1] at h1
        have hL' : b = q * 2 ^ l := hL
        rw [hL'] at h1
        have := Nat.le_of_mul_le_mul_right h1 hp
        omega
      · rw [List.concat_eq_append] at hL sL hN hsLq hjoin fin ⊢
        obtain ⟨h3, h4⟩ := til_snoc hL
        have hpl1 := odd_le h4 hodd
        by_cases hpe : p.1 = l
        · obtain ⟨p1, p2⟩ := p
          obtain rfl : p1 = l := hpe
          obtain rfl : p2 + 1 = q := Nat.eq_of_mul_eq_mul_right hp h4
          obtain ⟨k, rfl⟩ : ∃ m, k = m + 1 := ⟨k - 1, by omega⟩
          simp only [List.length_append, List.length_cons, List.length_nil] at hN
          have hme := merge (lv lo n) s p1 p2 ((pre ++ R).map sn) (((pre ++ R).map sn).length : Int) ((pre.length : Int) - 1) k (by omega) (by rw [lv_length]; omega) hll (by omega) (by omega)
          obtain ⟨h, g1, g2, g3, g4, g5⟩ := ih s R pre (n + 1) (p1 + 1) k (by omega) (by omega) (by omega) (by rw [e1, show 2 * ((p2 + 1) / 2) = p2 by omega]; exact h3) sL.left
            (by rw [e2, show 2 * ((p2 + 1) / 2) + 2 = p2 + 1 + 1 by omega]; exact hR) sR hpre hp0 (by omega) (by omega)
          refine ⟨h, by omega, g2, g3, fun hh => by omega, ?_⟩
          rw [hme]
          rw [hhalf, lv_succ, hl, show (p2 + 1) / 2 = p2 / 2 by omega] at g5
          exact g5
        · have hlt : p.1 < l := by omega
          refine fin (hjoin (hsLq (fun p' s' hh => ?_))) ?_
          · have : p' = p := by simpa using (List.append_inj_right' hh rfl).symm
            subst this
            exact fun hf => hpe hf.1
          · intro ⟨h1, _⟩
            rw [hl, e1] at h1
            have hp2 : 2 * 2 ^ p.1 ≤ 2 ^ l := by rw [← pow_add_two]; exact pow_mono (by omega)
            have hodd2 : p.2 % 2 = 1 := by
              have := even_of_lt h4 hlt
              omega
            have hqq : q * 2 ^ l = 2 * (q / 2) * 2 ^ l + 2 ^ l := by
              rw [show q * 2 ^ l = (2 * (q / 2) + 1) * 2 ^ l by congr 1; omega, Nat.add_mul, Nat.one_mul]
            exact last_greedy p.1 (Nat.le_refl _) hL sL hodd2 (by omega)

/-- What MergedLevels lists. -/
theorem levels (b m e : Nat) (hbm : b ≤ m) (hme : m ≤ e) (h64 : e < 18446744073709551616) (T1 T2 : List Nd) (R1 : Row b m T1) (R2 : Row m e T2) (lo u : Nat) (hm : m = 2 ^ lo * (2 * u + 1)) (k : Nat) (hk : 15000 < k) :
    ∃ h, spec_MergedLevels.f k (b : Int) (m : Int) (e : Int) = some (lv lo h) ∧ ¬ Ins b m e (lo + h + 1) ∧ (0 < h → Ins b m e (lo + h)) ∧ (h = 0 → SF (T1 ++ T2)) := by
  have l1 := R1.len
  have l2 := R2.len
  have hplo := two_pow_pos lo
  have hstart : spec_MergedLevels.f k (b : Int) (m : Int) (e : Int) = spec_MergedLevels.l0 k ([] : List Int) (T1.map sn) (T2.map sn) ((T2.map sn).length : Int) 0 := by
    unfold spec_MergedLevels.f
    rw [spec_nodes (by omega) R1 k (by omega), spec_nodes h64 R2 k (by omega)]
    rfl
  rw [hstart]
  have hdiv : m / 2 ^ lo = 2 * u + 1 := by rw [hm, Nat.mul_div_cancel_left _ hplo]
  have hback : m / 2 ^ lo * 2 ^ lo = m := by rw [hdiv, Nat.mul_comm]; exact hm.symm
  have hnext : (m / 2 ^ (lo + 1) + 1) * 2 ^ (lo + 1) = m + 2 ^ lo := by
    rw [half, hdiv, pow_add_two, ← Nat.mul_assoc, show (2 * u + 1) / 2 = u by omega, show (u + 1) * 2 = 2 * u + 1 + 1 by omega, Nat.add_mul (2 * u + 1), Nat.one_mul, ← hdiv, hback]
  have hq : SF (T1 ++ T2) → spec_MergedLevels.l0 k ([] : List Int) (T1.map sn) (T2.map sn) ((T2.map sn).length : Int) 0 = some [] := fun hs => quiet [] T2 T1 [] k hs (by omega) (by simp; omega) (by omega)
  cases T2 with
  | nil =>
    have hs : SF (T1 ++ []) := by rw [List.append_nil]; exact R1.sf
    refine ⟨0, hq hs, ?_, fun h => absurd h (by decide), fun _ => hs⟩
    intro ⟨_, h2⟩
    rw [Nat.add_zero, hnext] at h2
    have : m = e := R2.til
    omega
  | cons n R =>
    obtain ⟨hn1, hn2⟩ := R2.til
    have hnl : n.1 ≤ lo := odd_le (hn1.trans hback.symm) (by omega)
    by_cases hne : n.1 = lo
    · obtain ⟨n1, n2⟩ := n
      obtain rfl : n1 = lo := hne
      have hn2' : n2 = m / 2 ^ n1 := Nat.eq_of_mul_eq_mul_right hplo (hn1.trans hback.symm)
      subst hn2'
      obtain ⟨k, rfl⟩ : ∃ m, k = m + 1 := ⟨k - 1, by omega⟩
      simp only [List.length_cons] at l2
      have hpu := push [] T1 [] R (n1, m / 2 ^ n1) k (by omega) (by simp; omega)
      obtain ⟨h, g1, g2, g3, g4, g5⟩ := merges b m e n1 h64 hme 290 T1 R [(n1, m / 2 ^ n1)] 0 n1 k (by omega) (by omega) rfl (by rw [hback]; exact R1.til) R1.sf (by
        rw [Nat.add_mul, hback, Nat.one_mul]; exact hn2) R2.sf.2 (by simp; omega) (by simp) (by omega) (by omega)
      refine ⟨h, ?_, g3, fun _ => g2, fun hh => g4 hh⟩
      rw [show ([] ++ (n1, m / 2 ^ n1) :: R : List Nd) = (n1, m / 2 ^ n1) :: R from rfl] at hpu
      rw [show (([] : List Nd).length : Int) = 0 from rfl] at hpu
      rw [hpu]
      exact g5
    · have hlt : n.1 < lo := by omega
      have hev := even_of_lt (hn1.trans hback.symm) hlt
      have hs : SF (T1 ++ n :: R) := by
        rcases List.eq_nil_or_concat T1 with rfl | ⟨s, p, rfl⟩
        · exact R2.sf
        · have R1s := R1.sf
          have R1t := R1.til
          rw [List.concat_eq_append] at R1s R1t ⊢
          rw [List.append_assoc]
          refine SF.join R1s R2.sf (fun n' hn' => ?_)
          obtain rfl : n = n' := (by simpa using hn')
          rintro ⟨h1, h2⟩
          obtain ⟨_, h4⟩ := til_snoc R1t
          rw [h1, ← hn1] at h4
          have := Nat.eq_of_mul_eq_mul_right (two_pow_pos _) h4
          omega
      refine ⟨0, hq hs, ?_, fun h => absurd h (by decide), fun _ => hs⟩
      intro ⟨_, h2⟩
      rw [Nat.add_zero, hnext] at h2
      have hp2 : 2 * 2 ^ n.1 ≤ 2 ^ lo := by rw [← pow_add_two]; exact pow_mono (by omega)
      exact greedy ⟨hn1, hn2⟩ R2.sf hev (by omega)

theorem len64 (x : Nat) (h : x < 18446744073709551616) : bits_Len64.f (x : Int) = some ((Lib.bitLen x : Nat) : Int) := by
  unfold bits_Len64.f
  rw [if_pos (by omega), if_pos (by omega), Int.toNat_natCast]
theorem bitLen_64 (x : Nat) (h : x < 18446744073709551616) : Lib.bitLen x ≤ 64 := (bitLen_iff x 64 h).1 (by rw [pow64]; exact h)

theorem ins_left (b m n : Nat) (hb : 0 < b) (hbm : b ≤ m) : ¬ m / 2 ^ n = (b - 1) / 2 ^ n ↔ b ≤ m / 2 ^ n * 2 ^ n := by
  have hp := two_pow_pos n
  have h1 : (b - 1) / 2 ^ n ≤ m / 2 ^ n := Nat.div_le_div_right (by omega)
  have h2 : (b - 1) / 2 ^ n < m / 2 ^ n ↔ b - 1 < m / 2 ^ n * 2 ^ n := Nat.div_lt_iff_lt_mul hp
  omega
theorem ins_right (m e n : Nat) (hm : ¬ m % 2 ^ n = 0) (hme : m ≤ e) : ¬ (m - 1) / 2 ^ n = e / 2 ^ n ↔ (m / 2 ^ n + 1) * 2 ^ n ≤ e := by
  have hp := two_pow_pos n
  have hd : (m - 1) / 2 ^ n = m / 2 ^ n := by
    have h1 := Nat.div_add_mod m (2 ^ n)
    have h2 := Nat.mod_lt m hp
    have h3 : m - 1 = 2 ^ n * (m / 2 ^ n) + (m % 2 ^ n - 1) := by omega
    obtain ⟨q, hq⟩ : ∃ q, q = m / 2 ^ n := ⟨_, rfl⟩
    rw [← hq] at h3 ⊢
    rw [h3, Nat.mul_add_div hp, Nat.div_eq_of_lt (by omega), Nat.add_zero]
  rw [hd]
  have h1 : m / 2 ^ n ≤ e / 2 ^ n := Nat.div_le_div_right hme
  have h2 : m / 2 ^ n + 1 ≤ e / 2 ^ n ↔ (m / 2 ^ n + 1) * 2 ^ n ≤ e := Nat.le_div_iff_mul_le hp
  omega

theorem path_pos (b m e lo u : Nat) (hbm : b ≤ m) (hme : m ≤ e) (h64 : e < 18446744073709551616) (hm : m = 2 ^ lo * (2 * u + 1)) (hlo : lo < 64) :
    ∃ hi : Nat, impl_MergePath.f (b : Int) (m : Int) (e : Int) = some ((lo : Int), (hi : Int)) ∧ hi < 64 ∧ ∀ n, lo < n → n ≤ 64 → (Ins b m e n ↔ n ≤ hi) := by
  have hm0 : 0 < m := by rw [hm]; exact Nat.mul_pos (two_pow_pos _) (by omega)
  have htz : bits_TrailingZeros64.f (m : Int) = some (lo : Int) := by
    unfold bits_TrailingZeros64.f
    rw [if_pos (by omega), if_pos (by omega), Int.toNat_natCast, hm, ctz_of u lo hlo (by rw [← hm]; omega)]
  have hwlo : IntKind.u64.wrap (lo : Int) = (lo : Int) := u64_small _ (by omega)
  have hm1 : IntKind.u64.wrap ((m : Int) - 1) = ((m - 1 : Nat) : Int) := sub64 m 1 (by omega) (by omega)
  have hx2 : (m - 1) ^^^ e < 18446744073709551616 := xor_lt64 (by omega) h64
  have hr : ∀ n, lo < n → (n < Lib.bitLen ((m - 1) ^^^ e) ↔ (m / 2 ^ n + 1) * 2 ^ n ≤ e) := by
    intro n hn
    rw [← ins_right m e n ?_ hme, shift_eq_iff (m - 1) e n (by omega) h64]
    · omega
    · intro h0
      obtain ⟨v, hv⟩ := Nat.dvd_of_mod_eq_zero h0
      rw [hm, Nat.mul_comm, Nat.mul_comm (2 ^ n)] at hv
      have := odd_le hv.symm (by omega)
      omega
  have hr1 : 1 ≤ Lib.bitLen ((m - 1) ^^^ e) := by
    have := shift_eq_iff (m - 1) e 0 (by omega) h64
    rw [Nat.pow_zero, Nat.div_one, Nat.div_one] at this
    omega
  have hr64 := bitLen_64 _ hx2
  unfold impl_MergePath.f compact_DoorMergePath.f compact_getMergePath.f
  rw [htz, hm1, xor_nat _ _ (by omega) h64, len64 _ hx2]
  simp only [Option.bind_some]
  by_cases hb : b = 0
  · subst hb
    generalize Lib.bitLen ((m - 1) ^^^ e) = t at *
    have hw : IntKind.u64.wrap (wrap64 ((t : Int) - 1)) = ((t - 1 : Nat) : Int) := by
      rw [wrap64_id _ (by omega) (by omega)]
      exact sub64 t 1 hr1 (by omega)
    refine ⟨t - 1, ?_, by omega, ?_⟩
    · rw [if_pos (by rfl), hwlo, hw]
      by_cases h : (t : Int) < 64
      · rw [if_pos h]; rfl
      · rw [if_neg h]
        simp only [Option.bind_some]
        congr 2
        omega
    · intro n hn hn64
      have := hr n hn
      unfold Ins
      constructor
      · intro h; omega
      · intro h; exact ⟨Nat.zero_le _, by omega⟩
  · have hb1 : IntKind.u64.wrap ((b : Int) - 1) = ((b - 1 : Nat) : Int) := sub64 b 1 (by omega) (by omega)
    have hx1 : m ^^^ (b - 1) < 18446744073709551616 := xor_lt64 (by omega) (by omega)
    have hl : ∀ n, (n < Lib.bitLen (m ^^^ (b - 1)) ↔ b ≤ m / 2 ^ n * 2 ^ n) := by
      intro n
      rw [← ins_left b m n (by omega) hbm, shift_eq_iff m (b - 1) n (by omega) (by omega)]
      omega
    have hl1 : 1 ≤ Lib.bitLen (m ^^^ (b - 1)) := by
      have := shift_eq_iff m (b - 1) 0 (by omega) (by omega)
      rw [Nat.pow_zero, Nat.div_one, Nat.div_one] at this
      omega
    have hl64 := bitLen_64 _ hx1
    rw [if_neg (by omega), hb1, xor_nat _ _ (by omega) (by omega), len64 _ hx1]
    simp only [Option.bind_some]
    generalize Lib.bitLen ((m - 1) ^^^ e) = t at *
    generalize Lib.bitLen (m ^^^ (b - 1)) = s at *
    have hw : ∀ t : Nat, 1 ≤ t → t ≤ 64 → IntKind.u64.wrap (wrap64 ((t : Int) - 1)) = ((t - 1 : Nat) : Int) := by
      intro t h1 h2
      rw [wrap64_id _ (by omega) (by omega)]
      exact sub64 t 1 h1 (by omega)
    rw [hwlo, hw t hr1 hr64, hw s hl1 hl64]
    refine ⟨min s t - 1, ?_, by omega, ?_⟩
    · by_cases h : (t : Int) < (s : Int)
      · rw [if_pos h, Nat.min_eq_right (by omega)]; rfl
      · rw [if_neg h, Nat.min_eq_left (by omega)]; rfl
    · intro n hn hn64
      have h1 := hr n hn
      have h2 := hl n
      unfold Ins
      constructor
      · intro h; omega
      · intro h; exact ⟨by omega, by omega⟩

/-- An empty left range at 0. -/
theorem path_zero (e : Nat) (h : e < 18446744073709551615) : ∃ hi : Nat, impl_MergePath.f 0 0 (e : Int) = some (64, (hi : Int)) ∧ hi ≤ 64 := by
  have htz : bits_TrailingZeros64.f 0 = some 64 := by decide
  have hm1 : IntKind.u64.wrap ((0 : Int) - 1) = ((18446744073709551615 : Nat) : Int) := by decide
  have hx : Go.bits .xor .u64 ((18446744073709551615 : Nat) : Int) (e : Int) = ((18446744073709551615 - e : Nat) : Int) := by
    rw [xor_nat _ _ (by omega) (by omega), xor_max _ (by omega)]
  have h64 := bitLen_64 (18446744073709551615 - e) (by omega)
  have h1 : 1 ≤ Lib.bitLen (18446744073709551615 - e) := by
    have := bitLen_iff (18446744073709551615 - e) 0 (by omega)
    rw [Nat.pow_zero] at this
    omega
  unfold impl_MergePath.f compact_DoorMergePath.f compact_getMergePath.f
  rw [htz, hm1, hx, len64 _ (by omega)]
  simp only [Option.bind_some]
  generalize Lib.bitLen (18446744073709551615 - e) = t at *
  have hw : IntKind.u64.wrap (wrap64 ((t : Int) - 1)) = ((t - 1 : Nat) : Int) := by
    rw [wrap64_id _ (by omega) (by omega)]
    exact sub64 t 1 h1 (by omega)
  have hw2 : IntKind.u64.wrap 64 = 64 := by decide
  rw [if_pos trivial, hw, hw2]
  by_cases h : (t : Int) < 64
  · rw [if_pos h]
    exact ⟨t - 1, rfl, by omega⟩
  · rw [if_neg h]
    exact ⟨63, rfl, by omega⟩

theorem range_size (b e : Int) (l r x y : Int) (hd : compact_Decompose.f b e = some (l, r)) (o1 : bits_OnesCount64.f l = some x) (o2 : bits_OnesCount64.f r = some y) : impl_RangeSize.f b e = some (wrap64 (x + y)) := by
  unfold impl_RangeSize.f compact_RangeSize.f
  rw [hd]
  rw [Option.bind_some]
  dsimp only
  rw [o1, Option.bind_some, o2, Option.bind_some, Option.bind_some]
theorem pops (l r t e : Nat) (h64 : e < 18446744073709551616) (hlr : l + r ≤ e) (hlen : t = pop 64 l + pop 64 r) : ∃ x y : Nat, bits_OnesCount64.f (l : Int) = some (x : Int) ∧ bits_OnesCount64.f (r : Int) = some (y : Int) ∧ x ≤ 64 ∧ y ≤ 64 ∧ t = x + y :=
  ⟨pop 64 l, pop 64 r, onesCount l (by omega), onesCount r (by omega), pop_le 64 l, pop_le 64 r, hlen⟩
theorem size_of {b e : Nat} {t : List Nd} (h : b ≤ e) (h64 : e < 18446744073709551616) (R : Row b e t) : impl_RangeSize.f (b : Int) (e : Int) = some (t.length : Int) := by
  obtain ⟨t', R', ⟨l, r, hd, hlr, hlen⟩, _⟩ := range_nodes b e h h64
  obtain rfl := R'.same R
  obtain ⟨x, y, o1, o2, hx, hy, hl⟩ := pops l r _ e h64 hlr hlen
  rw [range_size _ _ _ _ _ _ hd o1 o2, wrap64_id _ (by omega) (by omega), hl, Int.natCast_add]

theorem check_run (lo h : Nat) (hh : lo + h < 1000) (f : Nat) : ∀ (i k : Nat), i + f = h → f < k → laws_FnMergePath.l0 k (lo : Int) (lv lo h) ((lv lo h).length : Int) (i : Int) = some true := by
  induction f with
  | zero =>
    intro i k hi hk
    obtain ⟨k, rfl⟩ : ∃ m, k = m + 1 := ⟨k - 1, by omega⟩
    simp only [laws_FnMergePath.l0]
    rw [if_neg (by rw [lv_length]; omega)]
  | succ f ih =>
    intro i k hi hk
    obtain ⟨k, rfl⟩ : ∃ m, k = m + 1 := ⟨k - 1, by omega⟩
    have hrd : rd (lv lo h) (i : Int) = ((lo + 1 + i : Nat) : Int) := by
      have : i < h := by omega
      simp [rd, lv, this]
    have e1 : IntKind.u64.wrap ((lo : Int) + 1) = ((lo + 1 : Nat) : Int) := add64 lo 1 (by omega)
    have e2 : IntKind.u64.wrap (i : Int) = (i : Int) := u64_small _ (by omega)
    have e3 : IntKind.u64.wrap (((lo + 1 : Nat) : Int) + (i : Int)) = ((lo + 1 + i : Nat) : Int) := add64 _ _ (by omega)
    have ew : wrap64 ((i : Int) + 1) = ((i + 1 : Nat) : Int) := by rw [wrap64_id] <;> omega
    simp only [laws_FnMergePath.l0]
    rw [if_pos (by rw [lv_length]; omega), if_pos (by omega), if_pos (by rw [lv_length]; omega), hrd, e1, e2, e3, if_pos rfl, ew]
    exact ih (i + 1) k (by omega) (by omega)

theorem lv_zero (lo : Nat) : lv lo 0 = [] := rfl

/-- No merge: the rows are put one behind the other. -/
theorem rest (b m e : Nat) (hbm : b ≤ m) (hme : m ≤ e) (h64 : e < 18446744073709551616) (T1 T2 : List Nd) (R1 : Row b m T1) (R2 : Row m e T2) (hs : SF (T1 ++ T2)) (k : Nat) (hk : 15000 < k) :
    ((impl_RangeNodes.f k (b : Int) (e : Int) ([] : List (S70))).bind fun t204 => ((impl_RangeNodes.f k (b : Int) (m : Int) ([] : List (S70))).bind fun t207 => ((impl_RangeNodes.f k (m : Int) (e : Int) t207).bind fun t210 => ((spec_SameNodes.f k t204 t210).bind fun t213 => (if t213 = true then ((impl_RangeSize.f (b : Int) (e : Int)).bind fun t214 => ((spec_Nodes.f k (b : Int) (e : Int)).bind fun t215 => (some (t214 == (t215.length : Int))))) else (some false)))))) = some true := by
  have l1 := R1.len
  have l2 := R2.len
  obtain ⟨T, R, _, _⟩ := range_nodes b e (by omega) h64
  have hT : T = T1 ++ T2 := uniq R.til R.sf (R1.til.append R2.til) hs
  have lT := R.len
  have a1 := impl_nodes_of (by omega : b ≤ e) h64 R [] (by simp) k (by omega)
  have a2 := impl_nodes_of hbm (by omega) R1 [] (by simp) k (by omega)
  have a3 := impl_nodes_of hme h64 R2 T1 (by omega) k (by omega)
  rw [List.nil_append] at a1 a2
  rw [show ([] : List Nd).map sn = ([] : List S70) from rfl] at a1 a2
  rw [a1, a2]
  simp only [Option.bind_some]
  rw [a3, ← hT]
  simp only [Option.bind_some]
  rw [same_nodes T (by omega) k (by omega)]
  simp only [Option.bind_some]
  rw [if_pos trivial, size_of (by omega) h64 R, spec_nodes h64 R k (by omega)]
  simp

theorem core (b m e : Nat) (hbm : b ≤ m) (hme : m ≤ e) (h64 : e < 18446744073709551616) (h0 : ¬ (m = 0 ∧ e = 18446744073709551615)) (k : Nat) (hk : 15000 < k) : laws_FnMergePath.j0 (k + 1) (b : Int) (m : Int) (e : Int) false = some true := by
  obtain ⟨T1, R1, _, _⟩ := range_nodes b m hbm (by omega)
  obtain ⟨T2, R2, _, _⟩ := range_nodes m e hme h64
  simp only [laws_FnMergePath.j0]
  rw [if_neg (by decide)]
  by_cases hm0 : m = 0
  · subst hm0
    obtain rfl : b = 0 := by omega
    obtain ⟨hi, g1, g2⟩ := path_zero e (by omega)
    have hT1 : T1 = [] := uniq R1.til R1.sf (t := []) rfl trivial
    have hs : SF (T1 ++ T2) := by rw [hT1]; exact R2.sf
    have hml : spec_MergedLevels.f k ((0 : Nat) : Int) ((0 : Nat) : Int) (e : Int) = some [] := by
      have l2 := R2.len
      unfold spec_MergedLevels.f
      rw [spec_nodes (by omega) R1 _ (by omega), spec_nodes h64 R2 _ (by omega)]
      have := quiet [] T2 T1 [] k hs (by rw [hT1]; simp; omega) (by simp; omega) (by omega)
      exact this
    rw [show ((0 : Nat) : Int) = 0 from rfl] at hml ⊢
    rw [g1]
    simp only [Option.bind_some]
    rw [hml]
    simp only [Option.bind_some]
    rw [if_pos (by rfl), if_pos (by omega)]
    exact rest 0 0 e (by omega) (by omega) h64 T1 T2 R1 R2 hs k (by omega)
  · obtain ⟨u, hm, hlo⟩ := Lib.ctzFrom_spec 64 m (by omega) (by rw [pow64]; omega)
    generalize Lib.ctzFrom 64 m = lo at hm hlo
    obtain ⟨hi, g1, g2, g3⟩ := path_pos b m e lo u hbm hme h64 hm hlo
    obtain ⟨h, f1, f2, f3, f4⟩ := levels b m e hbm hme h64 T1 T2 R1 R2 lo u hm k (by omega)
    have hlh : lo + h < 64 := by
      by_cases hh : 0 < h
      · have hI := (f3 hh).2
        refine pow_lt_iff.1 (Nat.lt_of_le_of_lt (Nat.le_trans (Nat.le_mul_of_pos_left _ (Nat.succ_pos _)) hI) ?_)
        rw [pow64]; exact h64
      · omega
    have hup : ¬ lo + h + 1 ≤ hi := fun hh => f2 ((g3 (lo + h + 1) (by omega) (by omega)).2 hh)
    rw [g1]
    simp only [Option.bind_some]
    rw [f1]
    simp only [Option.bind_some]
    by_cases hh : h = 0
    · subst hh
      rw [lv_zero, if_pos (by rfl), if_pos (by omega)]
      exact rest b m e hbm hme h64 T1 T2 R1 R2 (f4 rfl) k (by omega)
    · have hlow : lo + h ≤ hi := (g3 (lo + h) (by omega) (by omega)).1 (f3 (by omega))
      obtain rfl : hi = lo + h := by omega
      have hsub : wrap64 (IntKind.u64.wrap (((lo + h : Nat) : Int) - (lo : Int))) = (h : Int) := by
        rw [sub64 _ _ (by omega) (by omega), wrap64_id _ (by omega) (by omega)]
        omega
      rw [if_neg (by rw [lv_length]; omega), if_neg (by omega), hsub, lv_length]
      obtain ⟨k, rfl⟩ : ∃ m, k = m + 1 := ⟨k - 1, by omega⟩
      simp only [laws_FnMergePath.j1]
      rw [if_neg (by simp)]
      exact check_run lo h (by omega) h 0 k (by omega) (by omega)

theorem FnMergePath : laws_FnMergePath.Pure := by
  intro a0 a1 a2 w0 w1 w2
  obtain ⟨b, rfl, hb⟩ := wf_u64 a0 w0
  obtain ⟨m, rfl, hm⟩ := wf_u64 a1 w1
  obtain ⟨e, rfl, he⟩ := wf_u64 a2 w2
  obtain ⟨k, hk⟩ : ∃ k : Nat, 15000 < k := ⟨15001, by omega⟩
  refine ⟨k + 1, ?_⟩
  have yes : laws_FnMergePath.j0 (k + 1) (b : Int) (m : Int) (e : Int) true = some true := by
    simp only [laws_FnMergePath.j0]
    rw [if_pos trivial]
  unfold laws_FnMergePath.f
  by_cases h1 : (b : Int) > (m : Int)
  · rw [if_pos h1]; exact yes
  rw [if_neg h1]
  by_cases h2 : (m : Int) > (e : Int)
  · rw [if_pos h2]; exact yes
  rw [if_neg h2]
  by_cases h3 : (m : Int) = 0
  · rw [if_pos h3]
    by_cases h4 : (e : Int) = 18446744073709551615
    · rw [show ((e : Int) == 18446744073709551615) = true by simpa using h4]; exact yes
    · rw [show ((e : Int) == 18446744073709551615) = false by simpa using h4]
      exact core b m e (by omega) (by omega) he (by omega) k hk
  · rw [if_neg h3]
    exact core b m e (by omega) (by omega) he (by omega) k hk
end Go.Proofs.YtijldedhcjkhiaaDoor.Pure
