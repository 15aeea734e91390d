import Derived.Test.YtpeikjnkbjabpaaDoorSGMPPartE
import Derived.Test.YtpeikjnkbjabpaaDoorSGMPMulE
import Derived.Test.YtpeikjnkbjabpaaDoorSGMPGaussE
namespace Go.Proofs.YtpeikjnkbjabpaaDoor.P
open Go.RowKit Go.Proofs.YtpeikjnkbjabpaaDoorW.PrintWords Go.Proofs.YtpeikjnkbjabpaaDoorW.PrintLast Go.Proofs.YtpeikjnkbjabpaaDoorW.PrintMore
set_option linter.unusedVariables false
def nm (r c : Nat) (M : Nat → Nat → Nat) : List (List Int) := mat r c (fun i j => ((M i j : Nat) : Int))
theorem xor_n (a b : E) : Go.bits .xor .u8 ((a.n : Nat) : Int) ((b.n : Nat) : Int) = (((a + b).n : Nat) : Int) := u8_xor_nat a.n b.n a.lt b.lt
theorem mulE_ev (a b : E) : Ev (fun k => spec_Mul.f k ((a.n : Nat) : Int) ((b.n : Nat) : Int)) (((a * b).n : Nat) : Int) := mul_ev a.n b.n a.lt b.lt
theorem to_n {M : Nat → Nat → Nat} (h : Byt M) (i j : Nat) : (toE M i j).n = M i j := el_n (h i j)
theorem cut_row (n j : Nat) (R : Nat → Int) (hj : j < n + 1) : (tab (n + 1) R).take j ++ (tab (n + 1) R).drop (j + 1) = tab n (fun k => R (sk j k)) := by
  rw [tab_take _ _ _ (by omega), tab_drop, tab_append, show j + (n + 1 - (j + 1)) = n by omega]
  refine tab_ext _ _ _ fun i hi => ?_
  unfold sk
  by_cases e : i < j
  · rw [if_pos e, if_pos e]
  · rw [if_neg e, if_neg e, show j + 1 + (i - j) = i + 1 by omega]
def mnN (j : Nat) (M : Nat → Nat → Nat) : Nat → Nat → Nat := fun i k => M (i + 1) (sk j k)
theorem mn_to (j : Nat) (M : Nat → Nat → Nat) : toE (mnN j M) = mnr j (toE M) := rfl
theorem det_ev : ∀ (n : Nat) (M : Nat → Nat → Nat), n ≤ 1000 → Byt M → Ev (fun k => spec_Determinant.f k (nm n n M)) (((det n (toE M)).n : Nat) : Int) := by
  intro n
  induction n with
  | zero =>
    intro M _ _
    exact Ev.now1 fun k => by simp only [spec_Determinant.f]; rw [if_pos (by rfl)]; rfl
  | succ n ih =>
    intro M hn hM
    have hlen : (nm (n + 1) (n + 1) M).length = n + 1 := mat_length _ _ _
    have hr0 : rd_L1 (nm (n + 1) (n + 1) M) 0 = tab (n + 1) (fun j => ((M 0 j : Nat) : Int)) := mat_row0 _ _ _ (by omega)
    refine Ev.step (f := fun k => spec_Determinant.l0 k (nm (n + 1) (n + 1) M) 0 (tab (n + 1) (fun j => ((M 0 j : Nat) : Int))) ((n + 1 : Nat) : Int) 0) (fun k => ?_) ?_
    · simp only [spec_Determinant.f]
      rw [if_neg (by rw [hlen]; omega), if_pos (by rw [hlen]; omega), hr0, tab_length]
    refine for_ev0 (fun k (s : Int) j => spec_Determinant.l0 k (nm (n + 1) (n + 1) M) s (tab (n + 1) (fun j => ((M 0 j : Nat) : Int))) ((n + 1 : Nat) : Int) j) (n + 1) (fun j => (((sm j (fun j => toE M 0 j * det n (mnr j (toE M)))).n : Nat) : Int)) _ ?_ ?_
    · exact Ev.now1 fun k => by simp only [spec_Determinant.l0]; rw [if_neg (by omega)]; rfl
    intro j hj h
    have hrd : rd (tab (n + 1) (fun j => ((M 0 j : Nat) : Int))) (j : Int) = ((M 0 j : Nat) : Int) := row_at _ _ _ hj
    have e : sm (j + 1) (fun j => toE M 0 j * det n (mnr j (toE M))) = sm j (fun j => toE M 0 j * det n (mnr j (toE M))) + toE M 0 j * det n (mnr j (toE M)) := rfl
    rw [e] at h
    generalize sm j (fun j => toE M 0 j * det n (mnr j (toE M))) = acc at h ⊢
    by_cases h0 : M 0 j = 0
    · refine Ev.step (fun k => ?_) h
      have ez : toE M 0 j = 0 := by unfold toE; rw [h0]; rfl
      rw [ez, E.zero_mul, E.add_zero]
      simp only [spec_Determinant.l0]
      rw [if_pos (by omega), if_pos (by omega), if_pos (by rw [tab_length]; omega), hrd, if_pos (by omega), wr1 j (by omega)]
    · have hd : (nm (n + 1) (n + 1) M).drop 1 = mat n (n + 1) (fun i k => ((M (i + 1) k : Nat) : Int)) := by
        unfold nm mat
        rw [tab_drop]
        exact tab_ext _ _ _ fun i hi => by rw [show 1 + i = i + 1 by omega]
      refine Ev.step (f := fun k => spec_Determinant.l1 k (nm (n + 1) (n + 1) M) ((acc.n : Nat) : Int) (j : Int) ((M 0 j : Nat) : Int) [] (tab (n + 1) (fun j => ((M 0 j : Nat) : Int))) ((n + 1 : Nat) : Int) (j : Int) (mat n (n + 1) (fun i k => ((M (i + 1) k : Nat) : Int))) (n : Int) 0) (fun k => ?_) ?_
      · simp only [spec_Determinant.l0]
        rw [if_pos (by omega), if_pos (by omega), if_pos (by rw [tab_length]; omega), hrd, if_neg (by omega), if_pos (by rw [hlen]; omega), hd, Option.bind_some, mat_length]
      refine for_ev0 (fun k (s : List (List Int)) i => spec_Determinant.l1 k (nm (n + 1) (n + 1) M) ((acc.n : Nat) : Int) (j : Int) ((M 0 j : Nat) : Int) s (tab (n + 1) (fun j => ((M 0 j : Nat) : Int))) ((n + 1 : Nat) : Int) (j : Int) (mat n (n + 1) (fun i k => ((M (i + 1) k : Nat) : Int))) (n : Int) i) n (fun i => mat i n (fun i k => ((mnN j M i k : Nat) : Int))) _ ?_ ?_
      · refine Ev.step (f := fun k => (spec_Determinant.f k (nm n n (mnN j M))).bind fun t226 => ((spec_Mul.f k ((M 0 j : Nat) : Int) t226).bind fun t227 => (spec_Determinant.l0 k (nm (n + 1) (n + 1) M) (Go.bits .xor .u8 ((acc.n : Nat) : Int) t227) (tab (n + 1) (fun j => ((M 0 j : Nat) : Int))) ((n + 1 : Nat) : Int) (wrap64 ((j : Int) + 1))))) (fun k => ?_) ?_
        · simp only [spec_Determinant.l1]
          rw [if_neg (by omega)]
          rfl
        · refine Ev.bind (ih (mnN j M) (by omega) fun a b => hM _ _) ?_
          have hm := mulE_ev (toE M 0 j) (det n (toE (mnN j M)))
          rw [to_n hM] at hm
          refine Ev.bind hm ?_
          rw [xor_n, mn_to, wr1 j (by omega)]
          exact h
      · intro i hi h
        refine Ev.step (fun k => ?_) h
        have hrow : rd_L1 (mat n (n + 1) (fun i k => ((M (i + 1) k : Nat) : Int))) (i : Int) = tab (n + 1) (fun k => ((M (i + 1) k : Nat) : Int)) := mat_row _ _ _ _ hi
        have hcut := cut_row n j (fun k => ((M (i + 1) k : Nat) : Int)) hj
        simp only [spec_Determinant.l1]
        rw [hrow, wr1 j (by omega), Int.toNat_natCast, Int.toNat_natCast]
        rw [if_pos (by omega), if_pos (by omega), if_pos (by rw [mat_length]; omega), Option.bind_some, if_pos (by omega), if_pos (by rw [tab_length]; omega), if_pos (by simp [tab_length]; omega), Option.bind_some, if_pos (by omega), if_pos (by rw [tab_length]; omega), if_pos (by simp [tab_length]; omega), if_pos (by rw [mat_length]; omega), List.nil_append, hcut, wr1 i (by omega)]
        congr 1
        exact tab_snoc i (fun i => tab n (fun k => ((mnN j M i k : Nat) : Int)))
theorem zeros_ev (r c : Nat) (hr1 : r ≤ 1000000) (hc1 : c ≤ 1000000) : Ev (fun k => spec_Zeros.f k (r : Int) (c : Int)) (mat r c (fun _ _ => 0)) := by
  unfold spec_Zeros.f
  simp only [if_pos (show (0 : Int) ≤ (r : Int) by omega), Option.bind_some, Int.toNat_natCast, List.length_replicate, if_pos (show r ≤ 11728124029610 by omega)]
  have h := for_ev0 (fun k (s : List (List Int)) i => spec_Zeros.l0 k (c : Int) s (r : Int) i) r (fun i => tab r (fun t => if t < i then tab c (fun _ => 0) else [])) (mat r c (fun _ _ => 0))
    (Ev.now1 fun k => by
      simp only [spec_Zeros.l0]
      rw [if_neg (by omega)]
      congr 1
      exact tab_ext _ _ _ fun i hi => if_pos hi)
    (fun i hi h => by
      refine Ev.step (fun k => ?_) h
      simp only [spec_Zeros.l0]
      rw [if_pos (by omega), if_pos (by omega), if_pos (by omega), if_pos (by omega), if_pos (by rw [tab_length]; omega), wr1 i (by omega), Int.toNat_natCast, Int.toNat_natCast, tab_set, tab_replicate]
      congr 1
      refine tab_ext _ _ _ fun t ht => ?_
      by_cases e : t = i
      · subst e; rw [if_pos rfl, if_pos (by omega)]
      · rw [if_neg e]
        by_cases h2 : t < i
        · rw [if_pos h2, if_pos (by omega)]
        · rw [if_neg h2, if_neg (by omega)])
  have e : (tab r (fun t => if t < 0 then tab c (fun _ => (0 : Int)) else [])) = List.replicate r [] := by
    rw [tab_replicate]
    exact tab_ext _ _ _ fun i _ => if_neg (by omega)
  rw [e] at h
  exact h
def idN : Nat → Nat → Nat := fun i j => if i = j then 1 else 0
def dg (t : Nat) : Nat → Nat → Int := fun i j => if i = j ∧ i < t then 1 else 0
theorem dg_step (n t : Nat) (ht : t < n) : (mat n n (dg t)).set t ((rd_L1 (mat n n (dg t)) (t : Int)).set t 1) = mat n n (dg (t + 1)) := by
  rw [mat_row _ _ _ _ ht, mat_store _ _ _ _ _ _ ht]
  refine mat_ext _ _ _ _ fun i hi j hj => ?_
  unfold upd dg
  by_cases e : i = t ∧ j = t
  · rw [if_pos e, if_pos (by omega)]
  · rw [if_neg e]
    by_cases e2 : i = j ∧ i < t
    · rw [if_pos e2, if_pos (by omega)]
    · rw [if_neg e2, if_neg (by omega)]
theorem dg_full (n : Nat) : mat n n (dg n) = nm n n idN := by
  refine mat_ext _ _ _ _ fun i hi j hj => ?_
  unfold dg idN
  by_cases e : i = j
  · rw [if_pos ⟨e, hi⟩, if_pos e]; rfl
  · rw [if_neg (fun h => e h.1), if_neg e]; rfl
theorem dg_zero (n : Nat) : mat n n (fun _ _ => 0) = mat n n (dg 0) := by
  refine mat_ext _ _ _ _ fun i hi j hj => ?_
  unfold dg
  rw [if_neg (by omega)]
theorem unit_ev (n : Nat) (hn : n ≤ 1000) : Ev (fun k => spec_Unit.f k (n : Int)) (nm n n idN) := by
  unfold spec_Unit.f
  refine Ev.bind (zeros_ev n n (by omega) (by omega)) ?_
  rw [mat_length]
  have h := for_ev0 (fun k (s : List (List Int)) i => spec_Unit.l0 k s (n : Int) i) n (fun i => mat n n (dg i)) (nm n n idN)
    (Ev.now1 fun k => by simp only [spec_Unit.l0]; rw [if_neg (by omega), dg_full])
    (fun i hi h => by
      refine Ev.step (fun k => ?_) h
      simp only [spec_Unit.l0]
      rw [if_pos (by omega), if_pos (by omega), if_pos (by rw [mat_length]; omega), if_pos (by rw [lens_of_mat _ _ _ _ hi]; omega), Int.toNat_natCast, dg_step n i hi, wr1 i (by omega)])
  rw [← dg_zero] at h
  exact h
theorem identity_ev (n : Nat) (h0 : 0 < n) (hn : n ≤ 1000) : Ev (fun k => reedsolomon_identityMatrix.f k (n : Int)) (nm n n idN, none) := by
  unfold reedsolomon_identityMatrix.f
  refine Ev.bind (newMatrix_ev n n h0 h0 (by omega) (by omega)) ?_
  simp only [Option.isNone_none, if_true]
  rw [mat_length]
  have h := for_ev0 (fun k (s : List (List Int)) i => reedsolomon_identityMatrix.l0 k s (n : Int) i) n (fun i => mat n n (dg i)) (nm n n idN, none)
    (Ev.now1 fun k => by simp only [reedsolomon_identityMatrix.l0]; rw [if_neg (by omega), dg_full])
    (fun i hi h => by
      refine Ev.step (fun k => ?_) h
      simp only [reedsolomon_identityMatrix.l0]
      rw [if_pos (by omega), if_pos (by omega), if_pos (by rw [mat_length]; omega), if_pos (by rw [lens_of_mat _ _ _ _ hi]; omega), Int.toNat_natCast, dg_step n i hi, wr1 i (by omega)])
  rw [← dg_zero] at h
  exact h
def pst (m : Nat) (A B : Nat → Nat → Nat) (i j t : Nat) : Nat → Nat → Int := fun a b => if a < i ∨ (a = i ∧ b < j) then (((sm m (fun k => toE A a k * toE B k b)).n : Nat) : Int) else if a = i ∧ b = j then (((sm t (fun k => toE A a k * toE B k b)).n : Nat) : Int) else 0
theorem times_ev (r m c : Nat) (A B : Nat → Nat → Nat) (hA : Byt A) (hB : Byt B) (hm0 : 0 < m) (hr : r ≤ 1000) (hm : m ≤ 1000) (hc : c ≤ 1000) :
    Ev (fun k => spec_Times.f k (nm r m A) (nm m c B)) (mat r c (fun a b => (((sm m (fun k => toE A a k * toE B k b)).n : Nat) : Int))) := by
  unfold spec_Times.f
  have hcol : spec_Columns.f (nm m c B) = some (c : Int) := by
    rw [columns_f]
    unfold nm
    rw [mat_row0 _ _ _ hm0, tab_length]
  have hla : (nm r m A).length = r := mat_length _ _ _
  have hlb : (nm m c B).length = m := mat_length _ _ _
  simp only [hcol, Option.bind_some, hla]
  refine Ev.bind (zeros_ev r c (by omega) (by omega)) ?_
  have h := for_ev0 (fun k (s : List (List Int)) i => spec_Times.l0 k (nm r m A) (nm m c B) s (r : Int) i) r (fun i => mat r c (pst m A B i 0 0)) (mat r c (fun a b => (((sm m (fun k => toE A a k * toE B k b)).n : Nat) : Int))) ?_ ?_
  · have e : mat r c (pst m A B 0 0 0) = mat r c (fun _ _ => 0) := by
      refine mat_ext _ _ _ _ fun i hi j hj => ?_
      unfold pst
      rw [if_neg (by omega)]
      split
      · rfl
      · rfl
    rw [e] at h
    exact h
  · refine Ev.now1 fun k => ?_
    simp only [spec_Times.l0]
    rw [if_neg (by omega)]
    congr 1
    refine mat_ext _ _ _ _ fun i hi j hj => ?_
    unfold pst
    rw [if_pos (by omega)]
  intro i hi h
  refine Ev.step (f := fun k => spec_Times.l1 k (nm r m A) (nm m c B) (mat r c (pst m A B i 0 0)) (i : Int) (r : Int) (i : Int) (c : Int) 0) (fun k => ?_) ?_
  · simp only [spec_Times.l0]
    rw [if_pos (by omega), if_pos (by omega), if_pos (by rw [mat_length]; omega), lens_of_mat _ _ _ _ hi]
  refine for_ev0 (fun k (s : List (List Int)) j => spec_Times.l1 k (nm r m A) (nm m c B) s (i : Int) (r : Int) (i : Int) (c : Int) j) c (fun j => mat r c (pst m A B i j 0)) _ ?_ ?_
  · refine Ev.step (fun k => ?_) h
    simp only [spec_Times.l1]
    rw [if_neg (by omega), wr1 i (by omega)]
    congr 1
    refine mat_ext _ _ _ _ fun a ha b hb => ?_
    unfold pst
    by_cases e : a < i ∨ (a = i ∧ b < c)
    · rw [if_pos e, if_pos (by omega)]
    · rw [if_neg e, if_neg (by omega), if_neg (by omega)]
      split
      · rfl
      · rfl
  intro j hj h
  refine Ev.step (f := fun k => spec_Times.l2 k (nm r m A) (nm m c B) (mat r c (pst m A B i j 0)) (i : Int) (j : Int) (r : Int) (i : Int) (c : Int) (j : Int) (m : Int) 0) (fun k => ?_) ?_
  · simp only [spec_Times.l1]
    rw [if_pos (by omega), hlb]
  refine for_ev0 (fun k (s : List (List Int)) t => spec_Times.l2 k (nm r m A) (nm m c B) s (i : Int) (j : Int) (r : Int) (i : Int) (c : Int) (j : Int) (m : Int) t) m (fun t => mat r c (pst m A B i j t)) _ ?_ ?_
  · refine Ev.step (fun k => ?_) h
    simp only [spec_Times.l2]
    rw [if_neg (by omega), wr1 j (by omega)]
    congr 1
    refine mat_ext _ _ _ _ fun a ha b hb => ?_
    unfold pst
    by_cases e : a < i ∨ (a = i ∧ b < j)
    · rw [if_pos e, if_pos (by omega)]
    · rw [if_neg e]
      by_cases e2 : a = i ∧ b = j
      · rw [if_pos e2, if_pos (by omega)]
      · rw [if_neg e2, if_neg (by omega)]
        split
        · rfl
        · rfl
  intro t ht h
  have hra : rd_L1 (nm r m A) (i : Int) = tab m (fun j => ((A i j : Nat) : Int)) := mat_row _ _ _ _ hi
  have hrb : rd_L1 (nm m c B) (t : Int) = tab c (fun j => ((B t j : Nat) : Int)) := mat_row _ _ _ _ ht
  have hda : rd (tab m (fun j => ((A i j : Nat) : Int))) (t : Int) = ((A i t : Nat) : Int) := row_at _ _ _ ht
  have hdb : rd (tab c (fun j => ((B t j : Nat) : Int))) (j : Int) = ((B t j : Nat) : Int) := row_at _ _ _ hj
  have hmul := mulE_ev (toE A i t) (toE B t j)
  rw [to_n hA, to_n hB] at hmul
  refine Ev.step (f := fun k => (spec_Mul.f k ((A i t : Nat) : Int) ((B t j : Nat) : Int)).bind fun t246 => (spec_Times.l2 k (nm r m A) (nm m c B) ((mat r c (pst m A B i j t)).set i ((rd_L1 (mat r c (pst m A B i j t)) (i : Int)).set j (Go.bits .xor .u8 (rd (rd_L1 (mat r c (pst m A B i j t)) (i : Int)) (j : Int)) t246))) (i : Int) (j : Int) (r : Int) (i : Int) (c : Int) (j : Int) (m : Int) ((t + 1 : Nat) : Int))) (fun k => ?_) ?_
  · simp only [spec_Times.l2]
    rw [if_pos (by omega), if_pos (by omega), if_pos (by rw [mat_length]; omega), if_pos (by omega), if_pos (by rw [lens_of_mat _ _ _ _ hi]; omega), if_pos (by rw [hla]; omega), if_pos (by omega), hra, hrb, if_pos (by rw [tab_length]; omega), if_pos (by rw [hlb]; omega), if_pos (by rw [tab_length]; omega), hda, hdb, Int.toNat_natCast, Int.toNat_natCast, wr1 t (by omega)]
  refine Ev.bind hmul ?_
  have hpt : pst m A B i j t i j = (((sm t (fun k => toE A i k * toE B k j)).n : Nat) : Int) := by
    unfold pst
    rw [if_neg (by omega), if_pos ⟨rfl, rfl⟩]
  rw [mat_row _ _ _ _ hi, row_at _ _ _ hj, hpt, xor_n, mat_store _ _ _ _ _ _ hi]
  have e : mat r c (upd (pst m A B i j t) i j (((sm t (fun k => toE A i k * toE B k j) + toE A i t * toE B t j).n : Nat) : Int)) = mat r c (pst m A B i j (t + 1)) := by
    refine mat_ext _ _ _ _ fun a ha b hb => ?_
    unfold upd pst
    by_cases e : a = i ∧ b = j
    · obtain ⟨rfl, rfl⟩ := e
      rw [if_pos ⟨rfl, rfl⟩, if_neg (by omega), if_pos ⟨rfl, rfl⟩]
      rfl
    · rw [if_neg e]
      by_cases e2 : a < i ∨ (a = i ∧ b < j)
      · rw [if_pos e2, if_pos e2]
      · rw [if_neg e2, if_neg e2, if_neg e, if_neg e]
  rw [e]
  exact h
end Go.Proofs.YtpeikjnkbjabpaaDoor.P
