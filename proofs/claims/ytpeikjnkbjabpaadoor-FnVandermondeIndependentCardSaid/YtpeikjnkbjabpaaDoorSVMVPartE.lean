import Derived.Test.YtpeikjnkbjabpaaDoorSVMVMatB
namespace Go.Proofs.YtpeikjnkbjabpaaDoor.V
open Go.RowKit Go.Proofs.YtpeikjnkbjabpaaDoorW.PrintWords Go.Proofs.YtpeikjnkbjabpaaDoorW.PrintLast Go.Proofs.YtpeikjnkbjabpaaDoorW.PrintMore
set_option linter.unusedVariables false
def st (Z : Nat → Nat → Int) (r c : Nat) : Nat → Nat → Int := fun i j => if i < r ∨ (i = r ∧ j < c) then Z i j else 0
theorem st_step (Z : Nat → Nat → Int) (r c : Nat) : upd (st Z r c) r c (Z r c) = st Z r (c + 1) := by
  funext i j
  unfold upd st
  by_cases e : i = r ∧ j = c
  · obtain ⟨rfl, rfl⟩ := e
    rw [if_pos ⟨rfl, rfl⟩, if_pos (Or.inr ⟨rfl, by omega⟩)]
  · rw [if_neg e]
    by_cases h : i < r ∨ (i = r ∧ j < c)
    · rw [if_pos h, if_pos (by rcases h with h | ⟨h1, h2⟩; exact .inl h; exact .inr ⟨h1, by omega⟩)]
    · rw [if_neg h, if_neg (by rintro (h1 | ⟨h1, h2⟩) <;> omega)]
theorem st_row (Z : Nat → Nat → Int) (n m r : Nat) : mat n m (st Z r m) = mat n m (st Z (r + 1) 0) := by
  refine mat_ext _ _ _ _ fun i hi j hj => ?_
  unfold st
  by_cases h : i < r ∨ (i = r ∧ j < m)
  · rw [if_pos h, if_pos (by omega)]
  · rw [if_neg h, if_neg (by omega)]
theorem st_zero (Z : Nat → Nat → Int) (n m : Nat) : mat n m (st Z 0 0) = mat n m (fun _ _ => 0) := by
  refine mat_ext _ _ _ _ fun i hi j hj => ?_
  unfold st
  rw [if_neg (by omega)]
theorem st_full (Z : Nat → Nat → Int) (n m : Nat) : mat n m (st Z n 0) = mat n m Z := by
  refine mat_ext _ _ _ _ fun i hi j hj => ?_
  unfold st
  rw [if_pos (by omega)]
theorem row_set (n m : Nat) (Z : Nat → Nat → Int) (r c : Nat) (v : Int) (hr : r < n) (hv : v = Z r c) : (mat n m (st Z r c)).set r ((rd_L1 (mat n m (st Z r c)) (r : Int)).set c v) = mat n m (st Z r (c + 1)) := by
  rw [mat_row _ _ _ _ hr, mat_store _ _ _ _ _ _ hr, hv, st_step]
def aug (ca : Nat) (A B : Nat → Nat → Int) : Nat → Nat → Int := fun i j => if j < ca then A i j else B i (j - ca)
theorem augment_ev (n ca cb : Nat) (A B : Nat → Nat → Int) (hn : 0 < n) (ha : 0 < ca) (hb : 0 < cb) (hn1 : n ≤ 1000) (ha1 : ca ≤ 1000) (hb1 : cb ≤ 1000) :
    Ev (fun k => reedsolomon_matrix_Augment.f k (mat n ca A) (mat n cb B)) (mat n (ca + cb) (aug ca A B), none) := by
  unfold reedsolomon_matrix_Augment.f
  have la : ((rd_L1 (mat n ca A) 0).length : Int) = (ca : Int) := by rw [mat_row0 _ _ _ hn, tab_length]
  have lb : ((rd_L1 (mat n cb B) 0).length : Int) = (cb : Int) := by rw [mat_row0 _ _ _ hn, tab_length]
  simp only [mat_length, if_pos trivial, if_pos (show 0 < (n : Int) by omega), la, lb]
  rw [wrap_id _ (by omega) (by omega), show (ca : Int) + (cb : Int) = ((ca + cb : Nat) : Int) by omega]
  refine Ev.bind (newMatrix_ev n (ca + cb) hn (by omega) (by omega) (by omega)) ?_
  have h := for_ev0 (fun k (s : List (List Int)) i => reedsolomon_matrix_Augment.l0 k (mat n ca A) (mat n cb B) s (mat n ca A) (n : Int) i) n (fun i => mat n (ca + cb) (st (aug ca A B) i 0)) (mat n (ca + cb) (aug ca A B), none)
    (Ev.now1 fun k => by simp only [reedsolomon_matrix_Augment.l0]; rw [if_neg (by omega), st_full]) ?_
  · rw [st_zero] at h; exact h
  intro i hi h
  have lai : ((rd_L1 (mat n ca A) (i : Int)).length : Int) = (ca : Int) := by rw [mat_row _ _ _ _ hi, tab_length]
  have lbi : ((rd_L1 (mat n cb B) (i : Int)).length : Int) = (cb : Int) := by rw [mat_row _ _ _ _ hi, tab_length]
  refine Ev.step (f := fun k => reedsolomon_matrix_Augment.l1 k (mat n ca A) (mat n cb B) (mat n (ca + cb) (st (aug ca A B) i 0)) (i : Int) (mat n ca A) (n : Int) (i : Int) (ca : Int) 0) (fun k => ?_) ?_
  · simp only [reedsolomon_matrix_Augment.l0]
    rw [if_pos (by omega), if_pos (by omega), if_pos (by rw [mat_length]; omega), lai]
  refine for_ev0 (fun k (s : List (List Int)) c => reedsolomon_matrix_Augment.l1 k (mat n ca A) (mat n cb B) s (i : Int) (mat n ca A) (n : Int) (i : Int) (ca : Int) c) ca (fun c => mat n (ca + cb) (st (aug ca A B) i c)) _ ?_ ?_
  · refine Ev.step (f := fun k => reedsolomon_matrix_Augment.l2 k (mat n ca A) (mat n cb B) (mat n (ca + cb) (st (aug ca A B) i ca)) (i : Int) (ca : Int) (mat n ca A) (n : Int) (i : Int) (cb : Int) 0) (fun k => ?_) ?_
    · simp only [reedsolomon_matrix_Augment.l1]
      rw [if_neg (by omega), if_pos (by rw [mat_length]; omega), if_pos (by rw [mat_length]; omega), la, lb]
    refine for_ev0 (fun k (s : List (List Int)) c => reedsolomon_matrix_Augment.l2 k (mat n ca A) (mat n cb B) s (i : Int) (ca : Int) (mat n ca A) (n : Int) (i : Int) (cb : Int) c) cb (fun c => mat n (ca + cb) (st (aug ca A B) i (ca + c))) _ ?_ ?_
    · refine Ev.step (fun k => ?_) h
      simp only [reedsolomon_matrix_Augment.l2]
      rw [if_neg (by omega), wr1 i (by omega), st_row]
    · intro c hc h
      refine Ev.step (fun k => ?_) h
      simp only [reedsolomon_matrix_Augment.l2]
      rw [wrap_id ((ca : Int) + (c : Int)) (by omega) (by omega), show (ca : Int) + (c : Int) = ((ca + c : Nat) : Int) by omega]
      rw [if_pos (by omega), if_pos (by omega), if_pos (by rw [mat_length]; omega), if_pos (by rw [mat_length]; omega), if_pos (by omega), lbi, if_pos (by omega), if_pos (by omega), lens_of_mat _ _ _ _ hi, if_pos (by omega), wr1 c (by omega), Int.toNat_natCast, Int.toNat_natCast, mat_row n cb B i hi, row_at cb (B i) c hc, row_set n (ca + cb) (aug ca A B) i (ca + c) (B i c) hi (by unfold aug; rw [if_neg (by omega)]; congr 1; omega)]
      rfl
  · intro c hc h
    refine Ev.step (fun k => ?_) h
    simp only [reedsolomon_matrix_Augment.l1]
    rw [if_pos (by omega), if_pos (by omega), if_pos (by rw [mat_length]; omega), if_pos (by rw [mat_length]; omega), if_pos (by omega), lai, if_pos (by omega), lens_of_mat _ _ _ _ hi, if_pos (by omega), wr1 c (by omega), Int.toNat_natCast, Int.toNat_natCast, mat_row n ca A i hi, row_at ca (A i) c hc, row_set n (ca + cb) (aug ca A B) i c (A i c) hi (by unfold aug; rw [if_pos (by omega)])]
def sub (r0 c0 : Nat) (A : Nat → Nat → Int) : Nat → Nat → Int := fun i j => A (r0 + i) (c0 + j)
theorem subMatrix_ev (n m : Nat) (A : Nat → Nat → Int) (r0 c0 r1 c1 : Nat) (hr : r0 < r1) (hr1 : r1 ≤ n) (hc : c0 < c1) (hc1 : c1 ≤ m) (hn1 : n ≤ 1000) (hm1 : m ≤ 1000) :
    Ev (fun k => reedsolomon_matrix_SubMatrix.f k (mat n m A) (r0 : Int) (c0 : Int) (r1 : Int) (c1 : Int)) (mat (r1 - r0) (c1 - c0) (sub r0 c0 A), none) := by
  unfold reedsolomon_matrix_SubMatrix.f
  rw [wrap_id _ (by omega) (by omega), wrap_id _ (by omega) (by omega), show (r1 : Int) - (r0 : Int) = ((r1 - r0 : Nat) : Int) by omega, show (c1 : Int) - (c0 : Int) = ((c1 - c0 : Nat) : Int) by omega]
  refine Ev.bind (newMatrix_ev (r1 - r0) (c1 - c0) (by omega) (by omega) (by omega) (by omega)) ?_
  simp only [Option.isNone_none, if_true]
  obtain ⟨n', hn', en⟩ : ∃ n', n' = r1 - r0 ∧ r1 = r0 + n' := ⟨r1 - r0, rfl, by omega⟩
  obtain ⟨m', hm', em⟩ : ∃ m', m' = c1 - c0 ∧ c1 = c0 + m' := ⟨c1 - c0, rfl, by omega⟩
  rw [← hn', ← hm']
  clear hn' hm'
  subst en em
  have h := for_ev0 (fun k (s : List (List Int)) i => reedsolomon_matrix_SubMatrix.l0 k (mat n m A) (r0 : Int) (c0 : Int) ((r0 + n' : Nat) : Int) ((c0 + m' : Nat) : Int) s ((r0 : Int) + i)) n' (fun i => mat n' m' (st (sub r0 c0 A) i 0)) (mat n' m' (sub r0 c0 A), none)
    (Ev.now1 fun k => by simp only [reedsolomon_matrix_SubMatrix.l0]; rw [if_neg (by omega), st_full]) ?_
  · rw [st_zero] at h
    simp only [Int.add_zero] at h
    exact h
  intro i hi h
  have e : (r0 : Int) + (i : Int) = ((r0 + i : Nat) : Int) := by omega
  have lai : ((rd_L1 (mat n m A) ((r0 + i : Nat) : Int)).length : Int) = (m : Int) := by rw [mat_row _ _ _ _ (by omega), tab_length]
  rw [e]
  refine Ev.step (f := fun k => reedsolomon_matrix_SubMatrix.l1 k (mat n m A) (r0 : Int) (c0 : Int) ((r0 + n' : Nat) : Int) ((c0 + m' : Nat) : Int) (mat n' m' (st (sub r0 c0 A) i 0)) ((r0 + i : Nat) : Int) (c0 : Int)) (fun k => ?_) ?_
  · simp only [reedsolomon_matrix_SubMatrix.l0]
    rw [if_pos (by omega)]
  have h2 := for_ev0 (fun k (s : List (List Int)) c => reedsolomon_matrix_SubMatrix.l1 k (mat n m A) (r0 : Int) (c0 : Int) ((r0 + n' : Nat) : Int) ((c0 + m' : Nat) : Int) s ((r0 + i : Nat) : Int) ((c0 : Int) + c)) m' (fun c => mat n' m' (st (sub r0 c0 A) i c)) (mat n' m' (sub r0 c0 A), none) ?_ ?_
  · simp only [Int.add_zero] at h2
    exact h2
  · refine Ev.step (fun k => ?_) h
    simp only [reedsolomon_matrix_SubMatrix.l1]
    rw [if_neg (by omega), wr1 (r0 + i) (by omega), st_row, show ((r0 + i + 1 : Nat) : Int) = (r0 : Int) + ((i + 1 : Nat) : Int) by omega]
  · intro c hc h
    refine Ev.step (fun k => ?_) h
    simp only [reedsolomon_matrix_SubMatrix.l1]
    rw [wrap_id (((r0 + i : Nat) : Int) - (r0 : Int)) (by omega) (by omega), show ((r0 + i : Nat) : Int) - (r0 : Int) = (i : Int) by omega, wrap_id ((c0 : Int) + (c : Int) - (c0 : Int)) (by omega) (by omega), show (c0 : Int) + (c : Int) - (c0 : Int) = (c : Int) by omega]
    rw [if_pos (by omega), if_pos (by omega), if_pos (by rw [mat_length]; omega), if_pos (by omega), if_pos (by rw [mat_length]; omega), if_pos (by omega), lai, if_pos (by omega), if_pos (by omega), lens_of_mat _ _ _ _ hi, if_pos (by omega), show (c0 : Int) + (c : Int) = ((c0 + c : Nat) : Int) by omega, wr1 (c0 + c) (by omega), Int.toNat_natCast, Int.toNat_natCast, mat_row n m A (r0 + i) (by omega), row_at m (A (r0 + i)) (c0 + c) (by omega), row_set n' m' (sub r0 c0 A) i c (A (r0 + i) (c0 + c)) hi rfl, show ((c0 + c + 1 : Nat) : Int) = (c0 : Int) + ((c + 1 : Nat) : Int) by omega]
end Go.Proofs.YtpeikjnkbjabpaaDoor.V
