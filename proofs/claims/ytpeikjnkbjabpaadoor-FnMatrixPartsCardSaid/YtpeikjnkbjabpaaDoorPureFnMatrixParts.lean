/-
  Matrices side by side and a part of a matrix: the plain statement of FnMatrixParts.
-/
import Derived.Test.YtpeikjnkbjabpaaDoorMatR
namespace Go.Proofs.YtpeikjnkbjabpaaDoor.Pure
open Go.RowKit Go.Proofs.YtpeikjnkbjabpaaDoorW.PrintWords Go.Proofs.YtpeikjnkbjabpaaDoorW.PrintLast Go.Proofs.YtpeikjnkbjabpaaDoorW.PrintMore Go.Proofs.YtpeikjnkbjabpaaDoor.X
set_option linter.unusedVariables false

/-- The state of a matrix that is filled row by row: what lies ahead of row r, place c is Z. -/
def st (Z : Nat → Nat → Int) (r c : Nat) : Nat → Nat → Int := fun i j => if i < r ∨ (i = r ∧ j < c) then Z i j else 0
theorem st_step (Z : Nat → Nat → Int) (r c : Nat) : upd (st Z r c) r c (Z r c) = st Z r (c + 1) := by
  funext i j
  unfold upd st
  by_cases e : i = r ∧ j = c
  · obtain ⟨rfl, rfl⟩ := e
    rw [if_pos ⟨rfl, rfl⟩, if_pos (Or.inr ⟨rfl, by omega⟩)]
  · rw [if_neg e]
    by_cases h : i < r ∨ (i = r ∧ j < c)
    · rw [if_pos h, if_pos (by rcases h with h | ⟨h1, h2⟩; exact .inl h; exact .inr ⟨h1, by omega⟩)]
    · rw [if_neg h, if_neg (by rintro (h1 | ⟨h1, h2⟩) <;> omega)]
theorem st_row (Z : Nat → Nat → Int) (n m r : Nat) : mat n m (st Z r m) = mat n m (st Z (r + 1) 0) := by
  refine mat_ext _ _ _ _ fun i hi j hj => ?_
  unfold st
  by_cases h : i < r ∨ (i = r ∧ j < m)
  · rw [if_pos h, if_pos (by omega)]
  · rw [if_neg h, if_neg (by omega)]
theorem st_zero (Z : Nat → Nat → Int) (n m : Nat) : mat n m (st Z 0 0) = mat n m (fun _ _ => 0) := by
  refine mat_ext _ _ _ _ fun i hi j hj => ?_
  unfold st
  rw [if_neg (by omega)]
theorem st_full (Z : Nat → Nat → Int) (n m : Nat) : mat n m (st Z n 0) = mat n m Z := by
  refine mat_ext _ _ _ _ fun i hi j hj => ?_
  unfold st
  rw [if_pos (by omega)]
theorem row_set (n m : Nat) (Z : Nat → Nat → Int) (r c : Nat) (v : Int) (hr : r < n) (hv : v = Z r c) : (mat n m (st Z r c)).set r ((rd_L1 (mat n m (st Z r c)) (r : Int)).set c v) = mat n m (st Z r (c + 1)) := by
  rw [mat_row _ _ _ _ hr, mat_store _ _ _ _ _ _ hr, hv, st_step]

def aug (ca : Nat) (A B : Nat → Nat → Int) : Nat → Nat → Int := fun i j => if j < ca then A i j else B i (j - ca)

theorem augment_ev (n ca cb : Nat) (A B : Nat → Nat → Int) (hn : 0 < n) (ha : 0 < ca) (hb : 0 < cb) (hn1 : n ≤ 1000) (ha1 : ca ≤ 1000) (hb1 : cb ≤ 1000) :
    Ev (fun k => reedsolomon_matrix_Augment.f k (mat n ca A) (mat n cb B)) (mat n (ca + cb) (aug ca A B), none) := by
  unfold reedsolomon_matrix_Augment.f
  have la : ((rd_L1 (mat n ca A) 0).length : Int) = (ca : Int) := by rw [mat_row0 _ _ _ hn, tab_length]
  have lb : ((rd_L1 (mat n cb B) 0).length : Int) = (cb : Int) := by rw [mat_row0 _ _ _ hn, tab_length]
  simp only [mat_length, if_pos trivial, if_pos (show 0 < (n : Int) by omega), la, lb]
  rw [wrap_id _ (by omega) (by omega), show (ca : Int) + (cb : Int) = ((ca + cb : Nat) : Int) by omega]
  refine Ev.bind (newMatrix_ev n (ca + cb) hn (by omega) (by omega) (by omega)) ?_
  have h := for_ev0 (fun k (s : List (List Int)) i => reedsolomon_matrix_Augment.l0 k (mat n ca A) (mat n cb B) s (mat n ca A) (n : Int) i) n (fun i => mat n (ca + cb) (st (aug ca A B) i 0)) (mat n (ca + cb) (aug ca A B), none)
    (Ev.now1 fun k => by simp only [reedsolomon_matrix_Augment.l0]; rw [if_neg (by omega), st_full]) ?_
  · rw [st_zero] at h; exact h
  intro i hi h
  have lai : ((rd_L1 (mat n ca A) (i : Int)).length : Int) = (ca : Int) := by rw [mat_row _ _ _ _ hi, tab_length]
  have lbi : ((rd_L1 (mat n cb B) (i : Int)).length : Int) = (cb : Int) := by rw [mat_row _ _ _ _ hi, tab_length]
  refine Ev.step (f := fun k => reedsolomon_matrix_Augment.l1 k (mat n ca A) (mat n cb B) (mat n (ca + cb) (st (aug ca A B) i 0)) (i : Int) (mat n ca A) (n : Int) (i : Int) (ca : Int) 0) (fun k => ?_) ?_
  · simp only [reedsolomon_matrix_Augment.l0]
    rw [if_pos (by omega), if_pos (by omega), if_pos (by rw [mat_length]; omega), lai]
  refine for_ev0 (fun k (s : List (List Int)) c => reedsolomon_matrix_Augment.l1 k (mat n ca A) (mat n cb B) s (i : Int) (mat n ca A) (n : Int) (i : Int) (ca : Int) c) ca (fun c => mat n (ca + cb) (st (aug ca A B) i c)) _ ?_ ?_
  · refine Ev.step (f := fun k => reedsolomon_matrix_Augment.l2 k (mat n ca A) (mat n cb B) (mat n (ca + cb) (st (aug ca A B) i ca)) (i : Int) (ca : Int) (mat n ca A) (n : Int) (i : Int) (cb : Int) 0) (fun k => ?_) ?_
    · simp only [reedsolomon_matrix_Augment.l1]
      rw [if_neg (by omega), if_pos (by rw [mat_length]; omega), if_pos (by rw [mat_length]; omega), la, lb]
    refine for_ev0 (fun k (s : List (List Int)) c => reedsolomon_matrix_Augment.l2 k (mat n ca A) (mat n cb B) s (i : Int) (ca : Int) (mat n ca A) (n : Int) (i : Int) (cb : Int) c) cb (fun c => mat n (ca + cb) (st (aug ca A B) i (ca + c))) _ ?_ ?_
    · refine Ev.step (fun k => ?_) h
      simp only [reedsolomon_matrix_Augment.l2]
      rw [if_neg (by omega), wr1 i (by omega), st_row]
    · intro c hc h
      refine Ev.step (fun k => ?_) h
      simp only [reedsolomon_matrix_Augment.l2]
      rw [wrap_id ((ca : Int) + (c : Int)) (by omega) (by omega), show (ca : Int) + (c : Int) = ((ca + c : Nat) : Int) by omega]
      rw [if_pos (by omega), if_pos (by omega), if_pos (by rw [mat_length]; omega), if_pos (by rw [mat_length]; omega), if_pos (by omega), lbi, if_pos (by omega), if_pos (by omega), lens_of_mat _ _ _ _ hi, if_pos (by omega), wr1 c (by omega), Int.toNat_natCast, Int.toNat_natCast, mat_row n cb B i hi, row_at cb (B i) c hc, row_set n (ca + cb) (aug ca A B) i (ca + c) (B i c) hi (by unfold aug; rw [if_neg (by omega)]; congr 1; omega)]
      rfl
  · intro c hc h
    refine Ev.step (fun k => ?_) h
    simp only [reedsolomon_matrix_Augment.l1]
    rw [if_pos (by omega), if_pos (by omega), if_pos (by rw [mat_length]; omega), if_pos (by rw [mat_length]; omega), if_pos (by omega), lai, if_pos (by omega), lens_of_mat _ _ _ _ hi, if_pos (by omega), wr1 c (by omega), Int.toNat_natCast, Int.toNat_natCast, mat_row n ca A i hi, row_at ca (A i) c hc, row_set n (ca + cb) (aug ca A B) i c (A i c) hi (by unfold aug; rw [if_pos (by omega)])]

theorem beside_ev (n ca cb : Nat) (A B : Nat → Nat → Int) (hn1 : n ≤ 1000) (ha1 : ca ≤ 1000) (hb1 : cb ≤ 1000) :
    Ev (fun k => spec_Beside.f k (mat n ca A) (mat n cb B)) (mat n (ca + cb) (aug ca A B)) := by
  unfold spec_Beside.f
  simp only [mat_length]
  refine for_ev0 (fun k (s : List (List Int)) i => spec_Beside.l0 k (mat n ca A) (mat n cb B) s (n : Int) i) n (fun i => mat i (ca + cb) (aug ca A B)) _ (Ev.now1 fun k => by simp only [spec_Beside.l0]; rw [if_neg (by omega)]) ?_
  intro i hi h
  refine Ev.step (fun k => ?_) h
  simp only [spec_Beside.l0]
  rw [if_pos (by omega), Option.bind_some, if_pos (by omega), if_pos (by rw [mat_length]; omega), if_pos (by rw [lens_of_mat _ _ _ _ hi]; simp; omega), Option.bind_some, if_pos (by rw [mat_length]; omega), if_pos (by rw [lens_of_mat _ _ _ _ hi, List.length_append, lens_of_mat _ _ _ _ hi]; simp; omega), if_pos (by rw [mat_length]; omega), wr1 i (by omega), List.nil_append, mat_row _ _ _ _ hi, mat_row _ _ _ _ hi, tab_append]
  congr 1
  exact tab_snoc i (fun i => tab (ca + cb) (aug ca A B i))

def sub (r0 c0 : Nat) (A : Nat → Nat → Int) : Nat → Nat → Int := fun i j => A (r0 + i) (c0 + j)
theorem subMatrix_ev (n m : Nat) (A : Nat → Nat → Int) (r0 c0 r1 c1 : Nat) (hr : r0 < r1) (hr1 : r1 ≤ n) (hc : c0 < c1) (hc1 : c1 ≤ m) (hn1 : n ≤ 1000) (hm1 : m ≤ 1000) :
    Ev (fun k => reedsolomon_matrix_SubMatrix.f k (mat n m A) (r0 : Int) (c0 : Int) (r1 : Int) (c1 : Int)) (mat (r1 - r0) (c1 - c0) (sub r0 c0 A), none) := by
  unfold reedsolomon_matrix_SubMatrix.f
  rw [wrap_id _ (by omega) (by omega), wrap_id _ (by omega) (by omega), show (r1 : Int) - (r0 : Int) = ((r1 - r0 : Nat) : Int) by omega, show (c1 : Int) - (c0 : Int) = ((c1 - c0 : Nat) : Int) by omega]
  refine Ev.bind (newMatrix_ev (r1 - r0) (c1 - c0) (by omega) (by omega) (by omega) (by omega)) ?_
  simp only [Option.isNone_none, if_true]
  obtain ⟨n', hn', en⟩ : ∃ n', n' = r1 - r0 ∧ r1 = r0 + n' := ⟨r1 - r0, rfl, by omega⟩
  obtain ⟨m', hm', em⟩ : ∃ m', m' = c1 - c0 ∧ c1 = c0 + m' := ⟨c1 - c0, rfl, by omega⟩
  rw [← hn', ← hm']
  clear hn' hm'
  subst en em
  have h := for_ev0 (fun k (s : List (List Int)) i => reedsolomon_matrix_SubMatrix.l0 k (mat n m A) (r0 : Int) (c0 : Int) ((r0 + n' : Nat) : Int) ((c0 + m' : Nat) : Int) s ((r0 : Int) + i)) n' (fun i => mat n' m' (st (sub r0 c0 A) i 0)) (mat n' m' (sub r0 c0 A), none)
    (Ev.now1 fun k => by simp only [reedsolomon_matrix_SubMatrix.l0]; rw [if_neg (by omega), st_full]) ?_
  · rw [st_zero] at h
    simp only [Int.add_zero] at h
    exact h
  intro i hi h
  have e : (r0 : Int) + (i : Int) = ((r0 + i : Nat) : Int) := by omega
  have lai : ((rd_L1 (mat n m A) ((r0 + i : Nat) : Int)).length : Int) = (m : Int) := by rw [mat_row _ _ _ _ (by omega), tab_length]
  rw [e]
  refine Ev.step (f := fun k => reedsolomon_matrix_SubMatrix.l1 k (mat n m A) (r0 : Int) (c0 : Int) ((r0 + n' : Nat) : Int) ((c0 + m' : Nat) : Int) (mat n' m' (st (sub r0 c0 A) i 0)) ((r0 + i : Nat) : Int) (c0 : Int)) (fun k => ?_) ?_
  · simp only [reedsolomon_matrix_SubMatrix.l0]
    rw [if_pos (by omega)]
  have h2 := for_ev0 (fun k (s : List (List Int)) c => reedsolomon_matrix_SubMatrix.l1 k (mat n m A) (r0 : Int) (c0 : Int) ((r0 + n' : Nat) : Int) ((c0 + m' : Nat) : Int) s ((r0 + i : Nat) : Int) ((c0 : Int) + c)) m' (fun c => mat n' m' (st (sub r0 c0 A) i c)) (mat n' m' (sub r0 c0 A), none) ?_ ?_
  · simp only [Int.add_zero] at h2
    exact h2
  · refine Ev.step (fun k => ?_) h
    simp only [reedsolomon_matrix_SubMatrix.l1]
    rw [if_neg (by omega), wr1 (r0 + i) (by omega), st_row, show ((r0 + i + 1 : Nat) : Int) = (r0 : Int) + ((i + 1 : Nat) : Int) by omega]
  · intro c hc h
    refine Ev.step (fun k => ?_) h
    simp only [reedsolomon_matrix_SubMatrix.l1]
    rw [wrap_id (((r0 + i : Nat) : Int) - (r0 : Int)) (by omega) (by omega), show ((r0 + i : Nat) : Int) - (r0 : Int) = (i : Int) by omega, wrap_id ((c0 : Int) + (c : Int) - (c0 : Int)) (by omega) (by omega), show (c0 : Int) + (c : Int) - (c0 : Int) = (c : Int) by omega]
    rw [if_pos (by omega), if_pos (by omega), if_pos (by rw [mat_length]; omega), if_pos (by omega), if_pos (by rw [mat_length]; omega), if_pos (by omega), lai, if_pos (by omega), if_pos (by omega), lens_of_mat _ _ _ _ hi, if_pos (by omega), show (c0 : Int) + (c : Int) = ((c0 + c : Nat) : Int) by omega, wr1 (c0 + c) (by omega), Int.toNat_natCast, Int.toNat_natCast, mat_row n m A (r0 + i) (by omega), row_at m (A (r0 + i)) (c0 + c) (by omega), row_set n' m' (sub r0 c0 A) i c (A (r0 + i) (c0 + c)) hi rfl, show ((c0 + c + 1 : Nat) : Int) = (c0 : Int) + ((c + 1 : Nat) : Int) by omega]

theorem block_ev (n m : Nat) (A : Nat → Nat → Int) (r0 c0 r1 c1 : Nat) (hr : r0 < r1) (hr1 : r1 ≤ n) (hc : c0 < c1) (hc1 : c1 ≤ m) (hn1 : n ≤ 1000) (hm1 : m ≤ 1000) :
    Ev (fun k => spec_Block.f k (mat n m A) (r0 : Int) (c0 : Int) (r1 : Int) (c1 : Int)) (mat (r1 - r0) (c1 - c0) (sub r0 c0 A)) := by
  unfold spec_Block.f
  have e : ((mat n m A).take r1).drop r0 = mat (r1 - r0) m (fun i => A (r0 + i)) := by
    unfold mat
    rw [tab_take _ _ _ hr1, tab_drop]
  simp only [mat_length, if_pos (show (0 : Int) ≤ (r0 : Int) by omega), if_pos (show (r0 : Int) ≤ (r1 : Int) by omega), if_pos (show (r1 : Int) ≤ (n : Int) by omega), Option.bind_some, Int.toNat_natCast, e]
  refine for_ev0 (fun k (s : List (List Int)) i => spec_Block.l0 k (c0 : Int) (c1 : Int) s (mat (r1 - r0) m (fun i => A (r0 + i))) ((r1 - r0 : Nat) : Int) i) (r1 - r0) (fun i => mat i (c1 - c0) (sub r0 c0 A)) _ (Ev.now1 fun k => by simp only [spec_Block.l0]; rw [if_neg (by omega)]) ?_
  intro i hi h
  refine Ev.step (fun k => ?_) h
  have e1 : ((rd_L1 (mat (r1 - r0) m (fun i => A (r0 + i))) (i : Int)).take c1).drop c0 = tab (c1 - c0) (sub r0 c0 A i) := by
    rw [mat_row _ _ _ _ hi, tab_take _ _ _ hc1, tab_drop]; rfl
  simp only [spec_Block.l0]
  rw [if_pos (by omega), if_pos (by omega), if_pos (by rw [mat_length]; omega), Option.bind_some, if_pos (by omega), if_pos (by omega), if_pos (by rw [lens_of_mat _ _ _ _ hi]; omega), Int.toNat_natCast, Int.toNat_natCast, e1, if_pos (by rw [tab_length]; simp; omega), if_pos (by rw [mat_length]; omega), wr1 i (by omega), List.nil_append]
  congr 1
  exact tab_snoc i (fun i => tab (c1 - c0) (sub r0 c0 A i))

theorem implAugment_ev (a b : List (List Int)) (ha : Moderate a) (hb : Moderate b) : ∃ z, Ev (fun k => impl_Augment.f k a b) (z, decide (Rect a ∧ Rect b ∧ a.length = b.length)) ∧
    (Rect a ∧ Rect b ∧ a.length = b.length → ∃ A B : Nat → Nat → Int, a = mat a.length (rd_L1 a 0).length A ∧ b = mat a.length (rd_L1 b 0).length B ∧ z = mat a.length ((rd_L1 a 0).length + (rd_L1 b 0).length) (aug (rd_L1 a 0).length A B)) := by
  have ha1 : a.length ≤ 40 := ha.1
  have hb1 : b.length ≤ 40 := hb.1
  have no : ∀ k, impl_Augment.j0 (k + 1) a b true = some (([] : List (List Int)), false) := fun k => by simp only [impl_Augment.j0]; rw [if_pos trivial]
  by_cases hra : Rect a
  · by_cases hrb : Rect b
    · have yes : ∀ k, impl_Augment.j0 (k + 1) a b (!(decide (Rect b))) = ((impl_rows.f k a).bind fun t154 => ((impl_rows.f k b).bind fun t157 => ((reedsolomon_DoorAugment.f k t154 t157).bind fun bt160 => ((impl_rows.f k bt160.1).bind fun t165 => (if bt160.2.isNone = true then (some (t165, true)) else (some (t165, false))))))) := fun k => by
        simp only [impl_Augment.j0]; rw [decide_eq_true hrb, if_neg (by decide)]
      have ra := rows_ev a (by omega) (fun i hi => by have := ha.2 i hi; omega)
      have rb := rows_ev b (by omega) (fun i hi => by have := hb.2 i hi; omega)
      have ca := ha.2 0 hra.1
      have cb := hb.2 0 hrb.1
      have open_ : ∀ (z : List (List Int)) (o : Option Int) (v : Bool), (∃ r c M, z = mat r c M ∧ r ≤ 1000 ∧ c ≤ 1000) ∨ z = [] → v = o.isNone → Ev (fun k => reedsolomon_matrix_Augment.f k a b) (z, o) → Ev (fun k => impl_Augment.f k a b) (z, v) := by
        intro z o v hz hv h
        unfold impl_Augment.f
        refine Ev.bind (isMatrix_ev a (by omega)) ?_
        simp only [decide_eq_true hra, if_true]
        refine Ev.bind (isMatrix_ev b (by omega)) ?_
        refine Ev.step yes ?_
        refine Ev.bind ra (Ev.bind rb ?_)
        unfold reedsolomon_DoorAugment.f
        refine Ev.bind (Ev.bind h (Ev.now _)) ?_
        refine Ev.bind (a := z) ?_ ?_
        · rcases hz with ⟨r, c, M, rfl, h1, h2⟩ | rfl
          · exact rows_ev _ (by rw [mat_length]; omega) (fun i hi => by rw [mat_length] at hi; rw [lens_of_mat _ _ _ _ hi]; omega)
          · exact rows_ev _ (by simp) (fun i hi => by simp at hi)
        · subst hv
          cases o <;> exact Ev.now _
      by_cases hl : a.length = b.length
      · have ea := mat_of a hra
        have eb := mat_of b hrb
        rw [← hl] at eb
        refine ⟨mat a.length ((rd_L1 a 0).length + (rd_L1 b 0).length) (aug (rd_L1 a 0).length (ent a) (ent b)), ?_, fun _ => ⟨_, _, ea, eb, rfl⟩⟩
        refine open_ _ none _ (.inl ⟨_, _, _, rfl, by omega, by simp only [Int.natCast_zero] at ca cb; omega⟩) (by rw [decide_eq_true ⟨hra, hrb, hl⟩]; rfl) ?_
        have h := augment_ev a.length (rd_L1 a 0).length (rd_L1 b 0).length (ent a) (ent b) hra.1 hra.2.1 hrb.2.1 (by omega) (Nat.le_trans ca (by omega)) (Nat.le_trans cb (by omega))
        rw [← ea, ← eb] at h
        exact h
      · refine ⟨[], ?_, fun h => absurd h.2.2 hl⟩
        refine open_ [] (some 0) _ (.inr rfl) (by rw [decide_eq_false (fun h => hl h.2.2)]; rfl) ?_
        unfold reedsolomon_matrix_Augment.f
        simp only [if_neg (show ¬ (a.length : Int) = (b.length : Int) by omega)]
        exact Ev.now _
    · refine ⟨[], ?_, fun h => absurd h.2.1 hrb⟩
      rw [decide_eq_false (fun h => hrb h.2.1)]
      unfold impl_Augment.f
      refine Ev.bind (isMatrix_ev a (by omega)) ?_
      simp only [decide_eq_true hra, if_true]
      refine Ev.bind (isMatrix_ev b (by omega)) ?_
      rw [decide_eq_false hrb]
      exact Ev.now1 no
  · refine ⟨[], ?_, fun h => absurd h.1 hra⟩
    rw [decide_eq_false (fun h => hra h.1)]
    unfold impl_Augment.f
    refine Ev.bind (isMatrix_ev a (by omega)) ?_
    simp only [decide_eq_false hra]
    exact Ev.now1 no

/-- What a part is asked for. -/
def In (a : List (List Int)) (row col rows cols : Int) : Prop := Rect a ∧ 0 ≤ row ∧ row < rows ∧ rows ≤ (a.length : Int) ∧ 0 ≤ col ∧ col < cols ∧ cols ≤ ((rd_L1 a 0).length : Int)
instance (a : List (List Int)) (row col rows cols : Int) : Decidable (In a row col rows cols) := by unfold In; infer_instance

theorem implSub_ev (a : List (List Int)) (row col rows cols : Int) (ha : Moderate a) : ∃ z, Ev (fun k => impl_SubMatrix.f k a row col rows cols) (z, decide (In a row col rows cols)) ∧
    (In a row col rows cols → Ev (fun k => spec_Block.f k a row col rows cols) z ∧ ∃ r c M, z = mat r c M ∧ r ≤ 1000 ∧ c ≤ 1000) := by
  have ha1 : a.length ≤ 40 := ha.1
  have no : ∀ k, impl_SubMatrix.j0 (k + 1) a row col rows cols true = some (([] : List (List Int)), false) := fun k => by simp only [impl_SubMatrix.j0]; rw [if_pos trivial]
  by_cases hi : In a row col rows cols
  · obtain ⟨hra, h1, h2, h3, h4, h5, h6⟩ := hi
    obtain ⟨r0, rfl⟩ := Int.eq_ofNat_of_zero_le h1
    obtain ⟨c0, rfl⟩ := Int.eq_ofNat_of_zero_le h4
    obtain ⟨r1, rfl⟩ := Int.eq_ofNat_of_zero_le (show 0 ≤ rows by omega)
    obtain ⟨c1, rfl⟩ := Int.eq_ofNat_of_zero_le (show 0 ≤ cols by omega)
    have ca : (rd_L1 a 0).length ≤ 40 := ha.2 0 hra.1
    have ea := mat_of a hra
    have hs := subMatrix_ev a.length (rd_L1 a 0).length (ent a) r0 c0 r1 c1 (by omega) (by omega) (by omega) (by omega) (by omega) (by omega)
    have hb := block_ev a.length (rd_L1 a 0).length (ent a) r0 c0 r1 c1 (by omega) (by omega) (by omega) (by omega) (by omega) (by omega)
    rw [← ea] at hs hb
    refine ⟨mat (r1 - r0) (c1 - c0) (sub r0 c0 (ent a)), ?_, fun _ => ⟨hb, _, _, _, rfl, by omega, by omega⟩⟩
    rw [decide_eq_true (show In a (r0 : Int) (c0 : Int) (r1 : Int) (c1 : Int) from ⟨hra, h1, h2, h3, h4, h5, h6⟩)]
    unfold impl_SubMatrix.f
    refine Ev.bind (isMatrix_ev a (by omega)) ?_
    simp only [decide_eq_true hra, if_true]
    simp only [if_neg (show ¬ (r0 : Int) < 0 by omega), if_neg (show ¬ (c0 : Int) < 0 by omega), if_neg (show ¬ (r1 : Int) > (a.length : Int) by omega), if_pos (show 0 < (a.length : Int) by have := hra.1; omega), if_neg (show ¬ (c1 : Int) > ((rd_L1 a 0).length : Int) by omega), if_neg (show ¬ (r0 : Int) ≥ (r1 : Int) by omega), decide_eq_false (show ¬ (c0 : Int) ≥ (c1 : Int) by omega)]
    refine Ev.step (f := fun k => (impl_rows.f k a).bind fun t192 => ((reedsolomon_DoorSubMatrix.f k t192 (r0 : Int) (c0 : Int) (r1 : Int) (c1 : Int)).bind fun bt195 => ((impl_rows.f k bt195.1).bind fun t200 => (if bt195.2.isNone = true then (some (t200, true)) else (some (t200, false)))))) (fun k => by simp only [impl_SubMatrix.j0]; rw [if_neg (by decide)]) ?_
    refine Ev.bind (rows_ev a (by omega) (fun i hi => by have := ha.2 i hi; omega)) ?_
    unfold reedsolomon_DoorSubMatrix.f
    refine Ev.bind (Ev.bind hs (Ev.now _)) ?_
    refine Ev.bind (rows_ev _ (by rw [mat_length]; omega) (fun i hi => by rw [mat_length] at hi; rw [lens_of_mat _ _ _ _ hi]; omega)) ?_
    exact Ev.now _
  · refine ⟨[], ?_, fun h => absurd h hi⟩
    rw [decide_eq_false hi]
    unfold impl_SubMatrix.f
    refine Ev.bind (isMatrix_ev a (by omega)) ?_
    by_cases hra : Rect a
    · simp only [decide_eq_true hra, if_true]
      by_cases h1 : row < 0
      · simp only [if_pos h1]; exact Ev.now1 no
      by_cases h2 : col < 0
      · simp only [if_neg h1, if_pos h2]; exact Ev.now1 no
      by_cases h3 : rows > (a.length : Int)
      · simp only [if_neg h1, if_neg h2, if_pos h3]; exact Ev.now1 no
      by_cases h4 : cols > ((rd_L1 a 0).length : Int)
      · simp only [if_neg h1, if_neg h2, if_neg h3, if_pos (show 0 < (a.length : Int) by have := hra.1; omega), if_pos h4]; exact Ev.now1 no
      by_cases h5 : row ≥ rows
      · simp only [if_neg h1, if_neg h2, if_neg h3, if_pos (show 0 < (a.length : Int) by have := hra.1; omega), if_neg h4, if_pos h5]; exact Ev.now1 no
      have h6 : col ≥ cols := by
        refine Decidable.byContradiction fun h6 => hi ⟨hra, by omega, by omega, by omega, by omega, by omega, by omega⟩
      simp only [if_neg h1, if_neg h2, if_neg h3, if_pos (show 0 < (a.length : Int) by have := hra.1; omega), if_neg h4, if_neg h5, decide_eq_true h6]; exact Ev.now1 no
    · simp only [decide_eq_false hra]
      exact Ev.now1 no

theorem FnMatrixParts_ev (l0 l1 : List (List Int)) (a2 a3 a4 a5 : Int) : Ev (fun k => laws_FnMatrixParts.f k l0 l1 a2 a3 a4 a5) true := by
  have out : ∀ k, laws_FnMatrixParts.j0 (k + 1) l0 l1 a2 a3 a4 a5 true = some true := fun k => by simp only [laws_FnMatrixParts.j0]; rw [if_pos trivial]
  obtain ⟨b0, h0⟩ := fits_ev l0
  obtain ⟨b1, h1⟩ := fits_ev l1
  unfold laws_FnMatrixParts.f
  refine Ev.bind h0 ?_
  cases b0 with
  | false => exact Ev.now1 out
  | true =>
  simp only [if_true]
  refine Ev.bind h1 ?_
  cases b1 with
  | false => exact Ev.now1 out
  | true =>
  have hmod := moderate_ev [l0, l1] (by simp)
  by_cases hm : ∀ i, i < [l0, l1].length → Moderate (rd_L2 [l0, l1] (i : Int))
  · rw [decide_eq_true hm] at hmod
    have m0 : Moderate l0 := hm 0 (by simp)
    have m1 : Moderate l1 := hm 1 (by simp)
    have n0 : l0.length ≤ 40 := m0.1
    have n1 : l1.length ≤ 40 := m1.1
    obtain ⟨z, hz, hz'⟩ := implAugment_ev l0 l1 m0 m1
    obtain ⟨y, hy, hy'⟩ := implSub_ev l0 a2 a3 a4 a5 m0
    have j2 : ∀ b, b = decide (Rect l0 ∧ Rect l1 ∧ l0.length = l1.length) → ∀ c, c = decide (In l0 a2 a3 a4 a5) → Ev (fun k => laws_FnMatrixParts.j2 k l0 l1 a2 a3 a4 a5 z b b y c c) true := by
      intro b hb c hc
      have part : Ev (fun k => if c = true then ((spec_Block.f k l0 a2 a3 a4 a5).bind fun t268 => ((spec_EqualMatrices.f k y t268).bind fun t271 => (some t271))) else (some true)) true := by
        by_cases hin : In l0 a2 a3 a4 a5
        · obtain ⟨hbl, r, cc, M, rfl, e1, e2⟩ := hy' hin
          simp only [hc, decide_eq_true hin, if_true]
          exact Ev.bind hbl (Ev.bind (equal_ev r cc M (by omega) (by omega)) (Ev.now _))
        · simp only [hc, decide_eq_false hin]
          exact Ev.now _
      by_cases hf : Rect l0 ∧ Rect l1 ∧ l0.length = l1.length
      · obtain ⟨A, B, eA, eB, rfl⟩ := hz' hf
        have c0 : (rd_L1 l0 0).length ≤ 40 := m0.2 0 hf.1.1
        have c1 : (rd_L1 l1 0).length ≤ 40 := m1.2 0 hf.2.1.1
        have hbs := beside_ev l0.length (rd_L1 l0 0).length (rd_L1 l1 0).length A B (by omega) (by omega) (by omega)
        rw [← eA, ← eB] at hbs
        refine Ev.step (f := fun k => (spec_Beside.f k l0 l1).bind fun t264 => ((spec_EqualMatrices.f k (mat l0.length ((rd_L1 l0 0).length + (rd_L1 l1 0).length) (aug (rd_L1 l0 0).length A B)) t264).bind fun t267 => (if t267 = true then (if c = true then ((spec_Block.f k l0 a2 a3 a4 a5).bind fun t268 => ((spec_EqualMatrices.f k y t268).bind fun t271 => (some t271))) else (some true)) else (some false)))) (fun k => ?_) ?_
        · simp only [laws_FnMatrixParts.j2]
          rw [if_pos (by simp), if_pos (by simp), hb, decide_eq_true hf, if_pos rfl]
        · refine Ev.bind hbs (Ev.bind (equal_ev _ _ _ (by omega) (by omega)) ?_)
          simp only [if_true]
          exact part
      · refine Ev.step (f := fun k => if c = true then ((spec_Block.f k l0 a2 a3 a4 a5).bind fun t268 => ((spec_EqualMatrices.f k y t268).bind fun t271 => (some t271))) else (some true)) (fun k => ?_) part
        simp only [laws_FnMatrixParts.j2]
        rw [if_pos (by simp), if_pos (by simp), hb, decide_eq_false hf, if_neg (by decide)]
    have j1 : ∀ b, b = decide (Rect l0 ∧ Rect l1 ∧ l0.length = l1.length) → Ev (fun k => laws_FnMatrixParts.j1 k l0 l1 a2 a3 a4 a5 z b b) true := by
      intro b hb
      refine Ev.step (f := fun k => (impl_SubMatrix.f k l0 a2 a3 a4 a5).bind fun bt258 => ((spec_Rectangular.f k l0).bind fun t262 => (if t262 = true then (if 0 ≤ a2 then (if a2 < a4 then (if a4 ≤ (l0.length : Int) then (if 0 ≤ a3 then (if a3 < a5 then ((spec_Columns.f l0).bind fun t263 => (laws_FnMatrixParts.j2 k l0 l1 a2 a3 a4 a5 z b b bt258.1 bt258.2 (decide (a5 ≤ t263)))) else (laws_FnMatrixParts.j2 k l0 l1 a2 a3 a4 a5 z b b bt258.1 bt258.2 false)) else (laws_FnMatrixParts.j2 k l0 l1 a2 a3 a4 a5 z b b bt258.1 bt258.2 false)) else (laws_FnMatrixParts.j2 k l0 l1 a2 a3 a4 a5 z b b bt258.1 bt258.2 false)) else (laws_FnMatrixParts.j2 k l0 l1 a2 a3 a4 a5 z b b bt258.1 bt258.2 false)) else (laws_FnMatrixParts.j2 k l0 l1 a2 a3 a4 a5 z b b bt258.1 bt258.2 false)) else (laws_FnMatrixParts.j2 k l0 l1 a2 a3 a4 a5 z b b bt258.1 bt258.2 false)))) (fun k => by simp only [laws_FnMatrixParts.j1]) ?_
      refine Ev.bind hy (Ev.bind (rectangular_ev l0 (by omega)) ?_)
      dsimp only
      by_cases hra : Rect l0
      · simp only [decide_eq_true hra, if_true]
        by_cases q1 : 0 ≤ a2
        · by_cases q2 : a2 < a4
          · by_cases q3 : a4 ≤ (l0.length : Int)
            · by_cases q4 : 0 ≤ a3
              · by_cases q5 : a3 < a5
                · simp only [if_pos q1, if_pos q2, if_pos q3, if_pos q4, if_pos q5, columns_f, Option.bind_some]
                  have e : decide (a5 ≤ ((rd_L1 l0 0).length : Int)) = decide (In l0 a2 a3 a4 a5) := by
                    rw [decide_eq_decide]; exact ⟨fun h => ⟨hra, q1, q2, q3, q4, q5, h⟩, fun h => h.2.2.2.2.2.2⟩
                  rw [e]; exact j2 b hb _ rfl
                · rw [decide_eq_false (fun h : In l0 a2 a3 a4 a5 => q5 h.2.2.2.2.2.1)]
                  simp only [if_pos q1, if_pos q2, if_pos q3, if_pos q4, if_neg q5]
                  exact j2 b hb false (decide_eq_false (fun h : In l0 a2 a3 a4 a5 => q5 h.2.2.2.2.2.1)).symm
              · rw [decide_eq_false (fun h : In l0 a2 a3 a4 a5 => q4 h.2.2.2.2.1)]
                simp only [if_pos q1, if_pos q2, if_pos q3, if_neg q4]
                exact j2 b hb false (decide_eq_false (fun h : In l0 a2 a3 a4 a5 => q4 h.2.2.2.2.1)).symm
            · rw [decide_eq_false (fun h : In l0 a2 a3 a4 a5 => q3 h.2.2.2.1)]
              simp only [if_pos q1, if_pos q2, if_neg q3]
              exact j2 b hb false (decide_eq_false (fun h : In l0 a2 a3 a4 a5 => q3 h.2.2.2.1)).symm
          · rw [decide_eq_false (fun h : In l0 a2 a3 a4 a5 => q2 h.2.2.1)]
            simp only [if_pos q1, if_neg q2]
            exact j2 b hb false (decide_eq_false (fun h : In l0 a2 a3 a4 a5 => q2 h.2.2.1)).symm
        · rw [decide_eq_false (fun h : In l0 a2 a3 a4 a5 => q1 h.2.1)]
          simp only [if_neg q1]
          exact j2 b hb false (decide_eq_false (fun h : In l0 a2 a3 a4 a5 => q1 h.2.1)).symm
      · rw [decide_eq_false (fun h : In l0 a2 a3 a4 a5 => hra h.1)]
        simp only [decide_eq_false hra]
        exact j2 b hb false (decide_eq_false (fun h : In l0 a2 a3 a4 a5 => hra h.1)).symm
    refine Ev.step (f := fun k => (laws_moderate.f k (([l0, l1] : List (List (List Int))))).bind fun t251 => (if t251 = true then ((impl_Augment.f k l0 l1).bind fun bt252 => ((spec_Rectangular.f k l0).bind fun t256 => (if t256 = true then ((spec_Rectangular.f k l1).bind fun t257 => (if t257 = true then (laws_FnMatrixParts.j1 k l0 l1 a2 a3 a4 a5 bt252.1 bt252.2 ((l0.length : Int) == (l1.length : Int))) else (laws_FnMatrixParts.j1 k l0 l1 a2 a3 a4 a5 bt252.1 bt252.2 false))) else (laws_FnMatrixParts.j1 k l0 l1 a2 a3 a4 a5 bt252.1 bt252.2 false)))) else (some true))) (fun k => by simp only [laws_FnMatrixParts.j0]; rw [if_neg (by decide)]) ?_
    refine Ev.bind hmod ?_
    simp only [if_true]
    refine Ev.bind hz (Ev.bind (rectangular_ev l0 (by omega)) ?_)
    dsimp only
    by_cases hra : Rect l0
    · simp only [decide_eq_true hra, if_true]
      refine Ev.bind (rectangular_ev l1 (by omega)) ?_
      by_cases hrb : Rect l1
      · simp only [decide_eq_true hrb, if_true]
        have e : ((l0.length : Int) == (l1.length : Int)) = decide (Rect l0 ∧ Rect l1 ∧ l0.length = l1.length) := by
          rw [Bool.eq_iff_iff, beq_iff_eq, decide_eq_true_eq]
          exact ⟨fun h => ⟨hra, hrb, by omega⟩, fun h => by omega⟩
        rw [e]; exact j1 _ rfl
      · rw [decide_eq_false (fun h : Rect l0 ∧ Rect l1 ∧ l0.length = l1.length => hrb h.2.1)]
        simp only [decide_eq_false hrb]
        exact j1 false (decide_eq_false (fun h : Rect l0 ∧ Rect l1 ∧ l0.length = l1.length => hrb h.2.1)).symm
    · rw [decide_eq_false (fun h : Rect l0 ∧ Rect l1 ∧ l0.length = l1.length => hra h.1)]
      simp only [decide_eq_false hra]
      exact j1 false (decide_eq_false (fun h : Rect l0 ∧ Rect l1 ∧ l0.length = l1.length => hra h.1)).symm
  · rw [decide_eq_false hm] at hmod
    refine Ev.step (f := fun k => (laws_moderate.f k (([l0, l1] : List (List (List Int))))).bind fun t251 => (if t251 = true then ((impl_Augment.f k l0 l1).bind fun bt252 => ((spec_Rectangular.f k l0).bind fun t256 => (if t256 = true then ((spec_Rectangular.f k l1).bind fun t257 => (if t257 = true then (laws_FnMatrixParts.j1 k l0 l1 a2 a3 a4 a5 bt252.1 bt252.2 ((l0.length : Int) == (l1.length : Int))) else (laws_FnMatrixParts.j1 k l0 l1 a2 a3 a4 a5 bt252.1 bt252.2 false))) else (laws_FnMatrixParts.j1 k l0 l1 a2 a3 a4 a5 bt252.1 bt252.2 false)))) else (some true))) (fun k => by simp only [laws_FnMatrixParts.j0]; rw [if_neg (by decide)]) ?_
    refine Ev.bind hmod ?_
    exact Ev.now _
theorem FnMatrixParts (l0 : List (List Int)) (w0 : l0.length ≤ maxLen ∧ ∀ y ∈ l0, y.length ≤ maxLen ∧ ∀ y' ∈ y, (Lit.int .u8 y').wf = true) (l1 : List (List Int)) (w1 : l1.length ≤ maxLen ∧ ∀ y ∈ l1, y.length ≤ maxLen ∧ ∀ y' ∈ y, (Lit.int .u8 y').wf = true) (a2 : Int) (w2 : (Lit.int .i64 a2).wf = true) (a3 : Int) (w3 : (Lit.int .i64 a3).wf = true) (a4 : Int) (w4 : (Lit.int .i64 a4).wf = true) (a5 : Int) (w5 : (Lit.int .i64 a5).wf = true) : ∃ k, X.laws_FnMatrixParts.f k l0 l1 a2 a3 a4 a5 = some true := (FnMatrixParts_ev l0 l1 a2 a3 a4 a5).rounds
end Go.Proofs.YtpeikjnkbjabpaaDoor.Pure
