import Derived.Test.YtpeikjnkbjabpaaDoorSVMVIdE
namespace Go.Proofs.YtpeikjnkbjabpaaDoor.V
open Go.RowKit Go.Proofs.YtpeikjnkbjabpaaDoorW.PrintWords Go.Proofs.YtpeikjnkbjabpaaDoorW.PrintLast Go.Proofs.YtpeikjnkbjabpaaDoorW.PrintMore
set_option linter.unusedVariables false
theorem nm_rect (r c : Nat) (M : Nat → Nat → Nat) (hr : 0 < r) (hc : 0 < c) : Rect (nm r c M) := rect_mat r c _ hr hc
theorem getD_mat (r c : Nat) (M : Nat → Nat → Int) (i j : Nat) (hi : i < r) (hj : j < c) : ((mat r c M).getD i []).getD j 0 = M i j := by
  have h1 := mat_row r c M i hi
  rw [rd_L1_nat] at h1
  rw [h1]
  have h2 := row_at c (M i) j hj
  rw [rd_nat] at h2
  exact h2
theorem ok_mat (n : Nat) (h0 : 0 < n) (hn : n ≤ 1000) (M : Nat → Nat → Int) (h : ∀ i j, 0 ≤ M i j ∧ M i j < 256) : gaussOk (mat n (n * 2) M) (n * 2) = true := by
  unfold gaussOk
  simp only [Bool.and_eq_true, decide_eq_true_eq, List.all_eq_true, mat_length]
  refine ⟨⟨⟨h0, by omega⟩, by omega⟩, fun r hr => ?_⟩
  obtain ⟨i, hi, rfl⟩ := List.mem_map.1 hr
  refine ⟨tab_length _ _, fun x hx => ?_⟩
  obtain ⟨j, hj, rfl⟩ := List.mem_map.1 hx
  exact h i j
theorem isSquare_f (l : List (List Int)) (h : 0 < l.length) : reedsolomon_matrix_IsSquare.f l = some ((l.length : Int) == ((rd_L1 l 0).length : Int)) := by
  unfold reedsolomon_matrix_IsSquare.f
  rw [if_pos (by omega)]
theorem rows_nil : Ev (fun k => impl_rows.f k []) [] := rows_ev [] (by decide) fun i hi => by cases hi
theorem invert_square (n : Nat) (A : Nat → Nat → Nat) (hA : Byt A) (h0 : 0 < n) (hn : n ≤ 40) :
    (det n (toE A) = 0 → ∃ z, Ev (fun k => impl_Invert.f k (nm n n A)) (z, false)) ∧
    (det n (toE A) ≠ 0 → ∃ W, Byt W ∧ Ev (fun k => impl_Invert.f k (nm n n A)) (nm n n W, true) ∧
      (∀ i, i < n → ∀ t, t < n → sm n (fun k => toE A i k * toE W k t) = if i = t then 1 else 0) ∧ (∀ i, i < n → ∀ t, t < n → sm n (fun k => toE W i k * toE A k t) = if i = t then 1 else 0)) := by
  have hl : (nm n n A).length = n := mat_length _ _ _
  have hrow : ∀ i, i < n → (rd_L1 (nm n n A) (i : Int)).length = n := fun i hi => lens_of_mat _ _ _ _ hi
  have hr := nm_rect n n A h0 h0
  have hrows : Ev (fun k => impl_rows.f k (nm n n A)) (nm n n A) := rows_ev _ (by omega) fun i hi => by rw [hrow i (by omega)]; omega
  have hsq : reedsolomon_matrix_IsSquare.f (nm n n A) = some true := by
    rw [isSquare_f _ (by omega), show ((nm n n A).length : Int) = ((rd_L1 (nm n n A) 0).length : Int) by have : (rd_L1 (nm n n A) 0).length = n := hrow 0 h0; omega]
    simp
  have haug := augment_ev n n n (fun i j => ((A i j : Nat) : Int)) (fun i j => ((idN i j : Nat) : Int)) h0 h0 h0 (by omega) (by omega) (by omega)
  obtain ⟨G, hG⟩ : ∃ G, G = mat n (n + n) (aug n (fun i j => ((A i j : Nat) : Int)) (fun i j => ((idN i j : Nat) : Int))) := ⟨_, rfl⟩
  rw [← hG] at haug
  have hGl : G.length = n := by rw [hG]; exact mat_length _ _ _
  have hok : gaussOk G (n * 2) = true := by
    rw [hG, show n + n = n * 2 by omega]
    refine ok_mat n h0 (by omega) _ fun i j => ?_
    unfold aug
    split
    · show 0 ≤ ((A i j : Nat) : Int) ∧ ((A i j : Nat) : Int) < 256
      have := hA i j; omega
    · show 0 ≤ ((idN i (j - n) : Nat) : Int) ∧ ((idN i (j - n) : Nat) : Int) < 256
      unfold idN; split <;> decide
  obtain ⟨_, _, _, _, _, hB⟩ := gaussOk_out hok
  have hL : ∀ i, i < n → ∀ j, j < n → matN G i j = A i j := fun i hi j hj => by
    unfold matN
    rw [hG, getD_mat _ _ _ _ _ hi (by omega)]
    unfold aug
    rw [if_pos hj, Int.toNat_natCast]
  have hR : ∀ i, i < n → ∀ t, t < n → matN G i (n + t) = if i = t then 1 else 0 := fun i hi t ht => by
    unfold matN
    rw [hG, getD_mat _ _ _ _ _ hi (by omega)]
    unfold aug
    rw [if_neg (by omega), Int.toNat_natCast, show n + t - n = t by omega]
    rfl
  have hLE : ∀ i, i < n → ∀ j, j < n → toE (matN G) i j = toE A i j := fun i hi j hj => by unfold toE; rw [hL i hi j hj]
  have hdet : det n (toE (matN G)) = det n (toE A) := det_congr n _ _ hLE
  obtain ⟨gl1, gl2⟩ := gauss_law (c := n + n) (n := n) (M := matN G) hB
  have whole : ∀ z e b, Ev (fun k => if (gaussR G.length (matN G)).isSome = true then ((reedsolomon_matrix_SubMatrix.f k (rowsM G.length (n * 2) ((gaussR G.length (matN G)).getD (matN G))) 0 (n : Int) (n : Int) (wrap64 ((n : Int) * 2))).bind fun t4 => some (t4.1, t4.2)) else some (([] : List (List Int)), some 0)) (z, e) → Ev (fun k => impl_rows.f k z) z → b = e.isNone → Ev (fun k => impl_Invert.f k (nm n n A)) (z, b) := by
    intro z e b h hz hb
    unfold impl_Invert.f
    refine Ev.bind (isMatrix_ev _ (by omega)) ?_
    simp only [decide_eq_true hr, if_true]
    refine Ev.bind hrows ?_
    have hd : Ev (fun k => reedsolomon_DoorInvert.f k (nm n n A)) (z, e) := by
      unfold reedsolomon_DoorInvert.f reedsolomon_matrix_Invert.f
      refine Ev.bind (a := (z, e)) ?_ (Ev.now _)
      simp only [hsq, Option.bind_some, if_true, hl]
      refine Ev.bind (identity_ev n h0 (by omega)) ?_
      refine Ev.bind haug ?_
      simp only [hok, if_true]
      exact h
    refine Ev.bind hd (Ev.bind hz ?_)
    rw [hb]
    cases e with
    | none => exact Ev.now _
    | some e => exact Ev.now _
  refine ⟨fun hz => ?_, fun hnz => ?_⟩
  · have hn0 : gaussR n (matN G) = none := by
      cases hg : gaussR n (matN G) with
      | none => rfl
      | some M' => exact absurd (by rw [hdet]; exact hz) (gl1 M' hg).1
    refine ⟨[], whole [] (some 0) false ?_ rows_nil rfl⟩
    rw [hGl, hn0]
    exact Ev.now _
  · cases hg : gaussR n (matN G) with
    | none => exact absurd ((hdet.symm.trans (gl2 hg))) hnz
    | some M' =>
      obtain ⟨_, g, _⟩ := gl1 M' hg
      obtain ⟨v1, v2⟩ := gauss_inv hB hR hg
      refine ⟨fun i j => M' i (n + j), fun i j => g.byt _ _, whole (nm n n fun i j => M' i (n + j)) none true ?_ (rows_ev _ (by unfold nm; rw [mat_length]; omega) fun i hi => by unfold nm at hi ⊢; rw [mat_length] at hi; rw [lens_of_mat _ _ _ _ hi]; omega) rfl, fun i hi t ht => ?_, fun i hi t ht => ?_⟩
      · rw [hGl, hg]
        simp only [Option.isSome_some, if_true, Option.getD_some]
        have hs := subMatrix_ev n (n * 2) (fun i j => ((M' i j : Nat) : Int)) 0 n n (n + n) h0 (Nat.le_refl _) (by omega) (by omega) (by omega) (by omega)
        rw [Nat.sub_zero, show n + n - n = n by omega] at hs
        rw [wrap_id ((n : Int) * 2) (by omega) (by omega), show (n : Int) * 2 = ((n + n : Nat) : Int) by omega]
        refine Ev.bind (a := (nm n n fun i j => M' i (n + j), none)) ?_ (Ev.now _)
        have e : mat n n (sub 0 n fun i j => ((M' i j : Nat) : Int)) = nm n n fun i j => M' i (n + j) := mat_ext _ _ _ _ fun i hi j hj => by unfold sub; rw [Nat.zero_add]
        rw [← e]
        exact hs
      · rw [← v1 i hi t ht]
        exact sm_congr fun k hk => by rw [hLE i hi k hk]; rfl
      · rw [← v2 i hi t ht]
        exact sm_congr fun k hk => by rw [hLE k hk t ht]; rfl
end Go.Proofs.YtpeikjnkbjabpaaDoor.V
