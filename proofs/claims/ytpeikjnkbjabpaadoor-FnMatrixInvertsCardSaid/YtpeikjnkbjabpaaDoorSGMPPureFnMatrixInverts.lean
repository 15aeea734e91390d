import Derived.Test.YtpeikjnkbjabpaaDoorSGMPInvE
namespace Go.Proofs.YtpeikjnkbjabpaaDoor.Pure
open Go.RowKit Go.Proofs.YtpeikjnkbjabpaaDoorW.PrintWords Go.Proofs.YtpeikjnkbjabpaaDoorW.PrintLast Go.Proofs.YtpeikjnkbjabpaaDoorW.PrintMore Go.Proofs.YtpeikjnkbjabpaaDoor.P
set_option linter.unusedVariables false
theorem byte_of (x : Int) (h : (Lit.int .u8 x).wf = true) : 0 ≤ x ∧ x < 256 := by
  simp [Lit.wf, IntKind.min, IntKind.max, IntKind.signed, IntKind.bits] at h
  omega
theorem ent_byte (l : List (List Int)) (w : ∀ y ∈ l, ∀ y' ∈ y, (Lit.int .u8 y').wf = true) (i j : Nat) : 0 ≤ ent l i j ∧ ent l i j < 256 := by
  unfold ent
  rw [rd_nat, rd_L1_nat]
  rcases Nat.lt_or_ge i l.length with hi | hi
  · have e : l.getD i [] = l[i] := by rw [List.getD_eq_getElem?_getD, List.getElem?_eq_getElem hi]; rfl
    rw [e]
    rcases Nat.lt_or_ge j l[i].length with hj | hj
    · have e2 : l[i].getD j 0 = l[i][j] := by rw [List.getD_eq_getElem?_getD, List.getElem?_eq_getElem hj]; rfl
      rw [e2]
      exact byte_of _ (w _ (List.getElem_mem hi) _ (List.getElem_mem hj))
    · rw [List.getD_eq_getElem?_getD, List.getElem?_eq_none hj]
      decide
  · rw [show l.getD i [] = [] by rw [List.getD_eq_getElem?_getD, List.getElem?_eq_none hi]; rfl, List.getD_nil]
    decide
theorem nm_of (l : List (List Int)) (w : ∀ y ∈ l, ∀ y' ∈ y, (Lit.int .u8 y').wf = true) (hr : Rect l) : ∃ A, Byt A ∧ l = nm l.length (rd_L1 l 0).length A := by
  refine ⟨fun i j => (ent l i j).toNat, fun i j => by show (ent l i j).toNat < 256; have := ent_byte l w i j; omega, (mat_of l hr).trans (mat_ext _ _ _ _ fun i hi j hj => ?_)⟩
  rw [Int.toNat_of_nonneg (ent_byte l w i j).1]
theorem prod_unit (n : Nat) (Z : Nat → Nat → E) (h : ∀ i, i < n → ∀ t, t < n → Z i t = if i = t then 1 else 0) : mat n n (fun a b => (((Z a b).n : Nat) : Int)) = nm n n idN := by
  refine mat_ext _ _ _ _ fun i hi j hj => ?_
  rw [h i hi j hj]
  unfold idN
  split <;> rfl
theorem FnMatrixInverts_ev (l0 : List (List Int)) (w : ∀ y ∈ l0, ∀ y' ∈ y, (Lit.int .u8 y').wf = true) : Ev (fun k => laws_FnMatrixInverts.f k l0) true := by
  have out : ∀ k, laws_FnMatrixInverts.j0 (k + 1) l0 true = some true := fun k => by simp only [laws_FnMatrixInverts.j0]; rw [if_pos trivial]
  obtain ⟨b0, h0⟩ := fits_ev l0
  unfold laws_FnMatrixInverts.f
  refine Ev.bind h0 ?_
  cases b0 with
  | false => exact Ev.now _
  | true =>
  simp only [if_true]
  by_cases h6 : (l0.length : Int) > 6
  · simp only [if_pos h6]
    exact Ev.now1 out
  simp only [if_neg h6]
  refine Ev.bind (moderate_ev [l0] (by simp)) ?_
  by_cases hm : ∀ i, i < [l0].length → Moderate (rd_L2 [l0] (i : Int))
  · have hmod : Moderate l0 := hm 0 (by simp)
    rw [decide_eq_true hm]
    have no : ∀ z, Ev (fun k => laws_FnMatrixInverts.j1 k l0 z false true) true := fun z => Ev.now1 fun k => by simp only [laws_FnMatrixInverts.j1]; rfl
    by_cases hrs : Rect l0 ∧ (rd_L1 l0 0).length = l0.length
    · obtain ⟨hr, hs⟩ := hrs
      obtain ⟨A, hA, eA⟩ := nm_of l0 w hr
      rw [hs] at eA
      obtain ⟨n, hn⟩ : ∃ n, n = l0.length := ⟨_, rfl⟩
      rw [← hn] at eA
      have hn0 : 0 < n := by rw [hn]; exact hr.1
      have hn6 : n ≤ 6 := by omega
      obtain ⟨i1, i2⟩ := invert_square n A hA hn0 (by omega)
      have hde := det_ev n A (by omega) hA
      rw [← eA] at i1 i2 hde
      have go : ∀ z b, Ev (fun k => impl_Invert.f k l0) (z, b) → Ev (fun k => laws_FnMatrixInverts.j1 k l0 z b ((((det n (toE A)).n : Nat) : Int) == 0)) true → Ev (fun k => laws_FnMatrixInverts.j0 k l0 (!true)) true := by
        intro z b hz hj
        refine Ev.step (f := fun k => (impl_Invert.f k l0).bind fun bt263 => ((spec_Rectangular.f k l0).bind fun t267 => (if t267 = true then ((spec_Columns.f l0).bind fun t268 => (if t268 = (l0.length : Int) then ((spec_Determinant.f k l0).bind fun t269 => (laws_FnMatrixInverts.j1 k l0 bt263.1 bt263.2 (t269 == 0))) else (laws_FnMatrixInverts.j1 k l0 bt263.1 bt263.2 true))) else (laws_FnMatrixInverts.j1 k l0 bt263.1 bt263.2 true)))) (fun k => by simp only [laws_FnMatrixInverts.j0]; rw [if_neg (by decide)]) ?_
        refine Ev.bind hz (Ev.bind (rectangular_ev l0 (by omega)) ?_)
        simp only [decide_eq_true hr, if_true, columns_f, Option.bind_some, hs]
        exact Ev.bind hde hj
      by_cases hd : det n (toE A) = 0
      · obtain ⟨z, hz⟩ := i1 hd
        refine go z false hz ?_
        rw [hd]
        exact no z
      · obtain ⟨W, hW, hz, v1, v2⟩ := i2 hd
        refine go (nm n n W) true hz ?_
        have hb : ((((det n (toE A)).n : Nat) : Int) == 0) = false := by
          rw [beq_eq_false_iff_ne]
          intro e
          exact hd (E.ext (by show (det n (toE A)).n = 0; omega))
        rw [hb]
        have t1 := times_ev n n n A W hA hW hn0 (by omega) (by omega) (by omega)
        have t2 := times_ev n n n W A hW hA hn0 (by omega) (by omega) (by omega)
        rw [prod_unit n _ v1] at t1
        rw [prod_unit n _ v2] at t2
        have hu := unit_ev n (by omega)
        have he := equal_ev n n (fun i j => ((idN i j : Nat) : Int)) (by omega) (by omega)
        rw [← eA] at t1 t2
        refine Ev.step (f := fun k => (spec_Times.f k l0 (nm n n W)).bind fun t270 => ((spec_Unit.f k (l0.length : Int)).bind fun t273 => ((spec_EqualMatrices.f k t270 t273).bind fun t276 => (if t276 = true then ((spec_Times.f k (nm n n W) l0).bind fun t277 => ((spec_Unit.f k (l0.length : Int)).bind fun t280 => ((spec_EqualMatrices.f k t277 t280).bind fun t283 => (some t283)))) else (some false))))) (fun k => by simp only [laws_FnMatrixInverts.j1]; rw [if_neg (by decide), if_pos trivial]) ?_
        rw [← hn]
        refine Ev.bind t1 (Ev.bind hu (Ev.bind he ?_))
        simp only [if_true]
        exact Ev.bind t2 (Ev.bind hu (Ev.bind he (Ev.now _)))
    · obtain ⟨z, hz⟩ := invert_told l0 hmod hrs
      refine Ev.step (f := fun k => (impl_Invert.f k l0).bind fun bt263 => ((spec_Rectangular.f k l0).bind fun t267 => (if t267 = true then ((spec_Columns.f l0).bind fun t268 => (if t268 = (l0.length : Int) then ((spec_Determinant.f k l0).bind fun t269 => (laws_FnMatrixInverts.j1 k l0 bt263.1 bt263.2 (t269 == 0))) else (laws_FnMatrixInverts.j1 k l0 bt263.1 bt263.2 true))) else (laws_FnMatrixInverts.j1 k l0 bt263.1 bt263.2 true)))) (fun k => by simp only [laws_FnMatrixInverts.j0]; rw [if_neg (by decide)]) ?_
      refine Ev.bind hz (Ev.bind (rectangular_ev l0 (by omega)) ?_)
      by_cases hr : Rect l0
      · simp only [decide_eq_true hr, if_true, columns_f, Option.bind_some]
        simp only [if_neg (show ¬ (((rd_L1 l0 0).length : Int) = (l0.length : Int)) from fun e => hrs ⟨hr, by omega⟩)]
        exact no z
      · simp only [decide_eq_false hr]
        exact no z
  · rw [decide_eq_false hm]
    exact Ev.now1 out
theorem FnMatrixInverts (l0 : List (List Int)) (w0 : l0.length ≤ maxLen ∧ ∀ y ∈ l0, y.length ≤ maxLen ∧ ∀ y' ∈ y, (Lit.int .u8 y').wf = true) : ∃ k, P.laws_FnMatrixInverts.f k l0 = some true :=
  (FnMatrixInverts_ev l0 fun y hy => (w0.2 y hy).2).rounds
end Go.Proofs.YtpeikjnkbjabpaaDoor.Pure
