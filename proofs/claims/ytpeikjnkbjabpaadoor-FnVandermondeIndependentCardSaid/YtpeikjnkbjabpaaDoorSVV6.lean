import Derived.Test.YtpeikjnkbjabpaaDoorSVV0
import Derived.Test.YtpeikjnkbjabpaaDoorSVV1
import Derived.Test.YtpeikjnkbjabpaaDoorSVV2
import Derived.Test.YtpeikjnkbjabpaaDoorSVV3
import Derived.Test.YtpeikjnkbjabpaaDoorSVV4
import Derived.Test.YtpeikjnkbjabpaaDoorSVV5
namespace Go.Proofs.YtpeikjnkbjabpaaDoor.V
open Go.RowKit Go.Proofs.YtpeikjnkbjabpaaDoorW.PrintWords Go.Proofs.YtpeikjnkbjabpaaDoorW.PrintLast Go.Proofs.YtpeikjnkbjabpaaDoorW.PrintMore
attribute [local go_sem] max2_int min2_int max_two min_two max_three min_three max_four min_four   -- for this text's walks alone
set_option linter.unusedVariables false
set_option linter.unusedSimpArgs false
def gaussOk (m : List (List Int)) (c : Nat) : Bool := decide (0 < m.length) && decide (m.length ≤ c) && decide (c ≤ 1000000) && m.all fun r => decide (r.length = c) && r.all fun x => decide (0 ≤ x) && decide (x < 256)
def matN (m : List (List Int)) : Nat → Nat → Nat := fun i j => ((m.getD i []).getD j 0).toNat
theorem gaussOk_out {m : List (List Int)} {c : Nat} (h : gaussOk m c = true) : 0 < m.length ∧ m.length ≤ c ∧ c ≤ 1000000 ∧ (∀ i, i < m.length → (m.getD i []).length = c) ∧ (∀ i j, i < m.length → j < c → 0 ≤ (m.getD i []).getD j 0) ∧ ∀ i j, matN m i j < 256 := by
  unfold gaussOk at h
  simp only [Bool.and_eq_true, decide_eq_true_eq, List.all_eq_true] at h
  obtain ⟨⟨⟨h1, h2⟩, h3⟩, h4⟩ := h
  have key : ∀ i j, 0 ≤ (m.getD i []).getD j 0 ∧ (m.getD i []).getD j 0 < 256 := by
    intro i j
    rcases Nat.lt_or_ge i m.length with hi | hi
    · have e : m.getD i [] = m[i] := by rw [List.getD_eq_getElem?_getD, List.getElem?_eq_getElem hi]; rfl
      rw [e]
      rcases Nat.lt_or_ge j m[i].length with hj | hj
      · have e2 : m[i].getD j 0 = m[i][j] := by rw [List.getD_eq_getElem?_getD, List.getElem?_eq_getElem hj]; rfl
        rw [e2]
        exact (h4 m[i] (List.getElem_mem hi)).2 _ (List.getElem_mem hj)
      · rw [List.getD_eq_getElem?_getD, List.getElem?_eq_none hj]
        decide
    · rw [show m.getD i [] = [] by rw [List.getD_eq_getElem?_getD, List.getElem?_eq_none hi]; rfl, List.getD_nil]
      decide
  refine ⟨h1, h2, h3, fun i hi => ?_, fun i j _ _ => (key i j).1, fun i j => ?_⟩
  · have e : m.getD i [] = m[i] := by rw [List.getD_eq_getElem?_getD, List.getElem?_eq_getElem hi]; rfl
    rw [e]
    exact (h4 m[i] (List.getElem_mem hi)).1
  · have := key i j
    unfold matN
    omega
def reedsolomon_matrix_Invert.f (k : Nat) (l0 : List (List Int)) : Option ((List (List Int)) × Option Int) := (reedsolomon_matrix_IsSquare.f l0).bind fun t1 => (if t1 = true then ((reedsolomon_identityMatrix.f k (l0.length : Int)).bind fun t2 => ((reedsolomon_matrix_Augment.f k l0 t2.1).bind fun t3 => (if gaussOk t3.1 (l0.length * 2) = true then (if (gaussR t3.1.length (matN t3.1)).isSome = true then ((reedsolomon_matrix_SubMatrix.f k (rowsM t3.1.length (l0.length * 2) ((gaussR t3.1.length (matN t3.1)).getD (matN t3.1))) 0 (l0.length : Int) (l0.length : Int) (wrap64 ((l0.length : Int) * 2))).bind fun t4 => some (t4.1, t4.2)) else some (([] : List (List Int)), some 0)) else none))) else (some (([] : List (List Int)), some 0)))
theorem reedsolomon_matrix_Invert.mono : ∀ a0 k, LeO (reedsolomon_matrix_Invert.f k a0) (reedsolomon_matrix_Invert.f (k + 1) a0) := by
  intro a0 k
  unfold reedsolomon_matrix_Invert.f
  repeat' first
      | (with_reducible exact reedsolomon_identityMatrix.mono _ _)
      | (with_reducible exact reedsolomon_matrix_Augment.mono _ _ _)
      | (with_reducible exact reedsolomon_matrix_SubMatrix.mono _ _ _ _ _ _)
      | (with_reducible exact LeO.refl _)
      | (with_reducible exact LeO.none _)
      | (with_reducible refine LeO.ite ?_ ?_)
      | (with_reducible refine LeO.bind ?_ (fun _ => ?_))
def reedsolomon_matrix_Invert.T2 : Bool × List (List Nat × List Nat) := (true, [([], []), ([], []), ([0, 1, 0, 1], [0])])
def reedsolomon_matrix_Invert.B2 : List Nat := [0, 0, 3]
theorem reedsolomon_matrix_Invert.tab2 : rtab .any (opsOf Tryd.f52 2) = reedsolomon_matrix_Invert.T2 := by kernel_rfl
theorem reedsolomon_matrix_Invert.bits2 : waitsOk reedsolomon_matrix_Invert.T2.2 reedsolomon_matrix_Invert.B2 = true := by kernel_rfl
set_option maxHeartbeats 8000000 in
set_option maxRecDepth 100000 in
theorem reedsolomon_matrix_Invert.calls (k : Nat) (A0 : Option Addr) (c0 : Nat) (l0 : List (List Int)) (r1 : List (List Int)) (r2 : Option Int) (w : World) (hGE : GlobE w) (hGF : GlobF w) (hr0 : Kd.C (Kd.slice 5 (Kd.int .u8)) w A0 l0.length l0) (hc0 : l0.length ≤ c0) (h : reedsolomon_matrix_Invert.f k l0 = some (r1, r2)) :
    Calls Tryd.prog 52 #[.slice A0 l0.length c0] w fun e w' => ∃ v0_ : Value, ∃ q1_ : Addr, e = .returned (.tuple #[v0_, errW q1_ r2]) ∧ Kd.S (Kd.slice 5 (Kd.int .u8)) 22 w' w.heap.size (fun _ => True) v0_ r1 ∧ Below w.heap.size w w' := by
  have hu52 := Tryd.underlying52
  have HR0 := Aside0.mk hr0
  have HC0 := Aside0.mk hc0
  clear hr0 hc0
  have HB := Aside0.mk (Below.refl w.heap.size w)
  unfold reedsolomon_matrix_Invert.f at h
  obtain ⟨t1, A20, H⟩ := Option.bind_eq_some_iff.mp h
  clear h
  have A2 := Aside0.mk A20
  clear A20
  by_cases c3 : t1 = true
  · subst c3
    rw [if_pos rfl] at H
    obtain ⟨⟨t183, t184⟩, A40, H⟩ := Option.bind_eq_some_iff.mp H
    have A4 := Aside0.mk A40
    clear A40
    obtain ⟨⟨t188, t189⟩, A50, H⟩ := Option.bind_eq_some_iff.mp H
    have A5 := Aside0.mk A50
    clear A50
    replace H : (if gaussOk t188 (l0.length * 2) = true then (if (gaussR t188.length (matN t188)).isSome = true then ((reedsolomon_matrix_SubMatrix.f k (rowsM t188.length (l0.length * 2) ((gaussR t188.length (matN t188)).getD (matN t188))) 0 (l0.length : Int) (l0.length : Int) (wrap64 ((l0.length : Int) * 2))).bind fun t4 => some (t4.1, t4.2)) else some (([] : List (List Int)), some 0)) else none) = some (r1, r2) := H
    by_cases c4 : gaussOk t188 (l0.length * 2) = true
    · rw [if_pos c4] at H
      have HOK := Aside0.mk (gaussOk_out c4)
      clear c4
      obtain ⟨E, HE⟩ : ∃ E : Option Int, Aside0 (E = if (gaussR t188.length (matN t188)).isSome then none else some 0) := ⟨_, ⟨rfl⟩⟩
      go_enter Tryd.func52, Tryd.ntmps52
      by_cases c5 : (gaussR t188.length (matN t188)).isSome = true
      · rw [if_pos c5] at H
        obtain ⟨⟨t196, t197⟩, A70, H⟩ := Option.bind_eq_some_iff.mp H
        have A7 := Aside0.mk A70
        clear A70
        obtain ⟨M', hM'⟩ := Option.isSome_iff_exists.mp c5
        have hEe : E = none := by rw [HE.out, if_pos c5]
        have HMe := Aside0.mk hM'
        have A8 : Aside0 (reedsolomon_matrix_SubMatrix.f k (rowsM t188.length (l0.length * 2) M') 0 (l0.length : Int) (l0.length : Int) (wrap64 ((l0.length : Int) * 2)) = some (t196, t197)) := ⟨by have := A7.out; rw [hM'] at this; exact this⟩
        clear c5 hM' A7
        simp only [Option.some.injEq, Prod.mk.injEq] at H
        obtain ⟨rfl, rfl⟩ := H
        go_wp2_with (first | (go_at_call 59; (with_reducible refine (reedsolomon_matrix_IsSquare.calls _ _ l0 true _ HR0.out HC0.out A2.out).mono ?_); rintro e w' ⟨rfl, ⟨nd, rfl⟩⟩; (try first | exact ⟨rfl, _, World.drewN_drewN _ _ _⟩ | exact ⟨rfl, _, Eq.trans (World.drewN_drewN _ _ _) (congrArg (World.drewN _) (Nat.add_assoc _ _ _))⟩)) | (go_at_call 60; (with_reducible refine (reedsolomon_identityMatrix.calls k (l0.length : Int) t183 t184 _ (GlobE.below hGE (by repeat (first | (with_reducible first | exact HB.out | apply below_alloc | apply pw_below_drewN | apply below_drew1) | exact HB.out))) A4.out).mono ?_); rintro e w8 ⟨v185, qe187, rfl, ho0, hb⟩; have n0_ := Aside0.mk (Kd.S_lower ho0 (below_size (by repeat (first | (with_reducible first | exact HB.out | apply below_alloc | apply pw_below_drewN | apply below_drew1) | exact HB.out)))); have n1_ := Aside0.mk (below_step (by repeat (first | (with_reducible first | exact HB.out | apply below_alloc | apply pw_below_drewN | apply below_drew1) | exact HB.out)) hb); clear HB; have HO186 := n0_; have HB := n1_; clear n0_ n1_; (try clear hb); (try clear ho0); (try simp only [errW_none, errW_some]); obtain ⟨Ao9, co9, eo9⟩ := Kd.S_slice HO186.out; subst eo9) | (go_at_call 50; (with_reducible refine (reedsolomon_matrix_Augment.calls k _ _ l0 _ _ t183 t188 t189 _ ?side5 ?side1 ?side2 ?side3 ?side4 A5.out).mono ?_); (case side1 => repeat (first | exact (Kd.C_below HR0.out HB.out) | (with_reducible refine Kd.C_alloc ?_ _) | (with_reducible refine Kd.C_drewN ?_ _) | (with_reducible refine Kd.C_drew ?_))); (case side2 => exact HC0.out); (case side3 => repeat (first | exact (Kd.S_reads' HO186.out).2.2 | (with_reducible refine Kd.C_alloc ?_ _) | (with_reducible refine Kd.C_drewN ?_ _) | (with_reducible refine Kd.C_drew ?_))); (case side4 => exact (Kd.S_reads' HO186.out).2.1); (case side5 => exact GlobE.below hGE (by repeat (first | (with_reducible first | exact HB.out | apply below_alloc | apply pw_below_drewN | apply below_drew1) | exact HB.out))); rintro e w10 ⟨v190, qe192, rfl, ho0, hb⟩; have n1_ := Aside0.mk (Kd.S_lower ho0 (below_size (by repeat (first | (with_reducible first | exact HB.out | apply below_alloc | apply pw_below_drewN | apply below_drew1) | exact HB.out)))); have n2_ := Aside0.mk (below_step (by repeat (first | (with_reducible first | exact HB.out | apply below_alloc | apply pw_below_drewN | apply below_drew1) | exact HB.out)) hb); clear HO186; clear HB; have HO191 := n1_; have HB := n2_; clear n1_ n2_; (try clear hb); (try clear ho0); (try simp only [errW_none, errW_some]); obtain ⟨Ao11, co11, eo11⟩ := Kd.S_slice HO191.out; subst eo11; obtain ⟨g, b, cap, eA, hcp, hbg, hbb, hmx⟩ := Mx.of_S HO191.out HOK.out.1 (Nat.lt_of_lt_of_le HOK.out.1 HOK.out.2.1) HOK.out.2.2.2.1 HOK.out.2.2.2.2.1; subst eA; have HCP := Aside0.mk hcp; have HBG := Aside0.mk hbg; have HBB := Aside0.mk hbb; have HMX := Aside0.mk hmx; clear hcp hbg hbb hmx HO191) | (go_at_call 61; (with_reducible refine (reedsolomon_matrix_gaussianElimination.calls g t188.length (l0.length * 2) co11 b cap (matN t188) HOK.out.1 HOK.out.2.1 HOK.out.2.2.1 w _ hGE hGF ?side1 HOK.out.2.2.2.2.2 HBG.out HBB.out (by repeat (first | (with_reducible first | exact HB.out | apply below_alloc | apply pw_below_drewN | apply below_drew1) | exact HB.out)) E HE.out).mono ?_); (case side1 => first | exact HMX.out | exact HMX.out.drewN _ | exact HMX.out.drew); rintro e w12 ⟨qe200, rfl, hMg, hb⟩; have HG := Aside0.mk hMg; have n2_ := Aside0.mk hb; clear HB; have HB := n2_; clear n2_ hb hMg HMX; subst hEe; (try simp only [errW_none, errW_some]); skip))
        obtain ⟨b', cap', hmx⟩ := HG.out M' HMe.out
        have HMX := Aside0.mk hmx
        clear hmx
        have HLN := Aside0.mk (rowsM_length t188.length (l0.length * 2) M')
        go_wp2_with (first | (go_at_call 51; (refine calls_of_args (args' := #[.slice (some ⟨g, 0, none⟩) (rowsM t188.length (l0.length * 2) M').length co11, .int .i64 0, .int .i64 (l0.length : Int), .int .i64 (l0.length : Int), .int .i64 (wrap64 ((l0.length : Int) * 2))]) (by rw [HLN.out]) ?_); (with_reducible refine (reedsolomon_matrix_SubMatrix.calls k _ _ (rowsM t188.length (l0.length * 2) M') 0 (l0.length : Int) (l0.length : Int) (wrap64 ((l0.length : Int) * 2)) t196 t197 _ (GlobE.below hGE (by repeat (first | (with_reducible first | exact HB.out | apply below_alloc | apply pw_below_drewN | apply below_drew1) | exact HB.out))) ?side1 ?side2 A8.out).mono ?_); (case side1 => rw [HLN.out]; repeat (first | exact HMX.out.reads (by have := HOK.out; omega) (by have := HOK.out; omega) | (with_reducible refine Kd.C_alloc ?_ _) | (with_reducible refine Kd.C_drewN ?_ _) | (with_reducible refine Kd.C_drew ?_))); (case side2 => rw [HLN.out]; exact HCP.out); rintro e w14 ⟨v198, qe201, rfl, ho0, hb⟩; have n2_ := Aside0.mk (Kd.S_lower ho0 (below_size (by repeat (first | (with_reducible first | exact HB.out | apply below_alloc | apply pw_below_drewN | apply below_drew1) | exact HB.out)))); have n3_ := Aside0.mk (below_step (by repeat (first | (with_reducible first | exact HB.out | apply below_alloc | apply pw_below_drewN | apply below_drew1) | exact HB.out)) hb); clear HB; have HO199 := n2_; have HB := n3_; clear n2_ n3_; (try clear hb); (try clear ho0); (try simp only [errW_none, errW_some])))
        go_ret2
        first | exact ⟨_, qe201, by first | rfl | (simp [errW_none, errW_some] <;> rfl), by (with_reducible repeat (first | apply Kd.S_alloc | apply Kd.S_drewN | apply Kd.S_drew)); exact Kd.S_mono HO199.out (fun _ hk => trivial), (by repeat (first | (with_reducible first | exact HB.out | apply below_alloc | apply pw_below_drewN | apply below_drew1) | exact HB.out))⟩ | exact ⟨_, ⟨qe201, by first | rfl | (simp [errW_none, errW_some] <;> rfl)⟩, by (with_reducible repeat (first | apply Kd.S_alloc | apply Kd.S_drewN | apply Kd.S_drew)); exact Kd.S_mono HO199.out (fun _ hk => trivial), (by repeat (first | (with_reducible first | exact HB.out | apply below_alloc | apply pw_below_drewN | apply below_drew1) | exact HB.out))⟩ | exact ⟨qe201, _, by first | rfl | (simp [errW_none, errW_some] <;> rfl), by (with_reducible repeat (first | apply Kd.S_alloc | apply Kd.S_drewN | apply Kd.S_drew)); exact Kd.S_mono HO199.out (fun _ hk => trivial), (by repeat (first | (with_reducible first | exact HB.out | apply below_alloc | apply pw_below_drewN | apply below_drew1) | exact HB.out))⟩
      · rw [if_neg c5] at H
        have hEe : E = some 0 := by rw [HE.out, if_neg c5]
        clear c5
        simp only [Option.some.injEq, Prod.mk.injEq] at H
        obtain ⟨rfl, rfl⟩ := H
        go_wp2_with (first | (go_at_call 59; (with_reducible refine (reedsolomon_matrix_IsSquare.calls _ _ l0 true _ HR0.out HC0.out A2.out).mono ?_); rintro e w' ⟨rfl, ⟨nd, rfl⟩⟩; (try first | exact ⟨rfl, _, World.drewN_drewN _ _ _⟩ | exact ⟨rfl, _, Eq.trans (World.drewN_drewN _ _ _) (congrArg (World.drewN _) (Nat.add_assoc _ _ _))⟩)) | (go_at_call 60; (with_reducible refine (reedsolomon_identityMatrix.calls k (l0.length : Int) t183 t184 _ (GlobE.below hGE (by repeat (first | (with_reducible first | exact HB.out | apply below_alloc | apply pw_below_drewN | apply below_drew1) | exact HB.out))) A4.out).mono ?_); rintro e w8 ⟨v185, qe187, rfl, ho0, hb⟩; have n0_ := Aside0.mk (Kd.S_lower ho0 (below_size (by repeat (first | (with_reducible first | exact HB.out | apply below_alloc | apply pw_below_drewN | apply below_drew1) | exact HB.out)))); have n1_ := Aside0.mk (below_step (by repeat (first | (with_reducible first | exact HB.out | apply below_alloc | apply pw_below_drewN | apply below_drew1) | exact HB.out)) hb); clear HB; have HO186 := n0_; have HB := n1_; clear n0_ n1_; (try clear hb); (try clear ho0); (try simp only [errW_none, errW_some]); obtain ⟨Ao9, co9, eo9⟩ := Kd.S_slice HO186.out; subst eo9) | (go_at_call 50; (with_reducible refine (reedsolomon_matrix_Augment.calls k _ _ l0 _ _ t183 t188 t189 _ ?side5 ?side1 ?side2 ?side3 ?side4 A5.out).mono ?_); (case side1 => repeat (first | exact (Kd.C_below HR0.out HB.out) | (with_reducible refine Kd.C_alloc ?_ _) | (with_reducible refine Kd.C_drewN ?_ _) | (with_reducible refine Kd.C_drew ?_))); (case side2 => exact HC0.out); (case side3 => repeat (first | exact (Kd.S_reads' HO186.out).2.2 | (with_reducible refine Kd.C_alloc ?_ _) | (with_reducible refine Kd.C_drewN ?_ _) | (with_reducible refine Kd.C_drew ?_))); (case side4 => exact (Kd.S_reads' HO186.out).2.1); (case side5 => exact GlobE.below hGE (by repeat (first | (with_reducible first | exact HB.out | apply below_alloc | apply pw_below_drewN | apply below_drew1) | exact HB.out))); rintro e w10 ⟨v190, qe192, rfl, ho0, hb⟩; have n1_ := Aside0.mk (Kd.S_lower ho0 (below_size (by repeat (first | (with_reducible first | exact HB.out | apply below_alloc | apply pw_below_drewN | apply below_drew1) | exact HB.out)))); have n2_ := Aside0.mk (below_step (by repeat (first | (with_reducible first | exact HB.out | apply below_alloc | apply pw_below_drewN | apply below_drew1) | exact HB.out)) hb); clear HO186; clear HB; have HO191 := n1_; have HB := n2_; clear n1_ n2_; (try clear hb); (try clear ho0); (try simp only [errW_none, errW_some]); obtain ⟨Ao11, co11, eo11⟩ := Kd.S_slice HO191.out; subst eo11; obtain ⟨g, b, cap, eA, hcp, hbg, hbb, hmx⟩ := Mx.of_S HO191.out HOK.out.1 (Nat.lt_of_lt_of_le HOK.out.1 HOK.out.2.1) HOK.out.2.2.2.1 HOK.out.2.2.2.2.1; subst eA; have HCP := Aside0.mk hcp; have HBG := Aside0.mk hbg; have HBB := Aside0.mk hbb; have HMX := Aside0.mk hmx; clear hcp hbg hbb hmx HO191) | (go_at_call 61; (with_reducible refine (reedsolomon_matrix_gaussianElimination.calls g t188.length (l0.length * 2) co11 b cap (matN t188) HOK.out.1 HOK.out.2.1 HOK.out.2.2.1 w _ hGE hGF ?side1 HOK.out.2.2.2.2.2 HBG.out HBB.out (by repeat (first | (with_reducible first | exact HB.out | apply below_alloc | apply pw_below_drewN | apply below_drew1) | exact HB.out)) E HE.out).mono ?_); (case side1 => first | exact HMX.out | exact HMX.out.drewN _ | exact HMX.out.drew); rintro e w12 ⟨qe200, rfl, hMg, hb⟩; have HG := Aside0.mk hMg; have n2_ := Aside0.mk hb; clear HB; have HB := n2_; clear n2_ hb hMg HMX; subst hEe; (try simp only [errW_none, errW_some]); skip))
        go_ret2
        first | exact ⟨_, qe200, by first | rfl | (simp [errW_none, errW_some] <;> rfl), Kd.S_nil _ _ _ _ _, (by repeat (first | (with_reducible first | exact HB.out | apply below_alloc | apply pw_below_drewN | apply below_drew1) | exact HB.out))⟩ | exact ⟨_, ⟨qe200, by first | rfl | (simp [errW_none, errW_some] <;> rfl)⟩, Kd.S_nil _ _ _ _ _, (by repeat (first | (with_reducible first | exact HB.out | apply below_alloc | apply pw_below_drewN | apply below_drew1) | exact HB.out))⟩ | exact ⟨qe200, _, by first | rfl | (simp [errW_none, errW_some] <;> rfl), Kd.S_nil _ _ _ _ _, (by repeat (first | (with_reducible first | exact HB.out | apply below_alloc | apply pw_below_drewN | apply below_drew1) | exact HB.out))⟩
    · rw [if_neg c4] at H
      cases H
  · replace c3 := Bool.eq_false_iff.mpr c3
    subst c3
    rw [if_neg (show ¬ (false = true) by decide)] at H
    simp only [Option.some.injEq, Prod.mk.injEq] at H
    obtain ⟨rfl, rfl⟩ := H
    go_enter Tryd.func52, Tryd.ntmps52
    go_wp2_with (first | (go_at_call 59; (with_reducible refine (reedsolomon_matrix_IsSquare.calls _ _ l0 false _ HR0.out HC0.out A2.out).mono ?_); rintro e w' ⟨rfl, ⟨nd, rfl⟩⟩; (try first | exact ⟨rfl, _, World.drewN_drewN _ _ _⟩ | exact ⟨rfl, _, Eq.trans (World.drewN_drewN _ _ _) (congrArg (World.drewN _) (Nat.add_assoc _ _ _))⟩)))
    obtain ⟨qe9, hgl⟩ := hGE.out 4 (by decide)
    have HB2 := Aside0.mk (pw_below_drewN HB.out nd)
    have hge : (w.drewN nd).cell? ⟨4, 0, none⟩ = some (errW qe9 (some 0)) := hgl
    clear HB hgl
    generalize w.drewN nd = w2 at *
    refine start_ (n := 3) (S := fun w' => w'.cell? ⟨4, 0, none⟩ = some (errW qe9 (some 0))) (ds := []) #[false, false, false] (by kernel_rfl) rfl rfl (hge) (fun hHeld => ?_)
    refine with_tabW reedsolomon_matrix_Invert.tab2 reedsolomon_matrix_Invert.bits2 (fun HT_ HW_ => ?_)
    refine take_ (i := 0) (N := (some 11)) (v := ?_) (a' := ?_) #[true, false, false] rfl rfl (take_ofW HT_.out HW_.out (by kernel_rfl)) (fun _ _ _ h => h) (Or.inl ⟨by rfl, ?_⟩) hHeld ?_ ?_
    rotate_left
    · intro w' s0
      go_simp
      with_reducible rfl
    rotate_left
    · simp only [Act.put, List.setIfInBounds_toArray, List.set_cons_zero, List.set_cons_succ, i64_w, i32_w]
      rfl
    refine pure_ (i := 1) (N := (some 2)) (v := ?_) (a' := ?_) #[true, true, false] rfl rfl (any_of HT_.out (by kernel_rfl)) (fun _ _ _ h => h) (Or.inl ⟨by rfl, ?_⟩) ?_ ?_
    rotate_left
    · intro w'
      go_simp
      with_reducible rfl
    rotate_left
    · simp only [Act.put, List.setIfInBounds_toArray, List.set_cons_zero, List.set_cons_succ, i64_w, i32_w]
      rfl
    refine pure_ (i := 2) (N := (some 3)) (v := ?_) (a' := ?_) #[true, true, true] rfl rfl (any_of HT_.out (by kernel_rfl)) (fun _ _ _ h => h) (Or.inl ⟨by rfl, ?_⟩) ?_ ?_
    rotate_left
    · intro w'
      go_simp
      with_reducible rfl
    rotate_left
    · simp only [Act.put, List.setIfInBounds_toArray, List.set_cons_zero, List.set_cons_succ, i64_w, i32_w]
      rfl
    refine done_ (done_of HT_.out (by kernel_rfl)) ?_
    go_wp2
    go_ret2
    first | exact ⟨_, qe9, by first | rfl | (simp [errW_none, errW_some] <;> rfl), Kd.S_nil _ _ _ _ _, below_drew1 HB2.out⟩ | exact ⟨_, ⟨qe9, by first | rfl | (simp [errW_none, errW_some] <;> rfl)⟩, Kd.S_nil _ _ _ _ _, below_drew1 HB2.out⟩ | exact ⟨qe9, _, by first | rfl | (simp [errW_none, errW_some] <;> rfl), Kd.S_nil _ _ _ _ _, below_drew1 HB2.out⟩
def reedsolomon_DoorInvert.f (k : Nat) (l0 : List (List Int)) : Option ((List (List Int)) × Option Int) := (reedsolomon_matrix_Invert.f k l0).bind fun bt168 => (some (bt168.1, bt168.2))
theorem reedsolomon_DoorInvert.mono : ∀ a0 k, LeO (reedsolomon_DoorInvert.f k a0) (reedsolomon_DoorInvert.f (k + 1) a0) := by
  intro a0 k
  unfold reedsolomon_DoorInvert.f
  repeat' first
      | (with_reducible exact reedsolomon_matrix_Invert.mono _ _)
      | (with_reducible exact LeO.refl _)
      | (with_reducible exact LeO.none _)
      | (with_reducible refine LeO.ite ?_ ?_)
      | (with_reducible refine LeO.bind ?_ (fun _ => ?_))
      | exact reedsolomon_matrix_Invert.mono _ _
      | exact LeO.none _
      | refine LeO.ite ?_ ?_
      | refine LeO.bind ?_ (fun _ => ?_)
set_option maxHeartbeats 8000000 in
set_option maxRecDepth 100000 in
theorem reedsolomon_DoorInvert.calls (k : Nat) (A0 : Option Addr) (c0 : Nat) (l0 : List (List Int)) (r1 : List (List Int)) (r2 : Option Int) (w : World) (hGE : GlobE w) (hGF : GlobF w) (hr0 : Kd.C (Kd.slice 5 (Kd.int .u8)) w A0 l0.length l0) (hc0 : l0.length ≤ c0) (h : reedsolomon_DoorInvert.f k l0 = some (r1, r2)) :
    Calls Tryd.prog 38 #[.slice A0 l0.length c0] w fun e w' => ∃ v0_ : Value, ∃ q1_ : Addr, e = .returned (.tuple #[v0_, errW q1_ r2]) ∧ Kd.S (Kd.slice 5 (Kd.int .u8)) 22 w' w.heap.size (fun _ => True) v0_ r1 ∧ Below w.heap.size w w' := by
  have HR0 := Aside0.mk hr0
  have HC0 := Aside0.mk hc0
  clear hr0 hc0
  have HB := Aside0.mk (Below.refl w.heap.size w)
  have H : ((reedsolomon_matrix_Invert.f k l0).bind fun bt168 => (some (bt168.1, bt168.2))) = some (r1, r2) := h
  clear h
  replace H := Option.bind_eq_some_iff.mp H
  obtain ⟨⟨t168, t169⟩, A20, H⟩ := H
  replace H : (some (t168, t169)) = some (r1, r2) := H
  have A2 := Aside0.mk A20
  clear A20
  simp only [Option.some.injEq, Prod.mk.injEq] at H
  obtain ⟨rfl, rfl⟩ := H
  go_enter Tryd.func38, Tryd.ntmps38
  go_wp2_with (first | ((with_reducible refine gate_callee (f := 52) rfl ?_); refine goesL_ (some 5) rfl rfl Tryd.func52 (by kernel_rfl) rfl #[.slice A0 l0.length c0] rfl (by (try simp only [List.map_toArray, List.map_cons, List.map_nil]); first | done | rfl | (simp only [List.length_drop, List.length_take]; rfl)) ?_; (with_reducible refine (reedsolomon_matrix_Invert.calls k _ _ l0 t168 t169 _ ?side3 ?side4 ?side1 ?side2 A2.out).mono ?_); (case side1 => repeat (first | exact HR0.out | (with_reducible refine Kd.C_alloc ?_ _) | (with_reducible refine Kd.C_drewN ?_ _) | (with_reducible refine Kd.C_drew ?_))); (case side2 => exact HC0.out); (case side3 => exact GlobE.below hGE (by repeat (first | (with_reducible first | exact HB.out | apply below_alloc | apply pw_below_drewN | apply below_drew1) | exact HB.out))); (case side4 => exact GlobF.below hGF (by repeat (first | (with_reducible first | exact HB.out | apply below_alloc | apply pw_below_drewN | apply below_drew1) | exact HB.out))); rintro e w3 ⟨v170, qe172, rfl, ho0, hb⟩; refine ⟨_, rfl, ?_⟩; have n0_ := Aside0.mk (Kd.S_lower ho0 (below_size (by repeat (first | (with_reducible first | exact HB.out | apply below_alloc | apply pw_below_drewN | apply below_drew1) | exact HB.out)))); have n1_ := Aside0.mk (below_step (by repeat (first | (with_reducible first | exact HB.out | apply below_alloc | apply pw_below_drewN | apply below_drew1) | exact HB.out)) hb); clear HB; have HO171 := n0_; have HB := n1_; clear n0_ n1_; (try clear hb); (try clear hb2); (try clear hk); (try clear hi); (try clear ho0); (try simp only [errW_none, errW_some])))
  go_ret2
  first | exact ⟨_, qe172, by first | rfl | (simp [errW_none, errW_some] <;> rfl) | (simp [*, errW_none, errW_some] <;> rfl), by (with_reducible repeat (first | apply Kd.S_alloc | apply Kd.S_drewN | apply Kd.S_drew)); exact HO171.out, by repeat (first | (with_reducible first | exact HB.out | apply below_alloc | apply pw_below_drewN | apply below_drew1) | exact HB.out)⟩ | exact ⟨_, ⟨qe172, by first | rfl | (simp [errW_none, errW_some] <;> rfl) | (simp [*, errW_none, errW_some] <;> rfl)⟩, by (with_reducible repeat (first | apply Kd.S_alloc | apply Kd.S_drewN | apply Kd.S_drew)); exact HO171.out, by repeat (first | (with_reducible first | exact HB.out | apply below_alloc | apply pw_below_drewN | apply below_drew1) | exact HB.out)⟩
def impl_Invert.f (k : Nat) (l0 : List (List Int)) : Option ((List (List Int)) × Bool) := (impl_isMatrix.f k l0).bind fun t173 => (if t173 = true then ((impl_rows.f k l0).bind fun t174 => ((reedsolomon_DoorInvert.f k t174).bind fun bt177 => ((impl_rows.f k bt177.1).bind fun t182 => (if bt177.2.isNone = true then (some (t182, true)) else (some (t182, false)))))) else (some (([] : List (List Int)), false)))
theorem impl_Invert.mono : ∀ a0 k, LeO (impl_Invert.f k a0) (impl_Invert.f (k + 1) a0) := by
  intro a0 k
  unfold impl_Invert.f
  repeat' first
      | (with_reducible exact impl_isMatrix.mono _ _)
      | (with_reducible exact impl_rows.mono _ _)
      | (with_reducible exact reedsolomon_DoorInvert.mono _ _)
      | (with_reducible exact LeO.refl _)
      | (with_reducible exact LeO.none _)
      | (with_reducible refine LeO.ite ?_ ?_)
      | (with_reducible refine LeO.bind ?_ (fun _ => ?_))
      | exact impl_isMatrix.mono _ _
      | exact impl_rows.mono _ _
      | exact reedsolomon_DoorInvert.mono _ _
      | exact LeO.none _
      | refine LeO.ite ?_ ?_
      | refine LeO.bind ?_ (fun _ => ?_)
set_option maxHeartbeats 8000000 in
set_option maxRecDepth 100000 in
theorem impl_Invert.calls (k : Nat) (A0 : Option Addr) (c0 : Nat) (l0 : List (List Int)) (r1 : List (List Int)) (r2 : Bool) (w : World) (hGE : GlobE w) (hGF : GlobF w) (hr0 : Kd.C (Kd.slice 5 (Kd.int .u8)) w A0 l0.length l0) (hc0 : l0.length ≤ c0) (h : impl_Invert.f k l0 = some (r1, r2)) :
    Calls Tryd.prog 22 #[.slice A0 l0.length c0] w fun e w' => ∃ v0_ : Value, e = .returned (.tuple #[v0_, .bool r2]) ∧ Kd.S (Kd.slice 5 (Kd.int .u8)) 22 w' w.heap.size (fun _ => True) v0_ r1 ∧ Below w.heap.size w w' := by
  have hu52 := Tryd.underlying52
  have HR0 := Aside0.mk hr0
  have HC0 := Aside0.mk hc0
  clear hr0 hc0
  have HB := Aside0.mk (Below.refl w.heap.size w)
  have H : ((impl_isMatrix.f k l0).bind fun t173 => (if t173 = true then ((impl_rows.f k l0).bind fun t174 => ((reedsolomon_DoorInvert.f k t174).bind fun bt177 => ((impl_rows.f k bt177.1).bind fun t182 => (if bt177.2.isNone = true then (some (t182, true)) else (some (t182, false)))))) else (some (([] : List (List Int)), false)))) = some (r1, r2) := h
  clear h
  replace H := Option.bind_eq_some_iff.mp H
  obtain ⟨t173, A20, H⟩ := H
  replace H : (if t173 = true then ((impl_rows.f k l0).bind fun t174 => ((reedsolomon_DoorInvert.f k t174).bind fun bt177 => ((impl_rows.f k bt177.1).bind fun t182 => (if bt177.2.isNone = true then (some (t182, true)) else (some (t182, false)))))) else (some (([] : List (List Int)), false))) = some (r1, r2) := H
  have A2 := Aside0.mk A20
  clear A20
  by_cases c3 : t173 = true
  · subst c3
    have H1 : ((impl_rows.f k l0).bind fun t174 => ((reedsolomon_DoorInvert.f k t174).bind fun bt177 => ((impl_rows.f k bt177.1).bind fun t182 => (if bt177.2.isNone = true then (some (t182, true)) else (some (t182, false)))))) = some (r1, r2) := by rw [if_pos rfl] at H; exact H
    clear H
    have H := H1
    clear H1
    replace H := Option.bind_eq_some_iff.mp H
    obtain ⟨t174, A40, H⟩ := H
    replace H : ((reedsolomon_DoorInvert.f k t174).bind fun bt177 => ((impl_rows.f k bt177.1).bind fun t182 => (if bt177.2.isNone = true then (some (t182, true)) else (some (t182, false))))) = some (r1, r2) := H
    have A4 := Aside0.mk A40
    clear A40
    replace H := Option.bind_eq_some_iff.mp H
    obtain ⟨⟨t177, t178⟩, A50, H⟩ := H
    replace H : ((impl_rows.f k t177).bind fun t182 => (if t178.isNone = true then (some (t182, true)) else (some (t182, false)))) = some (r1, r2) := H
    have A5 := Aside0.mk A50
    clear A50
    replace H := Option.bind_eq_some_iff.mp H
    obtain ⟨t182, A60, H⟩ := H
    replace H : (if t178.isNone = true then (some (t182, true)) else (some (t182, false))) = some (r1, r2) := H
    have A6 := Aside0.mk A60
    clear A60
    rcases t178 with _ | q185
    · have H1 : (some (t182, true)) = some (r1, r2) := by rw [if_pos (show (none : Option Int).isNone = true by rfl)] at H; exact H
      clear H
      have H := H1
      clear H1
      try simp only [errW_none, errW_some]
      simp only [Option.some.injEq, Prod.mk.injEq] at H
      obtain ⟨rfl, rfl⟩ := H
      go_enter Tryd.func22, Tryd.ntmps22
      try go_wp2_with (first | ((with_reducible refine gate_callee (f := 34) rfl ?_); refine goesL_ (some 7) rfl rfl Tryd.func34 (by kernel_rfl) rfl #[.slice A0 l0.length c0] rfl (by (try simp only [List.map_toArray, List.map_cons, List.map_nil]); first | done | rfl | (simp only [List.length_drop, List.length_take]; rfl)) ?_; (with_reducible refine (impl_isMatrix.calls k _ _ l0 true _ ?side3 ?side1 ?side2 A2.out).mono ?_); (case side1 => repeat (first | exact HR0.out | (with_reducible refine Kd.C_alloc ?_ _) | (with_reducible refine Kd.C_drewN ?_ _) | (with_reducible refine Kd.C_drew ?_))); (case side2 => exact HC0.out); (case side3 => exact GlobE.below hGE (by repeat (first | (with_reducible first | exact HB.out | apply below_alloc | apply pw_below_drewN | apply below_drew1) | exact HB.out))); rintro e w7 ⟨rfl, hb⟩; refine ⟨_, rfl, ?_⟩; have n0_ := Aside0.mk (below_step (by repeat (first | (with_reducible first | exact HB.out | apply below_alloc | apply pw_below_drewN | apply below_drew1) | exact HB.out)) hb); clear HB; have HB := n0_; clear n0_; (try clear hb); (try clear hb2); (try clear hk); (try clear hi)) | ((with_reducible refine gate_callee (f := 36) rfl ?_); refine goesL_ (some 11) rfl rfl Tryd.func36 (by kernel_rfl) rfl #[.slice A0 l0.length c0] rfl (by (try simp only [List.map_toArray, List.map_cons, List.map_nil]); first | done | rfl | (simp only [List.length_drop, List.length_take]; rfl)) ?_; (with_reducible refine (impl_rows.calls k _ _ l0 t174 _ ?side1 ?side2 A4.out).mono ?_); (case side1 => repeat (first | exact (Kd.C_below HR0.out HB.out) | (with_reducible refine Kd.C_alloc ?_ _) | (with_reducible refine Kd.C_drewN ?_ _) | (with_reducible refine Kd.C_drew ?_))); (case side2 => exact HC0.out); rintro e w8 ⟨v175, rfl, ho0, hb⟩; refine ⟨_, rfl, ?_⟩; have n0_ := Aside0.mk (Kd.S_lower ho0 (below_size (by repeat (first | (with_reducible first | exact HB.out | apply below_alloc | apply pw_below_drewN | apply below_drew1) | exact HB.out)))); have n1_ := Aside0.mk (below_step (by repeat (first | (with_reducible first | exact HB.out | apply below_alloc | apply pw_below_drewN | apply below_drew1) | exact HB.out)) hb); clear HB; have HO176 := n0_; have HB := n1_; clear n0_ n1_; (try clear hb); (try clear hb2); (try clear hk); (try clear hi); (try clear ho0); obtain ⟨Ao9, co9, eo9⟩ := Kd.S_slice HO176.out; subst eo9) | ((with_reducible refine gate_callee (f := 38) rfl ?_); refine goesL_ (some 12) rfl rfl Tryd.func38 (by kernel_rfl) rfl #[.slice Ao9 t174.length co9] rfl (by (try simp only [List.map_toArray, List.map_cons, List.map_nil]); first | done | rfl | (simp only [List.length_drop, List.length_take]; rfl)) ?_; (with_reducible refine (reedsolomon_DoorInvert.calls k _ _ t174 t177 none _ ?side3 ?side4 ?side1 ?side2 A5.out).mono ?_); (case side1 => repeat (first | exact (Kd.S_reads' HO176.out).2.2 | (with_reducible refine Kd.C_alloc ?_ _) | (with_reducible refine Kd.C_drewN ?_ _) | (with_reducible refine Kd.C_drew ?_))); (case side2 => exact (Kd.S_reads' HO176.out).2.1); (case side3 => exact GlobE.below hGE (by repeat (first | (with_reducible first | exact HB.out | apply below_alloc | apply pw_below_drewN | apply below_drew1) | exact HB.out))); (case side4 => exact GlobF.below hGF (by repeat (first | (with_reducible first | exact HB.out | apply below_alloc | apply pw_below_drewN | apply below_drew1) | exact HB.out))); rintro e w10 ⟨v179, qe181, rfl, ho0, hb⟩; refine ⟨_, rfl, ?_⟩; have n0_ := Aside0.mk (Kd.S_elder' (by (with_reducible repeat (first | apply Kd.S_alloc | apply Kd.S_drewN | apply Kd.S_drew)); exact HO176.out) (Kd.S_base ho0) hb); have n1_ := Aside0.mk (Kd.S_lower (Kd.S_new' ho0 (Kd.S_lt (by (with_reducible repeat (first | apply Kd.S_alloc | apply Kd.S_drewN | apply Kd.S_drew)); exact HO176.out))) (below_size (by repeat (first | (with_reducible first | exact HB.out | apply below_alloc | apply pw_below_drewN | apply below_drew1) | exact HB.out)))); have n2_ := Aside0.mk (below_step (by repeat (first | (with_reducible first | exact HB.out | apply below_alloc | apply pw_below_drewN | apply below_drew1) | exact HB.out)) hb); clear HO176; clear HB; have HO176 := n0_; have HO180 := n1_; have HB := n2_; clear n0_ n1_ n2_; (try clear hb); (try clear hb2); (try clear hk); (try clear hi); (try clear ho0); (try simp only [errW_none, errW_some])))
      have n0_ := Aside0.mk (Kd.S_drew HO176.out)
      have n1_ := Aside0.mk (Kd.S_drew HO180.out)
      have n2_ := Aside0.mk (below_drew1 HB.out)
      clear HO176
      clear HO180
      clear HB
      have HO176 := n0_
      have HO180 := n1_
      have HB := n2_
      clear n0_ n1_ n2_
      obtain ⟨Ao12, co12, eo12⟩ := Kd.S_slice HO180.out
      (first | subst eo12 | (injection eo12 with f1_ f2_ f3_; have f4_ := f1_.symm; have f5_ := f3_.symm; clear f1_ f2_ f3_; subst f4_; subst f5_))
      refine start_ (n := 6) (S := fun w' => True) (ds := []) #[false, false, false, false, false, false] (by kernel_rfl) rfl rfl trivial (fun hHeld => ?_)
      generalize w10.drew = w11 at HO176 HO180 HB hHeld ⊢
      refine pure_ (i := 0) (N := some 15) (v := ?_) (a' := ?_) #[true, false, false, false, false, false] rfl rfl (by kernel_rfl) (fun _ _ _ h => h) (Or.inl ⟨by rfl, ?_⟩) ?_ ?_
      rotate_left
      · intro w'
        go_simp
        with_reducible rfl
      rotate_left
      · simp only [Act.put, List.setIfInBounds_toArray, List.set_cons_zero, List.set_cons_succ, i64_w, i32_w]
        rfl
      refine pure_ (i := 2) (N := some 17) (v := ?_) (a' := ?_) #[true, false, true, false, false, false] rfl rfl (by kernel_rfl) (fun _ _ _ h => h) (Or.inl ⟨by rfl, ?_⟩) ?_ ?_
      rotate_left
      · intro w'
        go_simp
        with_reducible rfl
      rotate_left
      · simp only [Act.put, List.setIfInBounds_toArray, List.set_cons_zero, List.set_cons_succ, i64_w, i32_w]
        rfl
      refine pure_ (i := 3) (N := some 18) (v := ?_) (a' := ?_) #[true, false, true, true, false, false] rfl rfl (by kernel_rfl) (fun _ _ _ h => h) (Or.inl ⟨by rfl, ?_⟩) ?_ ?_
      rotate_left
      · intro w'
        go_simp
        with_reducible rfl
      rotate_left
      · simp only [Act.put, List.setIfInBounds_toArray, List.set_cons_zero, List.set_cons_succ, i64_w, i32_w]
        rfl
      refine one_ (i := 1) (N := some 16) #[true, true, true, true, false, false] rfl rfl (by kernel_rfl) (by decide) (fun K hK => ?_)
      refine goes_ Tryd.func36 (by kernel_rfl) rfl #[.slice Ao12 t177.length co12] (by rfl) rfl rfl (by (try simp only [List.map_toArray, List.map_cons, List.map_nil]); first | done | rfl | (simp only [List.length_drop, List.length_take]; rfl)) ?_
      with_reducible refine (impl_rows.calls k _ _ t177 t182 _ ?side1 ?side2 A6.out).mono ?_
      (case side1 => repeat (first | exact (Kd.S_reads' HO180.out).2.2 | (with_reducible refine Kd.C_alloc ?_ _) | (with_reducible refine Kd.C_drewN ?_ _) | (with_reducible refine Kd.C_drew ?_)))
      (case side2 => exact (Kd.S_reads' HO180.out).2.1)
      rintro e w13 ⟨v183, rfl, ho0, hb⟩
      refine ⟨_, rfl, ?_⟩
      have n0_ := Aside0.mk (Kd.S_elder' (by (with_reducible repeat (first | apply Kd.S_alloc | apply Kd.S_drewN | apply Kd.S_drew)); exact HO176.out) (Kd.S_base ho0) hb)
      have n1_ := Aside0.mk (Kd.S_elder' (by (with_reducible repeat (first | apply Kd.S_alloc | apply Kd.S_drewN | apply Kd.S_drew)); exact HO180.out) (Kd.S_base ho0) hb)
      have n2_ := Aside0.mk (Kd.S_lower (Kd.S_new' (Kd.S_new' ho0 (Kd.S_lt (by (with_reducible repeat (first | apply Kd.S_alloc | apply Kd.S_drewN | apply Kd.S_drew)); exact HO176.out))) (Kd.S_lt (by (with_reducible repeat (first | apply Kd.S_alloc | apply Kd.S_drewN | apply Kd.S_drew)); exact HO180.out))) (below_size (by repeat (first | (with_reducible first | exact HB.out | apply below_alloc | apply pw_below_drewN | apply below_drew1) | exact HB.out))))
      have n3_ := Aside0.mk (below_step (by repeat (first | (with_reducible first | exact HB.out | apply below_alloc | apply pw_below_drewN | apply below_drew1) | exact HB.out)) hb)
      clear HO176
      clear HO180
      clear HB
      have HO176 := n0_
      have HO180 := n1_
      have HO184 := n2_
      have HB := n3_
      clear n0_ n1_ n2_ n3_
      (try clear hb)
      (try clear hb2)
      (try clear hk)
      (try clear hi)
      (try clear ho0)
      refine hK.out _ _ trivial (fun hHeld => ?_)
      clear hK K
      refine norm_ (a' := ?_) ?_ ?_
      rotate_left
      · show Act.put _ (some 16) _ = _
        simp only [Act.put, List.setIfInBounds_toArray, List.set_cons_zero, List.set_cons_succ, i64_w, i32_w]
        rfl
      refine pure_ (i := 4) (N := some 2) (v := ?_) (a' := ?_) #[true, true, true, true, true, false] rfl rfl (by kernel_rfl) (fun _ _ _ h => h) (Or.inl ⟨by rfl, ?_⟩) ?_ ?_
      rotate_left
      · intro w'
        go_simp
        with_reducible rfl
      rotate_left
      · simp only [Act.put, List.setIfInBounds_toArray, List.set_cons_zero, List.set_cons_succ, i64_w, i32_w]
        rfl
      refine pure_ (i := 5) (N := some 3) (v := ?_) (a' := ?_) #[true, true, true, true, true, true] rfl rfl (by kernel_rfl) (fun _ _ _ h => h) (Or.inl ⟨by rfl, ?_⟩) ?_ ?_
      rotate_left
      · intro w'
        go_simp
        with_reducible rfl
      rotate_left
      · simp only [Act.put, List.setIfInBounds_toArray, List.set_cons_zero, List.set_cons_succ, i64_w, i32_w]
        rfl
      refine done_ (by kernel_rfl) ?_
      try go_wp2
      go_ret2
      exact ⟨_, by first | rfl | (simp [errW_none, errW_some] <;> rfl) | (simp [*, errW_none, errW_some] <;> rfl), by (with_reducible repeat (first | apply Kd.S_alloc | apply Kd.S_drewN | apply Kd.S_drew)); exact Kd.S_mono HO184.out (fun _ hk => trivial), by repeat (first | (with_reducible first | exact HB.out | apply below_alloc | apply pw_below_drewN | apply below_drew1) | exact HB.out)⟩
    · have H1 : (some (t182, false)) = some (r1, r2) := by rw [if_neg (show ¬ (some q185).isNone = true by simp)] at H; exact H
      clear H
      have H := H1
      clear H1
      try simp only [errW_none, errW_some]
      simp only [Option.some.injEq, Prod.mk.injEq] at H
      obtain ⟨rfl, rfl⟩ := H
      go_enter Tryd.func22, Tryd.ntmps22
      try go_wp2_with (first | ((with_reducible refine gate_callee (f := 34) rfl ?_); refine goesL_ (some 7) rfl rfl Tryd.func34 (by kernel_rfl) rfl #[.slice A0 l0.length c0] rfl (by (try simp only [List.map_toArray, List.map_cons, List.map_nil]); first | done | rfl | (simp only [List.length_drop, List.length_take]; rfl)) ?_; (with_reducible refine (impl_isMatrix.calls k _ _ l0 true _ ?side3 ?side1 ?side2 A2.out).mono ?_); (case side1 => repeat (first | exact HR0.out | (with_reducible refine Kd.C_alloc ?_ _) | (with_reducible refine Kd.C_drewN ?_ _) | (with_reducible refine Kd.C_drew ?_))); (case side2 => exact HC0.out); (case side3 => exact GlobE.below hGE (by repeat (first | (with_reducible first | exact HB.out | apply below_alloc | apply pw_below_drewN | apply below_drew1) | exact HB.out))); rintro e w14 ⟨rfl, hb⟩; refine ⟨_, rfl, ?_⟩; have n0_ := Aside0.mk (below_step (by repeat (first | (with_reducible first | exact HB.out | apply below_alloc | apply pw_below_drewN | apply below_drew1) | exact HB.out)) hb); clear HB; have HB := n0_; clear n0_; (try clear hb); (try clear hb2); (try clear hk); (try clear hi)) | ((with_reducible refine gate_callee (f := 36) rfl ?_); refine goesL_ (some 11) rfl rfl Tryd.func36 (by kernel_rfl) rfl #[.slice A0 l0.length c0] rfl (by (try simp only [List.map_toArray, List.map_cons, List.map_nil]); first | done | rfl | (simp only [List.length_drop, List.length_take]; rfl)) ?_; (with_reducible refine (impl_rows.calls k _ _ l0 t174 _ ?side1 ?side2 A4.out).mono ?_); (case side1 => repeat (first | exact (Kd.C_below HR0.out HB.out) | (with_reducible refine Kd.C_alloc ?_ _) | (with_reducible refine Kd.C_drewN ?_ _) | (with_reducible refine Kd.C_drew ?_))); (case side2 => exact HC0.out); rintro e w15 ⟨v175, rfl, ho0, hb⟩; refine ⟨_, rfl, ?_⟩; have n0_ := Aside0.mk (Kd.S_lower ho0 (below_size (by repeat (first | (with_reducible first | exact HB.out | apply below_alloc | apply pw_below_drewN | apply below_drew1) | exact HB.out)))); have n1_ := Aside0.mk (below_step (by repeat (first | (with_reducible first | exact HB.out | apply below_alloc | apply pw_below_drewN | apply below_drew1) | exact HB.out)) hb); clear HB; have HO176 := n0_; have HB := n1_; clear n0_ n1_; (try clear hb); (try clear hb2); (try clear hk); (try clear hi); (try clear ho0); obtain ⟨Ao16, co16, eo16⟩ := Kd.S_slice HO176.out; subst eo16) | ((with_reducible refine gate_callee (f := 38) rfl ?_); refine goesL_ (some 12) rfl rfl Tryd.func38 (by kernel_rfl) rfl #[.slice Ao16 t174.length co16] rfl (by (try simp only [List.map_toArray, List.map_cons, List.map_nil]); first | done | rfl | (simp only [List.length_drop, List.length_take]; rfl)) ?_; (with_reducible refine (reedsolomon_DoorInvert.calls k _ _ t174 t177 (some q185) _ ?side3 ?side4 ?side1 ?side2 A5.out).mono ?_); (case side1 => repeat (first | exact (Kd.S_reads' HO176.out).2.2 | (with_reducible refine Kd.C_alloc ?_ _) | (with_reducible refine Kd.C_drewN ?_ _) | (with_reducible refine Kd.C_drew ?_))); (case side2 => exact (Kd.S_reads' HO176.out).2.1); (case side3 => exact GlobE.below hGE (by repeat (first | (with_reducible first | exact HB.out | apply below_alloc | apply pw_below_drewN | apply below_drew1) | exact HB.out))); (case side4 => exact GlobF.below hGF (by repeat (first | (with_reducible first | exact HB.out | apply below_alloc | apply pw_below_drewN | apply below_drew1) | exact HB.out))); rintro e w17 ⟨v179, qe181, rfl, ho0, hb⟩; refine ⟨_, rfl, ?_⟩; have n0_ := Aside0.mk (Kd.S_elder' (by (with_reducible repeat (first | apply Kd.S_alloc | apply Kd.S_drewN | apply Kd.S_drew)); exact HO176.out) (Kd.S_base ho0) hb); have n1_ := Aside0.mk (Kd.S_lower (Kd.S_new' ho0 (Kd.S_lt (by (with_reducible repeat (first | apply Kd.S_alloc | apply Kd.S_drewN | apply Kd.S_drew)); exact HO176.out))) (below_size (by repeat (first | (with_reducible first | exact HB.out | apply below_alloc | apply pw_below_drewN | apply below_drew1) | exact HB.out)))); have n2_ := Aside0.mk (below_step (by repeat (first | (with_reducible first | exact HB.out | apply below_alloc | apply pw_below_drewN | apply below_drew1) | exact HB.out)) hb); clear HO176; clear HB; have HO176 := n0_; have HO180 := n1_; have HB := n2_; clear n0_ n1_ n2_; (try clear hb); (try clear hb2); (try clear hk); (try clear hi); (try clear ho0); (try simp only [errW_none, errW_some])))
      have n0_ := Aside0.mk (Kd.S_drew HO176.out)
      have n1_ := Aside0.mk (Kd.S_drew HO180.out)
      have n2_ := Aside0.mk (below_drew1 HB.out)
      clear HO176
      clear HO180
      clear HB
      have HO176 := n0_
      have HO180 := n1_
      have HB := n2_
      clear n0_ n1_ n2_
      obtain ⟨Ao19, co19, eo19⟩ := Kd.S_slice HO180.out
      (first | subst eo19 | (injection eo19 with f1_ f2_ f3_; have f4_ := f1_.symm; have f5_ := f3_.symm; clear f1_ f2_ f3_; subst f4_; subst f5_))
      refine start_ (n := 6) (S := fun w' => True) (ds := []) #[false, false, false, false, false, false] (by kernel_rfl) rfl rfl trivial (fun hHeld => ?_)
      generalize w17.drew = w18 at HO176 HO180 HB hHeld ⊢
      refine pure_ (i := 0) (N := some 15) (v := ?_) (a' := ?_) #[true, false, false, false, false, false] rfl rfl (by kernel_rfl) (fun _ _ _ h => h) (Or.inl ⟨by rfl, ?_⟩) ?_ ?_
      rotate_left
      · intro w'
        go_simp
        with_reducible rfl
      rotate_left
      · simp only [Act.put, List.setIfInBounds_toArray, List.set_cons_zero, List.set_cons_succ, i64_w, i32_w]
        rfl
      refine pure_ (i := 2) (N := some 17) (v := ?_) (a' := ?_) #[true, false, true, false, false, false] rfl rfl (by kernel_rfl) (fun _ _ _ h => h) (Or.inl ⟨by rfl, ?_⟩) ?_ ?_
      rotate_left
      · intro w'
        go_simp
        with_reducible rfl
      rotate_left
      · simp only [Act.put, List.setIfInBounds_toArray, List.set_cons_zero, List.set_cons_succ, i64_w, i32_w]
        rfl
      refine pure_ (i := 3) (N := some 18) (v := ?_) (a' := ?_) #[true, false, true, true, false, false] rfl rfl (by kernel_rfl) (fun _ _ _ h => h) (Or.inl ⟨by rfl, ?_⟩) ?_ ?_
      rotate_left
      · intro w'
        go_simp
        with_reducible rfl
      rotate_left
      · simp only [Act.put, List.setIfInBounds_toArray, List.set_cons_zero, List.set_cons_succ, i64_w, i32_w]
        rfl
      refine one_ (i := 1) (N := some 16) #[true, true, true, true, false, false] rfl rfl (by kernel_rfl) (by decide) (fun K hK => ?_)
      refine goes_ Tryd.func36 (by kernel_rfl) rfl #[.slice Ao19 t177.length co19] (by rfl) rfl rfl (by (try simp only [List.map_toArray, List.map_cons, List.map_nil]); first | done | rfl | (simp only [List.length_drop, List.length_take]; rfl)) ?_
      with_reducible refine (impl_rows.calls k _ _ t177 t182 _ ?side1 ?side2 A6.out).mono ?_
      (case side1 => repeat (first | exact (Kd.S_reads' HO180.out).2.2 | (with_reducible refine Kd.C_alloc ?_ _) | (with_reducible refine Kd.C_drewN ?_ _) | (with_reducible refine Kd.C_drew ?_)))
      (case side2 => exact (Kd.S_reads' HO180.out).2.1)
      rintro e w20 ⟨v183, rfl, ho0, hb⟩
      refine ⟨_, rfl, ?_⟩
      have n0_ := Aside0.mk (Kd.S_elder' (by (with_reducible repeat (first | apply Kd.S_alloc | apply Kd.S_drewN | apply Kd.S_drew)); exact HO176.out) (Kd.S_base ho0) hb)
      have n1_ := Aside0.mk (Kd.S_elder' (by (with_reducible repeat (first | apply Kd.S_alloc | apply Kd.S_drewN | apply Kd.S_drew)); exact HO180.out) (Kd.S_base ho0) hb)
      have n2_ := Aside0.mk (Kd.S_lower (Kd.S_new' (Kd.S_new' ho0 (Kd.S_lt (by (with_reducible repeat (first | apply Kd.S_alloc | apply Kd.S_drewN | apply Kd.S_drew)); exact HO176.out))) (Kd.S_lt (by (with_reducible repeat (first | apply Kd.S_alloc | apply Kd.S_drewN | apply Kd.S_drew)); exact HO180.out))) (below_size (by repeat (first | (with_reducible first | exact HB.out | apply below_alloc | apply pw_below_drewN | apply below_drew1) | exact HB.out))))
      have n3_ := Aside0.mk (below_step (by repeat (first | (with_reducible first | exact HB.out | apply below_alloc | apply pw_below_drewN | apply below_drew1) | exact HB.out)) hb)
      clear HO176
      clear HO180
      clear HB
      have HO176 := n0_
      have HO180 := n1_
      have HO184 := n2_
      have HB := n3_
      clear n0_ n1_ n2_ n3_
      (try clear hb)
      (try clear hb2)
      (try clear hk)
      (try clear hi)
      (try clear ho0)
      refine hK.out _ _ trivial (fun hHeld => ?_)
      clear hK K
      refine norm_ (a' := ?_) ?_ ?_
      rotate_left
      · show Act.put _ (some 16) _ = _
        simp only [Act.put, List.setIfInBounds_toArray, List.set_cons_zero, List.set_cons_succ, i64_w, i32_w]
        rfl
      refine pure_ (i := 4) (N := some 2) (v := ?_) (a' := ?_) #[true, true, true, true, true, false] rfl rfl (by kernel_rfl) (fun _ _ _ h => h) (Or.inl ⟨by rfl, ?_⟩) ?_ ?_
      rotate_left
      · intro w'
        go_simp
        with_reducible rfl
      rotate_left
      · simp only [Act.put, List.setIfInBounds_toArray, List.set_cons_zero, List.set_cons_succ, i64_w, i32_w]
        rfl
      refine pure_ (i := 5) (N := some 3) (v := ?_) (a' := ?_) #[true, true, true, true, true, true] rfl rfl (by kernel_rfl) (fun _ _ _ h => h) (Or.inl ⟨by rfl, ?_⟩) ?_ ?_
      rotate_left
      · intro w'
        go_simp
        with_reducible rfl
      rotate_left
      · simp only [Act.put, List.setIfInBounds_toArray, List.set_cons_zero, List.set_cons_succ, i64_w, i32_w]
        rfl
      refine done_ (by kernel_rfl) ?_
      try go_wp2
      go_ret2
      exact ⟨_, by first | rfl | (simp [errW_none, errW_some] <;> rfl) | (simp [*, errW_none, errW_some] <;> rfl), by (with_reducible repeat (first | apply Kd.S_alloc | apply Kd.S_drewN | apply Kd.S_drew)); exact Kd.S_mono HO184.out (fun _ hk => trivial), by repeat (first | (with_reducible first | exact HB.out | apply below_alloc | apply pw_below_drewN | apply below_drew1) | exact HB.out)⟩
  · replace c3 := Bool.eq_false_iff.mpr c3
    subst c3
    have H1 : (some (([] : List (List Int)), false)) = some (r1, r2) := by rw [if_neg (show ¬ (false = true) by decide)] at H; exact H
    clear H
    have H := H1
    clear H1
    simp only [Option.some.injEq, Prod.mk.injEq] at H
    obtain ⟨rfl, rfl⟩ := H
    go_enter Tryd.func22, Tryd.ntmps22
    go_wp2_with (first | ((with_reducible refine gate_callee (f := 34) rfl ?_); refine goesL_ (some 7) rfl rfl Tryd.func34 (by kernel_rfl) rfl #[.slice A0 l0.length c0] rfl (by (try simp only [List.map_toArray, List.map_cons, List.map_nil]); first | done | rfl | (simp only [List.length_drop, List.length_take]; rfl)) ?_; (with_reducible refine (impl_isMatrix.calls k _ _ l0 false _ ?side3 ?side1 ?side2 A2.out).mono ?_); (case side1 => repeat (first | exact HR0.out | (with_reducible refine Kd.C_alloc ?_ _) | (with_reducible refine Kd.C_drewN ?_ _) | (with_reducible refine Kd.C_drew ?_))); (case side2 => exact HC0.out); (case side3 => exact GlobE.below hGE (by repeat (first | (with_reducible first | exact HB.out | apply below_alloc | apply pw_below_drewN | apply below_drew1) | exact HB.out))); rintro e w21 ⟨rfl, hb⟩; refine ⟨_, rfl, ?_⟩; have n0_ := Aside0.mk (below_step (by repeat (first | (with_reducible first | exact HB.out | apply below_alloc | apply pw_below_drewN | apply below_drew1) | exact HB.out)) hb); clear HB; have HB := n0_; clear n0_; (try clear hb); (try clear hb2); (try clear hk); (try clear hi)))
    go_ret2
    exact ⟨_, by first | rfl | (simp [errW_none, errW_some] <;> rfl) | (simp [*, errW_none, errW_some] <;> rfl), by first | exact Kd.S_nil _ _ _ _ _ | exact Kd.N_nil _ _ _ _ _ | exact Kd.V_nil _ _ _ _ _ | exact Kd.Q_nil _ _ _ _ _ | exact Kd.R_nil _ _ _ _ _, by repeat (first | (with_reducible first | exact HB.out | apply below_alloc | apply pw_below_drewN | apply below_drew1) | exact HB.out)⟩
def gexp (a n : Nat) : Nat := if n = 0 then 1 else if a = 0 then 0 else gpow ((glog a * n) % 255)
def reedsolomon_galExp.f (a0 a1 : Int) : Option (Int) := if 0 ≤ a0 then (if a0 < 256 then (if 0 ≤ a1 then (if a1 ≤ 1000000 then (some ((gexp a0.toNat a1.toNat : Nat) : Int)) else (none)) else (none)) else (none)) else (none)
set_option maxHeartbeats 1000000 in
set_option maxRecDepth 100000 in
theorem reedsolomon_galExp.core (x n z l : Nat) (w : World) (hx : x < 256) (hn : n ≤ 1000000) (hx0 : ((x : Int) == 0) = false) (hn0 : ((n : Int) == 0) = false) (hl : l < 255)
    (c1 : w.cell? ⟨0, x, none⟩ = some (.int .u8 (l : Int)))
    (c3 : w.cell? ⟨1, (l * n) % 255, none⟩ = some (.int .u8 (z : Int))) :
    Calls Tryd.prog 45 #[.int .u8 (x : Int), .int .i64 (n : Int)] w fun e w' => e = .returned (.int .u8 (z : Int)) ∧ Drawn0 w w' := by
  have i1 : (x : Int) < 256 := by omega
  have i3 : (l : Int) < 255 := by omega
  have hT : l * n ≤ 255000000 := Nat.le_trans (Nat.mul_le_mul (show l ≤ 255 by omega) hn) (by decide)
  have kT : IntKind.i64.wrap ((l : Int) * (n : Int)) = ((l * n : Nat) : Int) := by rw [← Int.natCast_mul, IntKind.wrap_i64]; omega
  have kT2 : wrap64 ((l : Int) * (n : Int)) = ((l * n : Nat) : Int) := by rw [← Int.natCast_mul]; unfold wrap64; omega
  have kT3 : (l : Int) * (n : Int) = ((l * n : Nat) : Int) := by rw [← Int.natCast_mul]
  have C3 := Aside0.mk c3
  clear c3
  generalize hTT : l * n = T at *
  clear hTT
  go_enter Tryd.func45, Tryd.ntmps45
  go_wp2
  go_loop [6] (fun v => ∃ m : Nat, v = .int .i64 (m : Int) ∧ Aside0 (m % 255 = T % 255 ∧ m ≤ 255000000)) (fun v => (intOf v).toNat)
  case atStart => exact ⟨T, rfl, ⟨rfl, hT⟩⟩
  case round =>
    obtain ⟨m, rfl, H⟩ := hrel
    obtain ⟨h1, h2⟩ := H.out
    clear H kT kT2 kT3
    by_cases h : 255 ≤ m
    · have k1 : decide (255 ≤ (m : Int)) = true := decide_eq_true (by omega)
      have k3 : (m : Int) - 255 = ((m - 255 : Nat) : Int) := by omega
      have H1 := Aside0.mk h1
      clear h1
      go_wp2
      go_round
      case rel => exact ⟨m - 255, by first | rfl | (simp; done), ⟨by have := H1.out; omega, by omega⟩⟩
      case measure => simp [intOf]; omega
    · have k1 : decide (255 ≤ (m : Int)) = false := decide_eq_false (by omega)
      have hm : m = T % 255 := by omega
      have c3 := C3.out
      rw [← hm] at c3
      have k4 : (m : Int) < 256 := by omega
      clear hm h1 C3 h
      go_wp2
      go_ret
      exact ⟨by first | rfl | (simp; done), by repeat (first | exact Drawn0.refl _ | apply Drawn0.step)⟩
theorem reedsolomon_galExp.calls (a0 a1 : Int) (r : Int) (w : World) (hGF : GlobF w) (h : reedsolomon_galExp.f a0 a1 = some r) :
    Calls Tryd.prog 45 #[.int .u8 a0, .int .i64 a1] w fun e w' => e = .returned (.int .u8 r) ∧ Drawn0 w w' := by
  have hh : 0 ≤ a0 ∧ a0 < 256 ∧ 0 ≤ a1 ∧ a1 ≤ 1000000 ∧ r = ((gexp a0.toNat a1.toNat : Nat) : Int) := by
    unfold reedsolomon_galExp.f at h
    by_cases h0 : 0 ≤ a0
    · by_cases h1 : a0 < 256
      · by_cases h2 : 0 ≤ a1
        · by_cases h3 : a1 ≤ 1000000
          · rw [if_pos h0, if_pos h1, if_pos h2, if_pos h3] at h
            exact ⟨h0, h1, h2, h3, (Option.some.inj h).symm⟩
          · rw [if_pos h0, if_pos h1, if_pos h2, if_neg h3] at h
            exact absurd h (by simp)
        · rw [if_pos h0, if_pos h1, if_neg h2] at h
          exact absurd h (by simp)
      · rw [if_pos h0, if_neg h1] at h
        exact absurd h (by simp)
    · rw [if_neg h0] at h
      exact absurd h (by simp)
  clear h
  obtain ⟨h0, h1, h2, h3, hr⟩ := hh
  subst hr
  obtain ⟨x, rfl⟩ := Int.eq_ofNat_of_zero_le h0
  obtain ⟨y, rfl⟩ := Int.eq_ofNat_of_zero_le h2
  rw [Int.toNat_natCast, Int.toNat_natCast]
  unfold gexp
  by_cases hy : y = 0
  · subst hy
    rw [if_pos rfl]
    clear h0 h1 h2 h3 hGF
    go_enter Tryd.func45, Tryd.ntmps45
    go_wp2
    go_ret
    exact ⟨rfl, Drawn0.refl _⟩
  · rw [if_neg hy]
    by_cases hx : x = 0
    · subst hx
      rw [if_pos rfl]
      have e0 : ((y : Int) == 0) = false := by simp; omega
      clear h0 h1 h2 h3 hGF hy
      go_enter Tryd.func45, Tryd.ntmps45
      go_wp2
      go_ret
      exact ⟨rfl, Drawn0.refl _⟩
    · rw [if_neg hx]
      exact reedsolomon_galExp.core x y _ _ w (by omega) (by omega) (by simp; omega) (by simp; omega) (glog_lt x) (hGF.log x (by omega)) (hGF.exp _ (by omega))
def vOk (m : List (List Int)) (n c : Nat) : Bool := decide (m.length = n) && m.all fun r => decide (r.length = c) && r.all fun x => decide (0 ≤ x)
theorem vOk_out {m : List (List Int)} {n c : Nat} (h : vOk m n c = true) : m.length = n ∧ (∀ i, i < n → (m.getD i []).length = c) ∧ ∀ i j, i < n → j < c → 0 ≤ (m.getD i []).getD j 0 := by
  unfold vOk at h
  simp only [Bool.and_eq_true, decide_eq_true_eq, List.all_eq_true] at h
  obtain ⟨h1, h4⟩ := h
  subst h1
  have hr : ∀ i, i < m.length → m.getD i [] ∈ m := fun i hi => by
    rw [show m.getD i [] = m[i] by rw [List.getD_eq_getElem?_getD, List.getElem?_eq_getElem hi]; rfl]
    exact List.getElem_mem hi
  refine ⟨rfl, fun i hi => (h4 _ (hr i hi)).1, fun i j hi hj => ?_⟩
  obtain ⟨h5, h6⟩ := h4 _ (hr i hi)
  rw [show (m.getD i []).getD j 0 = (m.getD i [])[j]'(by omega) by rw [List.getD_eq_getElem?_getD, List.getElem?_eq_getElem (by omega)]; rfl]
  exact h6 _ (List.getElem_mem _)
def vTo (M : Nat → Nat → Nat) (i j : Nat) : Nat → Nat → Nat := fun a b => if a < i ∨ (a = i ∧ b < j) then gexp a b else M a b
def reedsolomon_vandermonde.T10 : Bool × List (List Nat × List Nat) := (true, [([], []), ([], []), ([0, 1], [0, 1]), ([2], [2]), ([], []), ([], []), ([5], [5]), ([], []), ([6, 7], [6, 7]), ([3, 4, 0, 1, 2, 3, 4, 5, 6, 7, 8], [3, 4]), ([9, 8, 8, 0, 1, 2, 3, 4, 5, 6, 7, 8], [8, 9])])
def reedsolomon_vandermonde.B10 : List Nat := [0, 0, 3, 7, 0, 0, 32, 0, 224, 511, 1023]
theorem reedsolomon_vandermonde.tab10 : rtab .any (opsOf Tryd.f55 10) = reedsolomon_vandermonde.T10 := by kernel_rfl
theorem reedsolomon_vandermonde.bits10 : waitsOk reedsolomon_vandermonde.T10.2 reedsolomon_vandermonde.B10 = true := by kernel_rfl
set_option maxHeartbeats 8000000 in
set_option maxRecDepth 100000 in
theorem reedsolomon_vandermonde.calls (n c k : Nat) (t1 : List (List Int)) (hn : 0 < n) (hn2 : n ≤ 256) (hc : 0 < c) (hc2 : c ≤ 256) (w : World) (hGE : GlobE w) (hGF : GlobF w) (hnm : reedsolomon_newMatrix.f k (n : Int) (c : Int) = some (t1, none)) (hok : vOk t1 n c = true) :
    Calls Tryd.prog 55 #[.int .i64 (n : Int), .int .i64 (c : Int)] w fun e w' => ∃ (g cp : Nat) (b cap : Nat → Nat), e = .returned (.tuple #[.slice (some ⟨g, 0, none⟩) n cp, .nilIface]) ∧ n ≤ cp ∧ Mx w' g n c b cap gexp ∧ Below w.heap.size w w' := by
  have hu22 := Tryd.underlying22
  have hu66 := Tryd.underlying66
  have hu52 := Tryd.underlying52
  have HB := Aside0.mk (Below.refl w.heap.size w)
  obtain ⟨hL, hr, hv⟩ := vOk_out hok
  have HLn := Aside0.mk hL
  have HR := Aside0.mk hr
  have HV := Aside0.mk hv
  have HNM := Aside0.mk hnm
  clear hr hv hnm hok hL
  go_enter Tryd.func55, Tryd.ntmps55
  go_wp2_with (first | ((with_reducible refine gate_callee (f := 58) rfl ?_); refine goesL_ (some 14) rfl rfl Tryd.func58 (by kernel_rfl) rfl #[.int .i64 (n : Int), .int .i64 (c : Int)] rfl (by (try simp only [List.map_toArray, List.map_cons, List.map_nil]); first | done | rfl) ?_; (with_reducible refine (reedsolomon_newMatrix.calls k _ _ t1 none _ hGE HNM.out).mono ?_); rintro e w8 ⟨v185, qe187, rfl, ho0, hb⟩; refine ⟨_, rfl, ?_⟩; have HO186 := Aside0.mk ho0; have HB1 := Aside0.mk hb; clear HB ho0 hb; (try simp only [errW_none, errW_some]); obtain ⟨Ao9, co9, eo9⟩ := Kd.S_slice HO186.out; rw [HLn.out] at eo9; subst eo9; obtain ⟨g, b, cap, eA, hcp, hbg, hbb, hmx⟩ := Mx.of_S HO186.out hn hc HR.out HV.out; subst eA; have HCP := Aside0.mk hcp; have HBG := Aside0.mk hbg; have HBB := Aside0.mk hbb; have HMX := Aside0.mk hmx; clear hcp hbg hbb hmx HO186))
  obtain ⟨M, HM0⟩ : ∃ M, Aside0 ((fun i j => ((t1.getD i []).getD j 0).toNat) = M) := ⟨_, ⟨rfl⟩⟩
  rw [HM0.out] at HMX
  go_loopg [22] n (fun kq v22 w' => ∃ i : Nat, v22 = .int .i64 (i : Int) ∧ Aside0 (i + kq = n) ∧ Aside0 (Mx w' g n c b cap (vTo M i 0)) ∧ Aside0 (Below w.heap.size w w'))
  case atStart => exact ⟨0, rfl, ⟨by omega⟩, ⟨HMX.out.congr fun i j _ _ => by unfold vTo; rw [if_neg (by omega)]⟩, HB1⟩
  case round =>
    clear HMX HB1
    obtain ⟨i, rfl, HI, HM, HB⟩ := hrel
    by_cases ci : i < n
    · have hmd := decide_eq_true (show (i : Int) < (n : Int) by omega)
      have hmd' : decide (i < n) = true := decide_eq_true ci
      have hli : ((i : Int) < (n : Int)) = True := eq_true (by omega)
      have hi1 : wrap64 ((i : Int) + 1) = ((i + 1 : Nat) : Int) := by unfold wrap64; omega
      have hc1 := HM.out.cellO i ci
      go_wp2
      clear hc1 hmd hmd'
      go_loopg [29] c (fun kq v29 w' => ∃ j : Nat, v29 = .int .i64 (j : Int) ∧ Aside0 (j + kq = c) ∧ Aside0 (Mx w' g n c b cap (vTo M i j)) ∧ Aside0 (Below w.heap.size w w'))
      case atStart => exact ⟨0, rfl, ⟨by omega⟩, HM, HB⟩
      case round =>
        clear HM HB
        obtain ⟨j, rfl, HJ, HM, HB⟩ := hrel
        by_cases cj : j < c
        · have hmd := decide_eq_true (show (j : Int) < (c : Int) by omega)
          have hmd' : decide (j < c) = true := decide_eq_true cj
          have hlj : ((j : Int) < (c : Int)) = True := eq_true (by omega)
          have hcv : IntKind.u8.wrap (i : Int) = (i : Int) := by simp only [IntKind.wrap, IntKind.signed, IntKind.bits]; first | omega | (simp; omega)
          have hcv2 : (i : Int) % 256 = (i : Int) := by omega
          obtain ⟨z, hzf, HZ⟩ : ∃ z : Nat, Aside0 (reedsolomon_galExp.f (i : Int) (j : Int) = some (z : Int)) ∧ Aside0 (z = gexp i j) := ⟨_, ⟨by unfold reedsolomon_galExp.f; rw [if_pos (by omega), if_pos (by omega), if_pos (by omega), if_pos (by omega), Int.toNat_natCast, Int.toNat_natCast]⟩, ⟨rfl⟩⟩
          go_wp2
          refine start_ (n := 11) (S := fun w' => w'.cell? ⟨g, i, none⟩ = some (.slice (some ⟨b i, 0, none⟩) c (cap i))) (ds := [10]) #[false, false, false, false, false, false, false, false, false, false, false] (by kernel_rfl) rfl rfl (HM.out.drew.cellO i ci) (fun hHeld => ?_)
          refine with_tabW reedsolomon_vandermonde.tab10 reedsolomon_vandermonde.bits10 (fun HT_ HW_ => ?_)
          refine pure_ (i := 0) (N := (some 32)) (v := ?_) (a' := ?_) #[true, false, false, false, false, false, false, false, false, false, false] rfl rfl (any_of HT_.out (by kernel_rfl)) (fun _ _ _ h => h) (Or.inl ⟨by rfl, ?_⟩) ?_ ?_
          rotate_left
          · intro w'
            go_simp
            with_reducible rfl
          rotate_left
          · simp only [Act.put, List.setIfInBounds_toArray, List.set_cons_zero, List.set_cons_succ, i64_w, i32_w]
            rfl
          refine pure_ (i := 1) (N := (some 33)) (v := ?_) (a' := ?_) #[true, true, false, false, false, false, false, false, false, false, false] rfl rfl (any_of HT_.out (by kernel_rfl)) (fun _ _ _ h => h) (Or.inl ⟨by rfl, ?_⟩) ?_ ?_
          rotate_left
          · intro w'
            go_simp
            with_reducible rfl
          rotate_left
          · simp only [Act.put, List.setIfInBounds_toArray, List.set_cons_zero, List.set_cons_succ, i64_w, i32_w]
            rfl
          refine pure_ (i := 2) (N := (some 34)) (v := ?_) (a' := ?_) #[true, true, true, false, false, false, false, false, false, false, false] rfl rfl (any_of HT_.out (by kernel_rfl)) (fun _ _ _ h => h) (Or.inl ⟨by rfl, ?_⟩) ?_ ?_
          rotate_left
          · intro w'
            go_simp
            with_reducible rfl
          rotate_left
          · simp only [Act.put, List.setIfInBounds_toArray, List.set_cons_zero, List.set_cons_succ, i64_w, i32_w]
            rfl
          refine take_ (i := 3) (N := (some 35)) (v := ?_) (a' := ?_) #[true, true, true, true, false, false, false, false, false, false, false] rfl rfl (take_ofW HT_.out HW_.out (by kernel_rfl)) (fun _ _ _ h => h) (Or.inl ⟨by rfl, ?_⟩) hHeld ?_ ?_
          rotate_left
          · intro w' s0
            go_simp
            with_reducible rfl
          rotate_left
          · simp only [Act.put, List.setIfInBounds_toArray, List.set_cons_zero, List.set_cons_succ, i64_w, i32_w]
            rfl
          refine pure_ (i := 4) (N := (some 36)) (v := ?_) (a' := ?_) #[true, true, true, true, true, false, false, false, false, false, false] rfl rfl (any_of HT_.out (by kernel_rfl)) (fun _ _ _ h => h) (Or.inl ⟨by rfl, ?_⟩) ?_ ?_
          rotate_left
          · intro w'
            go_simp
            with_reducible rfl
          rotate_left
          · simp only [Act.put, List.setIfInBounds_toArray, List.set_cons_zero, List.set_cons_succ, i64_w, i32_w]
            rfl
          refine pure_ (i := 5) (N := (some 37)) (v := ?_) (a' := ?_) #[true, true, true, true, true, true, false, false, false, false, false] rfl rfl (any_of HT_.out (by kernel_rfl)) (fun _ _ _ h => h) (Or.inl ⟨by rfl, ?_⟩) ?_ ?_
          rotate_left
          · intro w'
            go_simp
            with_reducible rfl
          rotate_left
          · simp only [Act.put, List.setIfInBounds_toArray, List.set_cons_zero, List.set_cons_succ, i64_w, i32_w]
            rfl
          refine pure_ (i := 6) (N := (some 38)) (v := ?_) (a' := ?_) #[true, true, true, true, true, true, true, false, false, false, false] rfl rfl (any_of HT_.out (by kernel_rfl)) (fun _ _ _ h => h) (Or.inl ⟨by rfl, ?_⟩) ?_ ?_
          rotate_left
          · intro w'
            go_simp
            with_reducible rfl
          rotate_left
          · simp only [Act.put, List.setIfInBounds_toArray, List.set_cons_zero, List.set_cons_succ, i64_w, i32_w]
            rfl
          refine pure_ (i := 7) (N := (some 39)) (v := ?_) (a' := ?_) #[true, true, true, true, true, true, true, true, false, false, false] rfl rfl (any_of HT_.out (by kernel_rfl)) (fun _ _ _ h => h) (Or.inl ⟨by rfl, ?_⟩) ?_ ?_
          rotate_left
          · intro w'
            go_simp
            with_reducible rfl
          rotate_left
          · simp only [Act.put, List.setIfInBounds_toArray, List.set_cons_zero, List.set_cons_succ, i64_w, i32_w]
            rfl
          refine one_ (i := 8) (N := (some 40)) #[true, true, true, true, true, true, true, true, true, false, false] rfl rfl (one_of HT_.out (by kernel_rfl)) (by decide) (fun K hK => ?_)
          refine goes_ Tryd.func45 (by kernel_rfl) rfl #[.int .u8 (i : Int), .int .i64 (j : Int)] (by rfl) rfl rfl (by (try simp only [List.map_toArray, List.map_cons, List.map_nil]); first | done | rfl) ?_
          with_reducible refine (reedsolomon_galExp.calls _ _ _ _ (hGF.below (below_drew1 HB.out)) hzf.out).mono ?_
          rintro e6 w6 ⟨rfl, hd⟩
          refine ⟨_, rfl, ?_⟩
          have HM1 := Aside0.mk (show Mx w6 g n c b cap (vTo M i j) by obtain ⟨nn, rfl⟩ := hd; exact HM.out.drew.drewN nn)
          have HB1 := Aside0.mk (show Below w.heap.size w w6 by obtain ⟨nn, rfl⟩ := hd; exact pw_below_drewN (below_drew1 HB.out) nn)
          clear hd HM HB
          refine hK.out _ _ (HM1.out.cellO i ci) (fun hHeld => ?_)
          clear hK K
          refine norm_ (a' := ?_) ?_ ?_
          rotate_left
          · show Act.put _ (some 40) _ = _
            simp only [Act.put, List.setIfInBounds_toArray, List.set_cons_zero, List.set_cons_succ, i64_w, i32_w]
            rfl
          refine pure_ (i := 9) (N := (some 41)) (v := ?_) (a' := ?_) #[true, true, true, true, true, true, true, true, true, true, false] rfl rfl (any_of HT_.out (by kernel_rfl)) (fun _ _ _ h => h) (Or.inl ⟨by rfl, ?_⟩) ?_ ?_
          rotate_left
          · intro w'
            go_simp
            with_reducible rfl
          rotate_left
          · simp only [Act.put, List.setIfInBounds_toArray, List.set_cons_zero, List.set_cons_succ, i64_w, i32_w]
            rfl
          have hcy := HM1.out.cellI i j ci cj
          have hfy := HM1.out.frozenI i j ci
          refine last_ (i := 10) (N := none) #[true, true, true, true, true, true, true, true, true, true, true] rfl rfl (one_of HT_.out (by kernel_rfl)) (by decide) (fun K hK => ?_)
          refine skip_ (w1 := ?_) (by rfl) rfl ?_ ?_
          rotate_left
          · go_simp
            rfl
          refine hK.out _ _ ?_
          clear hK K
          refine done_ (done_of HT_.out (by kernel_rfl)) ?_
          go_wp2
          have HM2 := Aside0.mk (HM1.out.set i j z ci)
          have HB2 := Aside0.mk (below_set (j := j) (v := .int .u8 (z : Int)) HB1.out (HBB.out i ci))
          go_roundg (c - j - 1)
          case measure => have := HJ.out; omega
          case rel =>
            refine ⟨j + 1, by first | rfl | simp, ⟨by omega⟩, ⟨HM2.out.congr fun i' j' _ _ => ?_⟩, HB2⟩
            unfold vTo
            by_cases e : i' = i ∧ j' = j
            · rw [if_pos e, if_pos (by omega), HZ.out, e.1, e.2]
            · rw [if_neg e]
              by_cases e2 : i' < i ∨ (i' = i ∧ j' < j)
              · rw [if_pos e2, if_pos (by omega)]
              · rw [if_neg e2, if_neg (by omega)]
        · have hmd := decide_eq_false (show ¬ (j : Int) < (c : Int) by omega)
          have hjc : j = c := by have := HJ.out; omega
          subst hjc
          go_wp2
          go_roundg (n - i - 1)
          case measure => have := HI.out; omega
          case rel =>
            refine ⟨i + 1, by first | rfl | simp, ⟨by omega⟩, ⟨HM.out.congr fun i' j' _ hj' => ?_⟩, HB⟩
            unfold vTo
            by_cases e2 : i' < i ∨ (i' = i ∧ j' < j)
            · rw [if_pos e2, if_pos (by omega)]
            · rw [if_neg e2, if_neg (by omega)]
    · have hin : i = n := by have := HI.out; omega
      subst hin
      have hmd := decide_eq_false (show ¬ (i : Int) < (i : Int) by omega)
      go_wp2
      go_ret2
      exact ⟨g, _, b, cap, rfl, HCP.out, HM.out.congr fun i' j' hi' _ => by unfold vTo; rw [if_pos (by omega)], HB.out⟩
set_option maxHeartbeats 8000000 in
set_option maxRecDepth 100000 in
theorem reedsolomon_DoorVandermonde.calls (n c k : Nat) (t1 : List (List Int)) (hn : 0 < n) (hn2 : n ≤ 256) (hc : 0 < c) (hc2 : c ≤ 256) (w : World) (hGE : GlobE w) (hGF : GlobF w) (hnm : reedsolomon_newMatrix.f k (n : Int) (c : Int) = some (t1, none)) (hok : vOk t1 n c = true) :
    Calls Tryd.prog 41 #[.int .i64 (n : Int), .int .i64 (c : Int)] w fun e w' => ∃ (g cp : Nat) (b cap : Nat → Nat), e = .returned (.tuple #[.slice (some ⟨g, 0, none⟩) n cp, .nilIface]) ∧ n ≤ cp ∧ Mx w' g n c b cap gexp ∧ Below w.heap.size w w' := by
  have hu52 := Tryd.underlying52
  go_enter Tryd.func41, Tryd.ntmps41
  go_wp2_with (first | ((with_reducible refine gate_callee (f := 55) rfl ?_); refine goesL_ (some 8) rfl rfl Tryd.func55 (by kernel_rfl) rfl #[.int .i64 (n : Int), .int .i64 (c : Int)] rfl (by (try simp only [List.map_toArray, List.map_cons, List.map_nil]); first | done | rfl) ?_; (with_reducible refine (reedsolomon_vandermonde.calls n c k t1 hn hn2 hc hc2 _ hGE hGF hnm hok).mono ?_); rintro e w8 ⟨g, cp, b, cap, rfl, h1, h2, h3⟩; refine ⟨_, rfl, ?_⟩; have H1 := Aside0.mk h1; have H2 := Aside0.mk h2; have H3 := Aside0.mk h3; clear h1 h2 h3))
  go_ret2
  exact ⟨g, cp, b, cap, rfl, H1.out, H2.out, H3.out⟩
def impl_Vandermonde.f (k : Nat) (a0 a1 : Int) : Option ((List (List Int)) × Bool) := if a0 < 1 ∨ a1 < 1 ∨ 256 < a0 ∨ 256 < a1 then none else (reedsolomon_newMatrix.f k a0 a1).bind fun t => (if t.2.isNone = true ∧ vOk t.1 a0.toNat a1.toNat = true then ((impl_rows.f k (rowsM a0.toNat a1.toNat gexp)).bind fun z => some (z, true)) else none)
theorem impl_Vandermonde.mono : ∀ a0 a1 k, LeO (impl_Vandermonde.f k a0 a1) (impl_Vandermonde.f (k + 1) a0 a1) := by
  intro a0 a1 k
  unfold impl_Vandermonde.f
  repeat' first
      | (with_reducible exact reedsolomon_newMatrix.mono _ _ _)
      | (with_reducible exact impl_rows.mono _ _)
      | (with_reducible exact LeO.refl _)
      | (with_reducible exact LeO.none _)
      | (with_reducible refine LeO.ite ?_ ?_)
      | (with_reducible refine LeO.bind ?_ (fun _ => ?_))
def impl_Vandermonde.T4 : Bool × List (List Nat × List Nat) := (true, [([], []), ([0], [0]), ([], []), ([2], [2]), ([1, 1, 0, 1], [1]), ([3, 4, 0, 1, 2, 3, 4], [3])])
def impl_Vandermonde.B4 : List Nat := [0, 1, 0, 4, 3, 31]
theorem impl_Vandermonde.tab4 : rtab .any (opsOf Tryd.f26 4) = impl_Vandermonde.T4 := by kernel_rfl
theorem impl_Vandermonde.bits4 : waitsOk impl_Vandermonde.T4.2 impl_Vandermonde.B4 = true := by kernel_rfl
set_option maxHeartbeats 8000000 in
set_option maxRecDepth 100000 in
theorem impl_Vandermonde.calls (k : Nat) (a0 a1 : Int) (r1 : List (List Int)) (r2 : Bool) (w : World) (hGE : GlobE w) (hGF : GlobF w) (h : impl_Vandermonde.f k a0 a1 = some (r1, r2)) :
    Calls Tryd.prog 26 #[.int .i64 a0, .int .i64 a1] w fun e w' => ∃ v0_ : Value, e = .returned (.tuple #[v0_, .bool r2]) ∧ Kd.S (Kd.slice 5 (Kd.int .u8)) 22 w' w.heap.size (fun _ => True) v0_ r1 ∧ Below w.heap.size w w' := by
  unfold impl_Vandermonde.f at h
  by_cases hx : a0 < 1 ∨ a1 < 1 ∨ 256 < a0 ∨ 256 < a1
  · rw [if_pos hx] at h
    cases h
  rw [if_neg hx] at h
  obtain ⟨n, rfl⟩ := Int.eq_ofNat_of_zero_le (show 0 ≤ a0 by omega)
  obtain ⟨c, rfl⟩ := Int.eq_ofNat_of_zero_le (show 0 ≤ a1 by omega)
  obtain ⟨⟨t1, t2⟩, hnm, h⟩ := Option.bind_eq_some_iff.mp h
  rw [Int.toNat_natCast, Int.toNat_natCast] at h
  by_cases hok : t2.isNone = true ∧ vOk t1 n c = true
  · replace h : (impl_rows.f k (rowsM n c gexp)).bind (fun z => some (z, true)) = some (r1, r2) := by rw [if_pos hok] at h; exact h
    obtain ⟨hok1, hok2⟩ := hok
    obtain rfl : t2 = none := by cases t2 with
      | none => rfl
      | some _ => cases hok1
    obtain ⟨z, hz, h⟩ := Option.bind_eq_some_iff.mp h
    simp only [Option.some.injEq, Prod.mk.injEq] at h
    obtain ⟨rfl, rfl⟩ := h
    have hu52 := Tryd.underlying52
    have d1 : decide ((n : Int) < 1) = false := decide_eq_false (by omega)
    have d2 : decide ((c : Int) < 1) = false := decide_eq_false (by omega)
    have d3 : decide (256 < (n : Int)) = false := decide_eq_false (by omega)
    have d4 : decide (256 < (c : Int)) = false := decide_eq_false (by omega)
    have hn : 0 < n := by omega
    have hn2 : n ≤ 256 := by omega
    have hc : 0 < c := by omega
    have hc2 : c ≤ 256 := by omega
    have HNM := Aside0.mk hnm
    have HOK := Aside0.mk hok2
    have HZ := Aside0.mk hz
    clear hnm hok1 hok2 hz hx
    have HB := Aside0.mk (Below.refl w.heap.size w)
    have HLN := Aside0.mk (rowsM_length n c gexp)
    go_enter Tryd.func26, Tryd.ntmps26
    go_wp2_with (first | ((with_reducible refine gate_callee (f := 41) rfl ?_); refine goesL_ (some 25) rfl rfl Tryd.func41 (by kernel_rfl) rfl #[.int .i64 (n : Int), .int .i64 (c : Int)] rfl (by (try simp only [List.map_toArray, List.map_cons, List.map_nil]); first | done | rfl) ?_; (with_reducible refine (reedsolomon_DoorVandermonde.calls n c k t1 hn hn2 hc hc2 _ (GlobE.below hGE (by repeat (first | (with_reducible first | exact HB.out | apply below_alloc | apply pw_below_drewN | apply below_drew1) | exact HB.out))) (GlobF.below hGF (by repeat (first | (with_reducible first | exact HB.out | apply below_alloc | apply pw_below_drewN | apply below_drew1) | exact HB.out))) HNM.out HOK.out).mono ?_); rintro e w8 ⟨g, cp, b, cap, rfl, h1, h2, h3⟩; refine ⟨_, rfl, ?_⟩; have H1 := Aside0.mk h1; have H2 := Aside0.mk h2; have n1_ := Aside0.mk (below_step (by repeat (first | (with_reducible first | exact HB.out | apply below_alloc | apply pw_below_drewN | apply below_drew1) | exact HB.out)) h3); clear HB; have HB := n1_; clear n1_ h1 h2 h3))
    refine start_ (n := 6) (S := fun w' => True) (ds := []) #[false, false, false, false, false, false] (by kernel_rfl) rfl rfl (trivial) (fun hHeld => ?_)
    refine with_tabW impl_Vandermonde.tab4 impl_Vandermonde.bits4 (fun HT_ HW_ => ?_)
    refine pure_ (i := 0) (N := (some 28)) (v := ?_) (a' := ?_) #[true, false, false, false, false, false] rfl rfl (any_of HT_.out (by kernel_rfl)) (fun _ _ _ h => h) (Or.inl ⟨by rfl, ?_⟩) ?_ ?_
    rotate_left
    · intro w'
      go_simp
      with_reducible rfl
    rotate_left
    · simp only [Act.put, List.setIfInBounds_toArray, List.set_cons_zero, List.set_cons_succ, i64_w, i32_w]
      rfl
    refine pure_ (i := 2) (N := (some 30)) (v := ?_) (a' := ?_) #[true, false, true, false, false, false] rfl rfl (any_of HT_.out (by kernel_rfl)) (fun _ _ _ h => h) (Or.inl ⟨by rfl, ?_⟩) ?_ ?_
    rotate_left
    · intro w'
      go_simp
      with_reducible rfl
    rotate_left
    · simp only [Act.put, List.setIfInBounds_toArray, List.set_cons_zero, List.set_cons_succ, i64_w, i32_w]
      rfl
    refine pure_ (i := 3) (N := (some 31)) (v := ?_) (a' := ?_) #[true, false, true, true, false, false] rfl rfl (any_of HT_.out (by kernel_rfl)) (fun _ _ _ h => h) (Or.inl ⟨by rfl, ?_⟩) ?_ ?_
    rotate_left
    · intro w'
      go_simp
      with_reducible rfl
    rotate_left
    · simp only [Act.put, List.setIfInBounds_toArray, List.set_cons_zero, List.set_cons_succ, i64_w, i32_w]
      rfl
    refine one_ (i := 1) (N := (some 29)) #[true, true, true, true, false, false] rfl rfl (one_of HT_.out (by kernel_rfl)) (by decide) (fun K hK => ?_)
    refine goes_ Tryd.func36 (by kernel_rfl) rfl #[.slice (some ⟨g, 0, none⟩) n cp] (by rfl) rfl rfl (by (try simp only [List.map_toArray, List.map_cons, List.map_nil]); first | done | rfl) ?_
    (refine calls_of_args (args' := #[.slice (some ⟨g, 0, none⟩) (rowsM n c gexp).length cp]) (by rw [HLN.out]) ?_)
    with_reducible refine (impl_rows.calls k _ _ (rowsM n c gexp) z _ (by rw [HLN.out]; exact H2.out.drew.reads (by omega) (by omega)) (by rw [HLN.out]; exact H1.out) HZ.out).mono ?_
    rintro e6 w6 ⟨v0, rfl, ho, hb⟩
    refine ⟨_, rfl, ?_⟩
    have HO := Aside0.mk (Kd.S_lower ho (below_size (below_drew1 HB.out)))
    have HB1 := Aside0.mk (below_step (below_drew1 HB.out) hb)
    clear ho hb HB
    refine hK.out _ _ trivial (fun hHeld => ?_)
    clear hK K
    refine norm_ (a' := ?_) ?_ ?_
    rotate_left
    · show Act.put _ (some 29) _ = _
      simp only [Act.put, List.setIfInBounds_toArray, List.set_cons_zero, List.set_cons_succ, i64_w, i32_w]
      rfl
    refine pure_ (i := 4) (N := (some 4)) (v := ?_) (a' := ?_) #[true, true, true, true, true, false] rfl rfl (any_of HT_.out (by kernel_rfl)) (fun _ _ _ h => h) (Or.inl ⟨by rfl, ?_⟩) ?_ ?_
    rotate_left
    · intro w'
      go_simp
      with_reducible rfl
    rotate_left
    · simp only [Act.put, List.setIfInBounds_toArray, List.set_cons_zero, List.set_cons_succ, i64_w, i32_w]
      rfl
    refine pure_ (i := 5) (N := (some 5)) (v := ?_) (a' := ?_) #[true, true, true, true, true, true] rfl rfl (any_of HT_.out (by kernel_rfl)) (fun _ _ _ h => h) (Or.inl ⟨by rfl, ?_⟩) ?_ ?_
    rotate_left
    · intro w'
      go_simp
      with_reducible rfl
    rotate_left
    · simp only [Act.put, List.setIfInBounds_toArray, List.set_cons_zero, List.set_cons_succ, i64_w, i32_w]
      rfl
    refine done_ (done_of HT_.out (by kernel_rfl)) ?_
    go_wp2
    go_ret2
    exact ⟨_, rfl, HO.out, HB1.out⟩
  · replace h : none = some (r1, r2) := by rw [if_neg hok] at h; exact h
    cases h
end Go.Proofs.YtpeikjnkbjabpaaDoor.V
