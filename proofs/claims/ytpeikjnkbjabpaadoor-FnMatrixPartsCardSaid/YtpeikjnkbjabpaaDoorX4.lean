-- laid by xprint.py (a program of this session over the kit's print); Lean checks it
import Derived.Test.YtpeikjnkbjabpaaDoorX0
import Derived.Test.YtpeikjnkbjabpaaDoorX1
namespace Go.Proofs.YtpeikjnkbjabpaaDoor.X
open Go.RowKit Go.Proofs.YtpeikjnkbjabpaaDoorW.PrintWords Go.Proofs.YtpeikjnkbjabpaaDoorW.PrintLast Go.Proofs.YtpeikjnkbjabpaaDoorW.PrintMore
attribute [local go_sem] max2_int min2_int max_two min_two max_three min_three max_four min_four   -- for this text's walks alone
set_option linter.unusedVariables false
set_option linter.unusedSimpArgs false

/-! ### reedsolomon_matrix_SubMatrix: function 51 -/
mutual
def reedsolomon_matrix_SubMatrix.l0 : Nat → List (List Int) → Int → Int → Int → Int → List (List Int) → Int → Option ((List (List Int)) × Option Int)
  | 0, _, _, _, _, _, _, _ => none
  | k + 1, x0, x1, x2, x3, x4, x12, x14 => if x14 < x3 then (reedsolomon_matrix_SubMatrix.l1 k x0 x1 x2 x3 x4 x12 x14 x2) else (some (x12, none))
def reedsolomon_matrix_SubMatrix.l1 : Nat → List (List Int) → Int → Int → Int → Int → List (List Int) → Int → Int → Option ((List (List Int)) × Option Int)
  | 0, _, _, _, _, _, _, _, _ => none
  | k + 1, x0, x1, x2, x3, x4, x12, x14, x15 => if x15 < x4 then (if 0 ≤ (wrap64 (x14 - x1)) then (if (wrap64 (x14 - x1)) < (x12.length : Int) then (if 0 ≤ x14 then (if x14 < (x0.length : Int) then (if 0 ≤ x15 then (if x15 < ((rd_L1 x0 x14).length : Int) then (if 0 ≤ (wrap64 (x15 - x2)) then (if (wrap64 (x15 - x2)) < ((rd_L1 x12 (wrap64 (x14 - x1))).length : Int) then (reedsolomon_matrix_SubMatrix.l1 k x0 x1 x2 x3 x4 (x12.set ((wrap64 (x14 - x1)) : Int).toNat ((rd_L1 x12 (wrap64 (x14 - x1))).set ((wrap64 (x15 - x2)) : Int).toNat (rd (rd_L1 x0 x14) x15))) x14 (wrap64 (x15 + 1))) else (none)) else (none)) else (none)) else (none)) else (none)) else (none)) else (none)) else (none)) else (reedsolomon_matrix_SubMatrix.l0 k x0 x1 x2 x3 x4 x12 (wrap64 (x14 + 1)))
end
def reedsolomon_matrix_SubMatrix.f (k : Nat) (l0 : List (List Int)) (a1 : Int) (a2 : Int) (a3 : Int) (a4 : Int) : Option ((List (List Int)) × Option Int) := (reedsolomon_newMatrix.f k (wrap64 (a3 - a1)) (wrap64 (a4 - a2))).bind fun bt173 => (if bt173.2.isNone = true then (reedsolomon_matrix_SubMatrix.l0 k l0 a1 a2 a3 a4 bt173.1 a1) else (some (([] : List (List Int)), some (bt173.2.getD 0))))
theorem reedsolomon_matrix_SubMatrix.mono_l : ∀ k, (∀ y0 y1 y2 y3 y4 y5 y6, LeO (reedsolomon_matrix_SubMatrix.l0 k y0 y1 y2 y3 y4 y5 y6) (reedsolomon_matrix_SubMatrix.l0 (k + 1) y0 y1 y2 y3 y4 y5 y6)) ∧ (∀ y0 y1 y2 y3 y4 y5 y6 y7, LeO (reedsolomon_matrix_SubMatrix.l1 k y0 y1 y2 y3 y4 y5 y6 y7) (reedsolomon_matrix_SubMatrix.l1 (k + 1) y0 y1 y2 y3 y4 y5 y6 y7))
  | 0 => ⟨fun _ _ _ _ _ _ _ r h => by simp [reedsolomon_matrix_SubMatrix.l0] at h, fun _ _ _ _ _ _ _ _ r h => by simp [reedsolomon_matrix_SubMatrix.l1] at h⟩
  | k + 1 => by
    obtain ⟨ih0, ih1⟩ := reedsolomon_matrix_SubMatrix.mono_l k
    refine ⟨?_, ?_⟩
    · intro y0 y1 y2 y3 y4 y5 y6
      unfold reedsolomon_matrix_SubMatrix.l0
      repeat' first
      | (with_reducible exact ih0 _ _ _ _ _ _ _)
      | (with_reducible exact ih1 _ _ _ _ _ _ _ _)
      | (with_reducible exact reedsolomon_newMatrix.mono _ _ _)
      | (with_reducible exact LeO.refl _)
      | (with_reducible exact LeO.none _)
      | (with_reducible refine LeO.ite ?_ ?_)
      | (with_reducible refine LeO.bind ?_ (fun _ => ?_))
      | exact ih0 _ _ _ _ _ _ _
      | exact ih1 _ _ _ _ _ _ _ _
      | exact reedsolomon_newMatrix.mono _ _ _
      | exact LeO.none _
      | refine LeO.ite ?_ ?_
      | refine LeO.bind ?_ (fun _ => ?_)
    · intro y0 y1 y2 y3 y4 y5 y6 y7
      unfold reedsolomon_matrix_SubMatrix.l1
      repeat' first
      | (with_reducible exact ih0 _ _ _ _ _ _ _)
      | (with_reducible exact ih1 _ _ _ _ _ _ _ _)
      | (with_reducible exact reedsolomon_newMatrix.mono _ _ _)
      | (with_reducible exact LeO.refl _)
      | (with_reducible exact LeO.none _)
      | (with_reducible refine LeO.ite ?_ ?_)
      | (with_reducible refine LeO.bind ?_ (fun _ => ?_))
      | exact ih0 _ _ _ _ _ _ _
      | exact ih1 _ _ _ _ _ _ _ _
      | exact reedsolomon_newMatrix.mono _ _ _
      | exact LeO.none _
      | refine LeO.ite ?_ ?_
      | refine LeO.bind ?_ (fun _ => ?_)
theorem reedsolomon_matrix_SubMatrix.mono : ∀ a0 a1 a2 a3 a4 k, LeO (reedsolomon_matrix_SubMatrix.f k a0 a1 a2 a3 a4) (reedsolomon_matrix_SubMatrix.f (k + 1) a0 a1 a2 a3 a4) := by
  intro a0 a1 a2 a3 a4 k
  obtain ⟨ih0, ih1⟩ := reedsolomon_matrix_SubMatrix.mono_l k
  unfold reedsolomon_matrix_SubMatrix.f
  repeat' first
      | (with_reducible exact ih0 _ _ _ _ _ _ _)
      | (with_reducible exact ih1 _ _ _ _ _ _ _ _)
      | (with_reducible exact reedsolomon_newMatrix.mono _ _ _)
      | (with_reducible exact LeO.refl _)
      | (with_reducible exact LeO.none _)
      | (with_reducible refine LeO.ite ?_ ?_)
      | (with_reducible refine LeO.bind ?_ (fun _ => ?_))
      | exact ih0 _ _ _ _ _ _ _
      | exact ih1 _ _ _ _ _ _ _ _
      | exact reedsolomon_newMatrix.mono _ _ _
      | exact LeO.none _
      | refine LeO.ite ?_ ?_
      | refine LeO.bind ?_ (fun _ => ?_)
def reedsolomon_matrix_SubMatrix.T10 : Bool × List (List Nat × List Nat) := (true, [([], []), ([], []), ([], []), ([1, 2], [1, 2]), ([0, 3], [0, 3]), ([4], [4]), ([], []), ([], []), ([6, 7], [6, 7]), ([], []), ([], []), ([9, 10], [9, 10]), ([11], [11]), ([], []), ([12, 13], [12, 13]), ([14], [14]), ([5, 8, 0, 1, 2, 3, 4, 5, 6, 7, 8, 9, 10, 11, 12, 13, 14, 15], [5, 8]), ([16, 15, 0, 1, 2, 3, 4, 5, 6, 7, 8, 9, 10, 11, 12, 13, 14, 15], [15, 16])])
def reedsolomon_matrix_SubMatrix.B10 : List Nat := [0, 0, 0, 6, 15, 31, 0, 0, 192, 0, 0, 1536, 3584, 0, 15872, 32256, 65535, 131071]
theorem reedsolomon_matrix_SubMatrix.tab10 : rtab .any (opsOf Tryd.f51 10) = reedsolomon_matrix_SubMatrix.T10 := by kernel_rfl
theorem reedsolomon_matrix_SubMatrix.bits10 : waitsOk reedsolomon_matrix_SubMatrix.T10.2 reedsolomon_matrix_SubMatrix.B10 = true := by kernel_rfl
set_option maxHeartbeats 8000000 in
set_option maxRecDepth 100000 in
theorem reedsolomon_matrix_SubMatrix.calls (k : Nat) (A0 : Option Addr) (c0 : Nat) (l0 : List (List Int)) (a1 : Int) (a2 : Int) (a3 : Int) (a4 : Int) (r1 : List (List Int)) (r2 : Option Int) (w : World) (hGE : GlobE w) (hr0 : Kd.C (Kd.slice 5 (Kd.int .u8)) w A0 l0.length l0) (hc0 : l0.length ≤ c0) (h : reedsolomon_matrix_SubMatrix.f k l0 a1 a2 a3 a4 = some (r1, r2)) :
    Calls Tryd.prog 51 #[.slice A0 l0.length c0, .int .i64 a1, .int .i64 a2, .int .i64 a3, .int .i64 a4] w fun e w' => ∃ v0_ : Value, ∃ q1_ : Addr, e = .returned (.tuple #[v0_, errW q1_ r2]) ∧ Kd.S (Kd.slice 5 (Kd.int .u8)) 22 w' w.heap.size (fun _ => True) v0_ r1 ∧ Below w.heap.size w w' := by
  have hu52 := Tryd.underlying52
  have HR0 := Aside0.mk hr0
  have HC0 := Aside0.mk hc0
  clear hr0 hc0
  have HB := Aside0.mk (Below.refl w.heap.size w)
  have H : ((reedsolomon_newMatrix.f k (wrap64 (a3 - a1)) (wrap64 (a4 - a2))).bind fun bt173 => (if bt173.2.isNone = true then (reedsolomon_matrix_SubMatrix.l0 k l0 a1 a2 a3 a4 bt173.1 a1) else (some (([] : List (List Int)), some (bt173.2.getD 0))))) = some (r1, r2) := h
  clear h
  replace H := Option.bind_eq_some_iff.mp H
  obtain ⟨⟨t173, t174⟩, A60, H⟩ := H
  replace H : (if t174.isNone = true then (reedsolomon_matrix_SubMatrix.l0 k l0 a1 a2 a3 a4 t173 a1) else (some (([] : List (List Int)), some (t174.getD 0)))) = some (r1, r2) := H
  have A6 := Aside0.mk A60
  clear A60
  rcases t174 with _ | q178
  · have H1 : (reedsolomon_matrix_SubMatrix.l0 k l0 a1 a2 a3 a4 t173 a1) = some (r1, r2) := by rw [if_pos (show (none : Option Int).isNone = true by rfl)] at H; exact H
    clear H
    have H := H1
    clear H1
    try simp only [errW_none, errW_some]
    have H' := Aside0.mk H
    clear H
    go_enter Tryd.func51, Tryd.ntmps51
    go_wp2_with (first | ((with_reducible refine gate_callee (f := 58) rfl ?_); refine goesL_ (some 23) rfl rfl Tryd.func58 (by kernel_rfl) rfl #[.int .i64 (wrap64 (a3 - a1)), .int .i64 (wrap64 (a4 - a2))] rfl (by (try simp only [List.map_toArray, List.map_cons, List.map_nil]); first | done | rfl | (simp only [List.length_drop, List.length_take]; rfl)) ?_; (with_reducible refine (reedsolomon_newMatrix.calls k (wrap64 (a3 - a1)) (wrap64 (a4 - a2)) t173 none _ ?side1 A6.out).mono ?_); (case side1 => exact GlobE.below hGE (by repeat (first | (with_reducible first | exact HB.out | apply below_alloc | apply pw_below_drewN | apply below_drew1) | exact HB.out))); rintro e w7 ⟨v175, qe177, rfl, ho0, hb⟩; refine ⟨_, rfl, ?_⟩; have n0_ := Aside0.mk (Kd.S_lower ho0 (below_size (by repeat (first | (with_reducible first | exact HB.out | apply below_alloc | apply pw_below_drewN | apply below_drew1) | exact HB.out)))); have n1_ := Aside0.mk (below_step (by repeat (first | (with_reducible first | exact HB.out | apply below_alloc | apply pw_below_drewN | apply below_drew1) | exact HB.out)) hb); clear HB; have HO176 := n0_; have HB := n1_; clear n0_ n1_; (try clear hb); (try clear hb2); (try clear hk); (try clear hi); (try clear ho0); (try simp only [errW_none, errW_some])))
    try simp only [Act.put, List.setIfInBounds_toArray, List.set_cons_zero, List.set_cons_succ]
    go_loopg [14] k (fun kq v14 w' => ∃ (x12_1 : List (List Int)) (x14_1 : Int), v14 = .int .i64 x14_1 ∧ Aside0 (reedsolomon_matrix_SubMatrix.l0 kq l0 a1 a2 a3 a4 x12_1 x14_1 = some (r1, r2)) ∧ Aside0 (kq ≤ k) ∧ Aside0 (Kd.S (Kd.slice 5 (Kd.int .u8)) 22 w' w.heap.size (fun _ => True) v175 x12_1) ∧ Aside0 (Below w.heap.size w w'))
    case atStart => exact ⟨(t173), (a1), (by first | rfl | (simp; done) | (simp [*]; done)), H', ⟨Nat.le_refl _⟩, ⟨by (with_reducible repeat (first | apply Kd.S_alloc | apply Kd.S_drewN | apply Kd.S_drew)); exact HO176.out⟩, ⟨by repeat (first | (with_reducible first | exact HB.out | apply below_alloc | apply pw_below_drewN | apply below_drew1) | exact HB.out)⟩⟩
    case round =>
      clear H'
      try clear q1
      try clear p2
      try clear c5
      try clear p6
      try clear q178
      obtain ⟨x12_1, x14_1, rfl, HA, HK1, HO_12, HB⟩ := hrel
      cases gk with
      | zero => exact absurd HA.out (by simp [reedsolomon_matrix_SubMatrix.l0])
      | succ k1 =>
        have H := HA.out
        clear HA
        simp only [reedsolomon_matrix_SubMatrix.l0] at H
        by_cases c8 : x14_1 < a3
        · rw [if_pos c8] at H
          have c8b0 : decide (x14_1 < a3) = true := decide_eq_true c8
          clear c8
          have H' := Aside0.mk H
          clear H
          go_wp2
          try simp only [Act.put, List.setIfInBounds_toArray, List.set_cons_zero, List.set_cons_succ]
          go_loopg [15] k1 (fun kq v15 w' => ∃ (x12_2 : List (List Int)) (x15_2 : Int), v15 = .int .i64 x15_2 ∧ Aside0 (reedsolomon_matrix_SubMatrix.l1 kq l0 a1 a2 a3 a4 x12_2 x14_1 x15_2 = some (r1, r2)) ∧ Aside0 (kq ≤ k1) ∧ Aside0 (Kd.S (Kd.slice 5 (Kd.int .u8)) 22 w' w.heap.size (fun _ => True) v175 x12_2) ∧ Aside0 (Below w.heap.size w w'))
          case atStart => exact ⟨(x12_1), (a2), (by first | rfl | (simp; done) | (simp [*]; done)), H', ⟨Nat.le_refl _⟩, ⟨by (with_reducible repeat (first | apply Kd.S_alloc | apply Kd.S_drewN | apply Kd.S_drew)); exact HO_12.out⟩, ⟨by repeat (first | (with_reducible first | exact HB.out | apply below_alloc | apply pw_below_drewN | apply below_drew1) | exact HB.out)⟩⟩
          case round =>
            clear H'
            try clear q1
            try clear p2
            try clear c5
            try clear p6
            try clear c8
            try clear c8b0
            try clear p2
            try clear p6
            try clear q1
            try clear q178
            obtain ⟨x12_2, x15_2, rfl, HA, HK2, HO_12, HB⟩ := hrel
            cases gk with
            | zero => exact absurd HA.out (by simp [reedsolomon_matrix_SubMatrix.l1])
            | succ k2 =>
              have H := HA.out
              clear HA
              simp only [reedsolomon_matrix_SubMatrix.l1] at H
              by_cases c9 : x15_2 < a4
              · rw [if_pos c9] at H
                have c9b0 : decide (x15_2 < a4) = true := decide_eq_true c9
                clear c9
                obtain ⟨ji10, hji10⟩ : ∃ j_ : Int, (wrap64 (x14_1 - a1)) = j_ := ⟨_, rfl⟩
                replace H : (if 0 ≤ (ji10) then (if (ji10) < (x12_2.length : Int) then (if 0 ≤ x14_1 then (if x14_1 < (l0.length : Int) then (if 0 ≤ x15_2 then (if x15_2 < ((rd_L1 l0 x14_1).length : Int) then (if 0 ≤ (wrap64 (x15_2 - a2)) then (if (wrap64 (x15_2 - a2)) < ((rd_L1 x12_2 (ji10)).length : Int) then (reedsolomon_matrix_SubMatrix.l1 k2 l0 a1 a2 a3 a4 (x12_2.set ((ji10) : Int).toNat ((rd_L1 x12_2 (ji10)).set ((wrap64 (x15_2 - a2)) : Int).toNat (rd (rd_L1 l0 x14_1) x15_2))) x14_1 (wrap64 (x15_2 + 1))) else (none)) else (none)) else (none)) else (none)) else (none)) else (none)) else (none)) else (none)) = some (r1, r2) := by first | (rw [hji10] at H; exact H) | (simp only [hji10] at H ⊢; exact H)
                have hji10w : (IntKind.i64.wrap (x14_1 - a1)) = ji10 := (i64_w _).trans hji10
                by_cases c11 : 0 ≤ (ji10)
                · rw [if_pos c11] at H
                  have c11b0 : decide (0 ≤ (ji10)) = true := decide_eq_true c11
                  clear c11
                  by_cases c12 : (ji10) < (x12_2.length : Int)
                  · rw [if_pos c12] at H
                    have c12b0 : decide ((ji10) < (x12_2.length : Int)) = true := decide_eq_true c12
                    clear c12
                    by_cases c13 : 0 ≤ x14_1
                    · rw [if_pos c13] at H
                      have c13b0 : decide (0 ≤ x14_1) = true := decide_eq_true c13
                      clear c13
                      by_cases c14 : x14_1 < (l0.length : Int)
                      · rw [if_pos c14] at H
                        have c14b0 : decide (x14_1 < (l0.length : Int)) = true := decide_eq_true c14
                        clear c14
                        by_cases c15 : 0 ≤ x15_2
                        · rw [if_pos c15] at H
                          have c15b0 : decide (0 ≤ x15_2) = true := decide_eq_true c15
                          clear c15
                          by_cases c16 : x15_2 < ((rd_L1 l0 x14_1).length : Int)
                          · rw [if_pos c16] at H
                            have c16b0 : decide (x15_2 < ((rd_L1 l0 x14_1).length : Int)) = true := decide_eq_true c16
                            clear c16
                            obtain ⟨ji17, hji17⟩ : ∃ j_ : Int, (wrap64 (x15_2 - a2)) = j_ := ⟨_, rfl⟩
                            replace H : (if 0 ≤ (ji17) then (if (ji17) < ((rd_L1 x12_2 (ji10)).length : Int) then (reedsolomon_matrix_SubMatrix.l1 k2 l0 a1 a2 a3 a4 (x12_2.set ((ji10) : Int).toNat ((rd_L1 x12_2 (ji10)).set ((ji17) : Int).toNat (rd (rd_L1 l0 x14_1) x15_2))) x14_1 (wrap64 (x15_2 + 1))) else (none)) else (none)) = some (r1, r2) := by first | (rw [hji17] at H; exact H) | (simp only [hji17] at H ⊢; exact H)
                            have hji17w : (IntKind.i64.wrap (x15_2 - a2)) = ji17 := (i64_w _).trans hji17
                            by_cases c18 : 0 ≤ (ji17)
                            · rw [if_pos c18] at H
                              have c18b0 : decide (0 ≤ (ji17)) = true := decide_eq_true c18
                              clear c18
                              by_cases c19 : (ji17) < ((rd_L1 x12_2 (ji10)).length : Int)
                              · rw [if_pos c19] at H
                                have c19b0 : decide ((ji17) < ((rd_L1 x12_2 (ji10)).length : Int)) = true := decide_eq_true c19
                                clear c19
                                obtain ⟨y182, hy182⟩ : ∃ y_ : List Int, y_ = ((rd_L1 x12_2 (ji10)).set ((ji17) : Int).toNat (rd (rd_L1 l0 x14_1) x15_2)) := ⟨_, rfl⟩
                                replace H : (reedsolomon_matrix_SubMatrix.l1 k2 l0 a1 a2 a3 a4 (x12_2.set ((ji10) : Int).toNat y182) x14_1 (wrap64 (x15_2 + 1))) = some (r1, r2) := by first | (rw [hy182]; with_reducible exact H) | (have H2_ := (Option.bind_some _ _).symm.trans H; rw [hy182]; with_reducible exact H2_) | (have H2_ := (Option.bind_some _ _).symm.trans H; with_reducible exact H2_) | with_reducible exact H | (rw [hy182]; exact H) | exact H
                                have Ny182 := Aside0.mk hy182
                                clear hy182
                                obtain ⟨y184, hy184⟩ : ∃ y_ : List (List Int), y_ = (x12_2.set ((ji10) : Int).toNat y182) := ⟨_, rfl⟩
                                replace H : (reedsolomon_matrix_SubMatrix.l1 k2 l0 a1 a2 a3 a4 y184 x14_1 (wrap64 (x15_2 + 1))) = some (r1, r2) := by first | (rw [hy184]; with_reducible exact H) | (have H2_ := (Option.bind_some _ _).symm.trans H; rw [hy184]; with_reducible exact H2_) | (have H2_ := (Option.bind_some _ _).symm.trans H; with_reducible exact H2_) | with_reducible exact H | (rw [hy184]; exact H) | exact H
                                have Ny184 := Aside0.mk hy184
                                clear hy184
                                have H' := Aside0.mk H
                                clear H
                                try go_wp2
                                have n0_ := Aside0.mk (Kd.S_drew HO_12.out)
                                have n1_ := Aside0.mk (below_drew1 HB.out)
                                clear HO_12
                                clear HB
                                have HO_12 := n0_
                                have HB := n1_
                                clear n0_ n1_
                                obtain ⟨Ao22, co22, eo22⟩ := Kd.S_slice HO_12.out
                                (first | subst eo22 | (injection eo22 with f1_ f2_ f3_; have f4_ := f1_.symm; have f5_ := f3_.symm; clear f1_ f2_ f3_; subst f4_; subst f5_))
                                have p179 : 0 ≤ ((ji10) : Int) := of_decide_eq_true (by first | (with_reducible assumption) | assumption)
                                have q179 : (ji10) < (x12_2.length : Int) := of_decide_eq_true (by first | (with_reducible assumption) | assumption)
                                obtain ⟨ad179, A179_0, c179_0, e179, hx179_0, hl179_0, hi179_0⟩ := at_L1 (Kd.S_reads' HO_12.out).2.2 (ji10) p179 q179
                                cases e179
                                obtain ⟨ce179, hce179, hMe179, hcc179⟩ := Kd.S_get HO_12.out [] (ji10) p179 (by first | exact q179 | exact of_decide_eq_true (by first | (with_reducible assumption) | assumption) | (have e_ := (Kd.S_reads' HO_12.out).1; omega))
                                obtain ⟨ve179_0, rfl, ge179_0⟩ := hMe179
                                have hv179_0 := hcc179 0 _ rfl
                                rw [Nat.add_zero, show ((Kd.slice 5 (Kd.int .u8))).sz = 1 from rfl, Nat.mul_one] at hv179_0
                                replace hv179_0 := Option.some.inj (hv179_0.symm.trans hx179_0)
                                rw [hv179_0] at ge179_0
                                have HL179_0 := Aside0.mk (show Kd.R (Kd.int .u8) 5 _ _ _ _ (rd_L1 x12_2 (ji10)) from ge179_0)
                                clear hv179_0 ge179_0
                                have HX179_0 := Aside0.mk hx179_0
                                clear hcc179 hce179
                                have HR179_0 := Aside0.mk hi179_0
                                have HC179_0 := Aside0.mk hl179_0
                                clear hi179_0 hl179_0
                                replace p179 := eq_true p179
                                replace q179 := eq_true q179
                                have p180 : 0 ≤ (x14_1 : Int) := of_decide_eq_true (by first | (with_reducible assumption) | assumption)
                                have q180 : x14_1 < (l0.length : Int) := of_decide_eq_true (by first | (with_reducible assumption) | assumption)
                                obtain ⟨ad180, A180_0, c180_0, e180, hx180_0, hl180_0, hi180_0⟩ := at_L1 HR0.out x14_1 p180 q180
                                have hw180_0 := hx180_0
                                cases e180
                                (try replace hx180_0 := (HB.out.cell (World.block_lt_of_cell? w _ hx180_0)).trans hx180_0)
                                have HR180_0 := Aside0.mk hi180_0
                                have HC180_0 := Aside0.mk hl180_0
                                clear hi180_0 hl180_0
                                replace p180 := eq_true p180
                                replace q180 := eq_true q180
                                have p181 : 0 ≤ (x15_2 : Int) := of_decide_eq_true (by first | (with_reducible assumption) | assumption)
                                have q181 : x15_2 < ((rd_L1 l0 x14_1).length : Int) := of_decide_eq_true (by first | (with_reducible assumption) | assumption)
                                obtain ⟨ad181, e181, hx181_0⟩ := Kd.at_int HR180_0.out x15_2 p181 q181
                                have hw181_0 := hx181_0
                                cases e181
                                (try replace hx181_0 := (HB.out.cell (World.block_lt_of_cell? w _ hx181_0)).trans hx181_0)
                                replace p181 := eq_true p181
                                replace q181 := eq_true q181
                                have p20 : 0 ≤ ((ji17) : Int) := of_decide_eq_true (by first | (with_reducible assumption) | assumption)
                                have q20 : ((ji17) : Int) < (((rd_L1 x12_2 (ji10)).length : Int) : Int) := of_decide_eq_true (by first | (with_reducible assumption) | assumption)
                                obtain ⟨go20, co20, eo20, gb20, gl20, cl20, HG20⟩ := Kd.R_form HL179_0.out (by omega)
                                (first | cases eo20 | (injection eo20 with ea_ en_ ec_; (first | subst ea_ | (injection ea_ with ea_; subst ea_)); subst ec_; clear en_))
                                have GB20 := Aside0.mk gb20
                                have GG20 := Aside0.mk HG20
                                clear gb20 gl20 HG20
                                obtain ⟨hx20_0, hf20_0⟩ := Kd.R_celln 0 HL179_0.out ((ji17) : Int) p20 q20
                                replace p20 := eq_true p20
                                replace q20 := eq_true q20
                                have hq23 : ((ji10) : Int) < (x12_2.length : Int) := (by have h_ : ((ji10) : Int) < ((x12_2.length : Int) : Int) := of_decide_eq_true (by first | (with_reducible assumption) | assumption); first | exact h_ | (have e_ := (Kd.S_reads' HO_12.out).1; omega) | simpa only [List.length_set, List.length_set] using h_)
                                obtain ⟨oki23, ce23, hcl23, hM23, hcc23, hok23, hbk23⟩ := Kd.S_borrow HO_12.out [] ((ji10) : Int) (of_decide_eq_true (by first | (with_reducible assumption) | assumption)) hq23
                                obtain ⟨ve23_0, rfl, ge23_0⟩ := hM23
                                have hv23 := hcc23 0 _ rfl
                                rw [Nat.add_zero, show ((Kd.slice 5 (Kd.int .u8))).sz = 1 from rfl, Nat.mul_one] at hv23
                                replace hv23 := Option.some.inj (hv23.symm.trans HX179_0.out)
                                subst hv23
                                clear hcc23 hcl23
                                replace ge23_0 := (show Kd.R (Kd.int .u8) 5 _ _ _ _ (rd_L1 x12_2 (ji10)) from ge23_0)
                                have HP23 := Kd.R_putg ge23_0 ((ji17) : Int) (rd (rd_L1 l0 x14_1) x15_2)
                                rw [← Ny182.out] at HP23
                                have HS23 := hbk23 HP23.2 (fun k_ e_ => by injection e_ with e_; subst e_; exact ge23_0.1 _ rfl) (x' := y182) (Kd.M_row HP23.1)
                                rw [← Ny184.out] at HS23
                                have HQ23 := Aside0.mk HS23
                                clear HP23 HS23 hbk23 hok23
                                refine start_ (n := 18) (S := fun w' => w'.cell? (ad179.add ((ji10)).toNat) = some (.slice (some ⟨go20, 0, none⟩) (rd_L1 x12_2 (ji10)).length c179_0) ∧ w'.cell? (ad180.add (x14_1).toNat) = some (.slice (some ad181) (rd_L1 l0 x14_1).length c180_0) ∧ w'.cell? (ad181.add (x15_2).toNat) = some (.int .u8 (rd (rd_L1 l0 x14_1) x15_2))) (ds := [17]) #[false, false, false, false, false, false, false, false, false, false, false, false, false, false, false, false, false, false] (by kernel_rfl) rfl rfl ⟨hx179_0, ((HB.out.cell (World.block_lt_of_cell? w _ hw180_0)).trans hw180_0), ((HB.out.cell (World.block_lt_of_cell? w _ hw181_0)).trans hw181_0)⟩ (fun hHeld => ?_); refine with_tabW reedsolomon_matrix_SubMatrix.tab10 reedsolomon_matrix_SubMatrix.bits10 (fun HT_ HW_ => ?_)
                                generalize wr.drew = w21 at HO_12 HB GG20 HL179_0 HQ23 HR179_0 HR180_0 HX179_0 hf20_0 hx179_0 hx180_0 hx181_0 hx20_0 hHeld ⊢
                                refine pure_ (i := 0) (N := some 41) (v := ?_) (a' := ?_) #[true, false, false, false, false, false, false, false, false, false, false, false, false, false, false, false, false, false] rfl rfl (any_of HT_.out (by kernel_rfl)) (fun _ _ _ h => h) (Or.inl ⟨by rfl, ?_⟩) ?_ ?_
                                rotate_left
                                · intro w'
                                  go_simp
                                  with_reducible rfl
                                rotate_left
                                · simp only [Act.put, List.setIfInBounds_toArray, List.set_cons_zero, List.set_cons_succ, i64_w, i32_w]
                                  rfl
                                refine pure_ (i := 1) (N := some 42) (v := ?_) (a' := ?_) #[true, true, false, false, false, false, false, false, false, false, false, false, false, false, false, false, false, false] rfl rfl (any_of HT_.out (by kernel_rfl)) (fun _ _ _ h => h) (Or.inl ⟨by rfl, ?_⟩) ?_ ?_
                                rotate_left
                                · intro w'
                                  go_simp
                                  with_reducible rfl
                                rotate_left
                                · simp only [Act.put, List.setIfInBounds_toArray, List.set_cons_zero, List.set_cons_succ, i64_w, i32_w]
                                  rfl
                                refine pure_ (i := 2) (N := some 43) (v := ?_) (a' := ?_) #[true, true, true, false, false, false, false, false, false, false, false, false, false, false, false, false, false, false] rfl rfl (any_of HT_.out (by kernel_rfl)) (fun _ _ _ h => h) (Or.inl ⟨by rfl, ?_⟩) ?_ ?_
                                rotate_left
                                · intro w'
                                  go_simp
                                  with_reducible rfl
                                rotate_left
                                · simp only [Act.put, List.setIfInBounds_toArray, List.set_cons_zero, List.set_cons_succ, i64_w, i32_w]
                                  rfl
                                refine pure_ (i := 3) (N := some 44) (v := ?_) (a' := ?_) #[true, true, true, true, false, false, false, false, false, false, false, false, false, false, false, false, false, false] rfl rfl (any_of HT_.out (by kernel_rfl)) (fun _ _ _ h => h) (Or.inl ⟨by rfl, ?_⟩) ?_ ?_
                                rotate_left
                                · intro w'
                                  go_simp
                                  with_reducible rfl
                                rotate_left
                                · simp only [Act.put, List.setIfInBounds_toArray, List.set_cons_zero, List.set_cons_succ, i64_w, i32_w]
                                  rfl
                                refine pure_ (i := 4) (N := some 45) (v := ?_) (a' := ?_) #[true, true, true, true, true, false, false, false, false, false, false, false, false, false, false, false, false, false] rfl rfl (any_of HT_.out (by kernel_rfl)) (fun _ _ _ h => h) (Or.inl ⟨by rfl, ?_⟩) ?_ ?_
                                rotate_left
                                · intro w'
                                  go_simp
                                  with_reducible rfl
                                rotate_left
                                · simp only [Act.put, List.setIfInBounds_toArray, List.set_cons_zero, List.set_cons_succ, i64_w, i32_w]
                                  rfl
                                refine pure_ (i := 6) (N := some 47) (v := ?_) (a' := ?_) #[true, true, true, true, true, false, true, false, false, false, false, false, false, false, false, false, false, false] rfl rfl (any_of HT_.out (by kernel_rfl)) (fun _ _ _ h => h) (Or.inl ⟨by rfl, ?_⟩) ?_ ?_
                                rotate_left
                                · intro w'
                                  go_simp
                                  with_reducible rfl
                                rotate_left
                                · simp only [Act.put, List.setIfInBounds_toArray, List.set_cons_zero, List.set_cons_succ, i64_w, i32_w]
                                  rfl
                                refine pure_ (i := 7) (N := some 48) (v := ?_) (a' := ?_) #[true, true, true, true, true, false, true, true, false, false, false, false, false, false, false, false, false, false] rfl rfl (any_of HT_.out (by kernel_rfl)) (fun _ _ _ h => h) (Or.inl ⟨by rfl, ?_⟩) ?_ ?_
                                rotate_left
                                · intro w'
                                  go_simp
                                  with_reducible rfl
                                rotate_left
                                · simp only [Act.put, List.setIfInBounds_toArray, List.set_cons_zero, List.set_cons_succ, i64_w, i32_w]
                                  rfl
                                refine pure_ (i := 8) (N := some 49) (v := ?_) (a' := ?_) #[true, true, true, true, true, false, true, true, true, false, false, false, false, false, false, false, false, false] rfl rfl (any_of HT_.out (by kernel_rfl)) (fun _ _ _ h => h) (Or.inl ⟨by rfl, ?_⟩) ?_ ?_
                                rotate_left
                                · intro w'
                                  go_simp
                                  with_reducible rfl
                                rotate_left
                                · simp only [Act.put, List.setIfInBounds_toArray, List.set_cons_zero, List.set_cons_succ, i64_w, i32_w]
                                  rfl
                                refine pure_ (i := 9) (N := some 50) (v := ?_) (a' := ?_) #[true, true, true, true, true, false, true, true, true, true, false, false, false, false, false, false, false, false] rfl rfl (any_of HT_.out (by kernel_rfl)) (fun _ _ _ h => h) (Or.inl ⟨by rfl, ?_⟩) ?_ ?_
                                rotate_left
                                · intro w'
                                  go_simp
                                  with_reducible rfl
                                rotate_left
                                · simp only [Act.put, List.setIfInBounds_toArray, List.set_cons_zero, List.set_cons_succ, i64_w, i32_w]
                                  rfl
                                refine pure_ (i := 10) (N := some 51) (v := ?_) (a' := ?_) #[true, true, true, true, true, false, true, true, true, true, true, false, false, false, false, false, false, false] rfl rfl (any_of HT_.out (by kernel_rfl)) (fun _ _ _ h => h) (Or.inl ⟨by rfl, ?_⟩) ?_ ?_
                                rotate_left
                                · intro w'
                                  go_simp
                                  with_reducible rfl
                                rotate_left
                                · simp only [Act.put, List.setIfInBounds_toArray, List.set_cons_zero, List.set_cons_succ, i64_w, i32_w]
                                  rfl
                                refine pure_ (i := 11) (N := some 52) (v := ?_) (a' := ?_) #[true, true, true, true, true, false, true, true, true, true, true, true, false, false, false, false, false, false] rfl rfl (any_of HT_.out (by kernel_rfl)) (fun _ _ _ h => h) (Or.inl ⟨by rfl, ?_⟩) ?_ ?_
                                rotate_left
                                · intro w'
                                  go_simp
                                  with_reducible rfl
                                rotate_left
                                · simp only [Act.put, List.setIfInBounds_toArray, List.set_cons_zero, List.set_cons_succ, i64_w, i32_w]
                                  rfl
                                refine pure_ (i := 13) (N := some 54) (v := ?_) (a' := ?_) #[true, true, true, true, true, false, true, true, true, true, true, true, false, true, false, false, false, false] rfl rfl (any_of HT_.out (by kernel_rfl)) (fun _ _ _ h => h) (Or.inl ⟨by rfl, ?_⟩) ?_ ?_
                                rotate_left
                                · intro w'
                                  go_simp
                                  with_reducible rfl
                                rotate_left
                                · simp only [Act.put, List.setIfInBounds_toArray, List.set_cons_zero, List.set_cons_succ, i64_w, i32_w]
                                  rfl
                                refine take_ (i := 5) (N := some 46) (v := ?_) (a' := ?_) #[true, true, true, true, true, true, true, true, true, true, true, true, false, true, false, false, false, false] rfl rfl (take_ofW HT_.out HW_.out (by kernel_rfl)) (fun _ _ _ h => h) (Or.inl ⟨by rfl, ?_⟩) hHeld ?_ ?_
                                rotate_left
                                · rintro w' ⟨s0, s1, s2⟩
                                  go_simp
                                  with_reducible rfl
                                rotate_left
                                · simp only [Act.put, List.setIfInBounds_toArray, List.set_cons_zero, List.set_cons_succ, i64_w, i32_w]
                                  rfl
                                refine take_ (i := 12) (N := some 53) (v := ?_) (a' := ?_) #[true, true, true, true, true, true, true, true, true, true, true, true, true, true, false, false, false, false] rfl rfl (take_ofW HT_.out HW_.out (by kernel_rfl)) (fun _ _ _ h => h) (Or.inl ⟨by rfl, ?_⟩) hHeld ?_ ?_
                                rotate_left
                                · rintro w' ⟨s0, s1, s2⟩
                                  go_simp
                                  with_reducible rfl
                                rotate_left
                                · simp only [Act.put, List.setIfInBounds_toArray, List.set_cons_zero, List.set_cons_succ, i64_w, i32_w]
                                  rfl
                                refine pure_ (i := 14) (N := some 55) (v := ?_) (a' := ?_) #[true, true, true, true, true, true, true, true, true, true, true, true, true, true, true, false, false, false] rfl rfl (any_of HT_.out (by kernel_rfl)) (fun _ _ _ h => h) (Or.inl ⟨by rfl, ?_⟩) ?_ ?_
                                rotate_left
                                · intro w'
                                  go_simp
                                  with_reducible rfl
                                rotate_left
                                · simp only [Act.put, List.setIfInBounds_toArray, List.set_cons_zero, List.set_cons_succ, i64_w, i32_w]
                                  rfl
                                refine take_ (i := 15) (N := some 56) (v := ?_) (a' := ?_) #[true, true, true, true, true, true, true, true, true, true, true, true, true, true, true, true, false, false] rfl rfl (take_ofW HT_.out HW_.out (by kernel_rfl)) (fun _ _ _ h => h) (Or.inl ⟨by rfl, ?_⟩) hHeld ?_ ?_
                                rotate_left
                                · rintro w' ⟨s0, s1, s2⟩
                                  go_simp
                                  with_reducible rfl
                                rotate_left
                                · simp only [Act.put, List.setIfInBounds_toArray, List.set_cons_zero, List.set_cons_succ, i64_w, i32_w]
                                  rfl
                                refine pure_ (i := 16) (N := some 57) (v := ?_) (a' := ?_) #[true, true, true, true, true, true, true, true, true, true, true, true, true, true, true, true, true, false] rfl rfl (any_of HT_.out (by kernel_rfl)) (fun _ _ _ h => h) (Or.inl ⟨by rfl, ?_⟩) ?_ ?_
                                rotate_left
                                · intro w'
                                  go_simp
                                  with_reducible rfl
                                rotate_left
                                · simp only [Act.put, List.setIfInBounds_toArray, List.set_cons_zero, List.set_cons_succ, i64_w, i32_w]
                                  rfl
                                refine last_ (i := 17) (N := none) #[true, true, true, true, true, true, true, true, true, true, true, true, true, true, true, true, true, true] rfl rfl (one_of HT_.out (by kernel_rfl)) (by decide) (fun K hK => ?_)
                                refine skip_ (w1 := ?_) (by rfl) rfl ?_ ?_
                                rotate_left
                                · go_simp
                                  rfl
                                refine hK.out _ _ ?_
                                clear hK K
                                refine done_ (done_of HT_.out (by kernel_rfl)) ?_
                                try go_wp2
                                go_roundg k2
                                case measure => have := HK1.out; have := HK2.out; omega
                                case rel => exact ⟨(y184), (wrap64 (x15_2 + 1)), (by first | rfl | (simp; done) | (simp [*]; done)), H', ⟨by have := HK1.out; have := HK2.out; omega⟩, ⟨by (with_reducible repeat (first | apply Kd.S_alloc | apply Kd.S_drewN | apply Kd.S_drew)); exact HQ23.out⟩, ⟨by repeat (first | (with_reducible first | exact HB.out | apply below_alloc | apply pw_below_drewN | apply below_drew1 | refine below_set ?_ GB20.out) | exact HB.out)⟩⟩
                              · rw [if_neg c19] at H
                                exact absurd H (by simp)
                            · rw [if_neg c18] at H
                              exact absurd H (by simp)
                          · rw [if_neg c16] at H
                            exact absurd H (by simp)
                        · rw [if_neg c15] at H
                          exact absurd H (by simp)
                      · rw [if_neg c14] at H
                        exact absurd H (by simp)
                    · rw [if_neg c13] at H
                      exact absurd H (by simp)
                  · rw [if_neg c12] at H
                    exact absurd H (by simp)
                · rw [if_neg c11] at H
                  exact absurd H (by simp)
              · rw [if_neg c9] at H
                have c9b0 : decide (x15_2 < a4) = false := decide_eq_false c9
                clear c9
                have H' := Aside0.mk H
                clear H
                go_wp2
                go_roundg k2
                case measure => have := HK1.out; have := HK2.out; omega
                case rel => exact ⟨(x12_2), (wrap64 (x14_1 + 1)), (by first | rfl | (simp; done) | (simp [*]; done)), H', ⟨by have := HK1.out; have := HK2.out; omega⟩, ⟨by (with_reducible repeat (first | apply Kd.S_alloc | apply Kd.S_drewN | apply Kd.S_drew)); exact HO_12.out⟩, ⟨by repeat (first | (with_reducible first | exact HB.out | apply below_alloc | apply pw_below_drewN | apply below_drew1) | exact HB.out)⟩⟩
        · rw [if_neg c8] at H
          have c8b0 : decide (x14_1 < a3) = false := decide_eq_false c8
          clear c8
          simp only [Option.some.injEq, Prod.mk.injEq] at H
          obtain ⟨rfl, rfl⟩ := H
          go_wp2
          go_ret2
          first | exact ⟨_, 0, by first | rfl | (simp [errW_none, errW_some] <;> rfl) | (simp [*, errW_none, errW_some] <;> rfl), by (with_reducible repeat (first | apply Kd.S_alloc | apply Kd.S_drewN | apply Kd.S_drew)); exact HO_12.out, by repeat (first | (with_reducible first | exact HB.out | apply below_alloc | apply pw_below_drewN | apply below_drew1) | exact HB.out)⟩ | exact ⟨_, ⟨0, by first | rfl | (simp [errW_none, errW_some] <;> rfl) | (simp [*, errW_none, errW_some] <;> rfl)⟩, by (with_reducible repeat (first | apply Kd.S_alloc | apply Kd.S_drewN | apply Kd.S_drew)); exact HO_12.out, by repeat (first | (with_reducible first | exact HB.out | apply below_alloc | apply pw_below_drewN | apply below_drew1) | exact HB.out)⟩
  · have H1 : (some (([] : List (List Int)), some q178)) = some (r1, r2) := by rw [if_neg (show ¬ (some q178).isNone = true by simp)] at H; exact H
    clear H
    have H := H1
    clear H1
    try simp only [errW_none, errW_some]
    simp only [Option.some.injEq, Prod.mk.injEq] at H
    obtain ⟨rfl, rfl⟩ := H
    go_enter Tryd.func51, Tryd.ntmps51
    go_wp2_with (first | ((with_reducible refine gate_callee (f := 58) rfl ?_); refine goesL_ (some 23) rfl rfl Tryd.func58 (by kernel_rfl) rfl #[.int .i64 (wrap64 (a3 - a1)), .int .i64 (wrap64 (a4 - a2))] rfl (by (try simp only [List.map_toArray, List.map_cons, List.map_nil]); first | done | rfl | (simp only [List.length_drop, List.length_take]; rfl)) ?_; (with_reducible refine (reedsolomon_newMatrix.calls k (wrap64 (a3 - a1)) (wrap64 (a4 - a2)) t173 (some q178) _ ?side1 A6.out).mono ?_); (case side1 => exact GlobE.below hGE (by repeat (first | (with_reducible first | exact HB.out | apply below_alloc | apply pw_below_drewN | apply below_drew1) | exact HB.out))); rintro e w25 ⟨v175, qe177, rfl, ho0, hb⟩; refine ⟨_, rfl, ?_⟩; have n0_ := Aside0.mk (Kd.S_lower ho0 (below_size (by repeat (first | (with_reducible first | exact HB.out | apply below_alloc | apply pw_below_drewN | apply below_drew1) | exact HB.out)))); have n1_ := Aside0.mk (below_step (by repeat (first | (with_reducible first | exact HB.out | apply below_alloc | apply pw_below_drewN | apply below_drew1) | exact HB.out)) hb); clear HB; have HO176 := n0_; have HB := n1_; clear n0_ n1_; (try clear hb); (try clear hb2); (try clear hk); (try clear hi); (try clear ho0); (try simp only [errW_none, errW_some])))
    go_ret2
    first | exact ⟨_, qe177, by first | rfl | (simp [errW_none, errW_some] <;> rfl) | (simp [*, errW_none, errW_some] <;> rfl), by first | exact Kd.S_nil _ _ _ _ _ | exact Kd.N_nil _ _ _ _ _ | exact Kd.V_nil _ _ _ _ _ | exact Kd.Q_nil _ _ _ _ _ | exact Kd.R_nil _ _ _ _ _, by repeat (first | (with_reducible first | exact HB.out | apply below_alloc | apply pw_below_drewN | apply below_drew1) | exact HB.out)⟩ | exact ⟨_, ⟨qe177, by first | rfl | (simp [errW_none, errW_some] <;> rfl) | (simp [*, errW_none, errW_some] <;> rfl)⟩, by first | exact Kd.S_nil _ _ _ _ _ | exact Kd.N_nil _ _ _ _ _ | exact Kd.V_nil _ _ _ _ _ | exact Kd.Q_nil _ _ _ _ _ | exact Kd.R_nil _ _ _ _ _, by repeat (first | (with_reducible first | exact HB.out | apply below_alloc | apply pw_below_drewN | apply below_drew1) | exact HB.out)⟩

/-! ### reedsolomon_DoorSubMatrix: function 37 -/
def reedsolomon_DoorSubMatrix.f (k : Nat) (l0 : List (List Int)) (a1 : Int) (a2 : Int) (a3 : Int) (a4 : Int) : Option ((List (List Int)) × Option Int) := (reedsolomon_matrix_SubMatrix.f k l0 a1 a2 a3 a4).bind fun bt185 => (some (bt185.1, bt185.2))
theorem reedsolomon_DoorSubMatrix.mono : ∀ a0 a1 a2 a3 a4 k, LeO (reedsolomon_DoorSubMatrix.f k a0 a1 a2 a3 a4) (reedsolomon_DoorSubMatrix.f (k + 1) a0 a1 a2 a3 a4) := by
  intro a0 a1 a2 a3 a4 k
  unfold reedsolomon_DoorSubMatrix.f
  repeat' first
      | (with_reducible exact reedsolomon_matrix_SubMatrix.mono _ _ _ _ _ _)
      | (with_reducible exact LeO.refl _)
      | (with_reducible exact LeO.none _)
      | (with_reducible refine LeO.ite ?_ ?_)
      | (with_reducible refine LeO.bind ?_ (fun _ => ?_))
      | exact reedsolomon_matrix_SubMatrix.mono _ _ _ _ _ _
      | exact LeO.none _
      | refine LeO.ite ?_ ?_
      | refine LeO.bind ?_ (fun _ => ?_)
set_option maxHeartbeats 8000000 in
set_option maxRecDepth 100000 in
theorem reedsolomon_DoorSubMatrix.calls (k : Nat) (A0 : Option Addr) (c0 : Nat) (l0 : List (List Int)) (a1 : Int) (a2 : Int) (a3 : Int) (a4 : Int) (r1 : List (List Int)) (r2 : Option Int) (w : World) (hGE : GlobE w) (hr0 : Kd.C (Kd.slice 5 (Kd.int .u8)) w A0 l0.length l0) (hc0 : l0.length ≤ c0) (h : reedsolomon_DoorSubMatrix.f k l0 a1 a2 a3 a4 = some (r1, r2)) :
    Calls Tryd.prog 37 #[.slice A0 l0.length c0, .int .i64 a1, .int .i64 a2, .int .i64 a3, .int .i64 a4] w fun e w' => ∃ v0_ : Value, ∃ q1_ : Addr, e = .returned (.tuple #[v0_, errW q1_ r2]) ∧ Kd.S (Kd.slice 5 (Kd.int .u8)) 22 w' w.heap.size (fun _ => True) v0_ r1 ∧ Below w.heap.size w w' := by
  have HR0 := Aside0.mk hr0
  have HC0 := Aside0.mk hc0
  clear hr0 hc0
  have HB := Aside0.mk (Below.refl w.heap.size w)
  have H : ((reedsolomon_matrix_SubMatrix.f k l0 a1 a2 a3 a4).bind fun bt185 => (some (bt185.1, bt185.2))) = some (r1, r2) := h
  clear h
  replace H := Option.bind_eq_some_iff.mp H
  obtain ⟨⟨t185, t186⟩, A60, H⟩ := H
  replace H : (some (t185, t186)) = some (r1, r2) := H
  have A6 := Aside0.mk A60
  clear A60
  simp only [Option.some.injEq, Prod.mk.injEq] at H
  obtain ⟨rfl, rfl⟩ := H
  go_enter Tryd.func37, Tryd.ntmps37
  go_wp2_with (first | ((with_reducible refine gate_callee (f := 51) rfl ?_); refine goesL_ (some 17) rfl rfl Tryd.func51 (by kernel_rfl) rfl #[.slice A0 l0.length c0, .int .i64 a1, .int .i64 a2, .int .i64 a3, .int .i64 a4] rfl (by (try simp only [List.map_toArray, List.map_cons, List.map_nil]); first | done | rfl | (simp only [List.length_drop, List.length_take]; rfl)) ?_; (with_reducible refine (reedsolomon_matrix_SubMatrix.calls k _ _ l0 a1 a2 a3 a4 t185 t186 _ ?side3 ?side1 ?side2 A6.out).mono ?_); (case side1 => repeat (first | exact HR0.out | (with_reducible refine Kd.C_alloc ?_ _) | (with_reducible refine Kd.C_drewN ?_ _) | (with_reducible refine Kd.C_drew ?_))); (case side2 => exact HC0.out); (case side3 => exact GlobE.below hGE (by repeat (first | (with_reducible first | exact HB.out | apply below_alloc | apply pw_below_drewN | apply below_drew1) | exact HB.out))); rintro e w7 ⟨v187, qe189, rfl, ho0, hb⟩; refine ⟨_, rfl, ?_⟩; have n0_ := Aside0.mk (Kd.S_lower ho0 (below_size (by repeat (first | (with_reducible first | exact HB.out | apply below_alloc | apply pw_below_drewN | apply below_drew1) | exact HB.out)))); have n1_ := Aside0.mk (below_step (by repeat (first | (with_reducible first | exact HB.out | apply below_alloc | apply pw_below_drewN | apply below_drew1) | exact HB.out)) hb); clear HB; have HO188 := n0_; have HB := n1_; clear n0_ n1_; (try clear hb); (try clear hb2); (try clear hk); (try clear hi); (try clear ho0); (try simp only [errW_none, errW_some])))
  go_ret2
  first | exact ⟨_, qe189, by first | rfl | (simp [errW_none, errW_some] <;> rfl) | (simp [*, errW_none, errW_some] <;> rfl), by (with_reducible repeat (first | apply Kd.S_alloc | apply Kd.S_drewN | apply Kd.S_drew)); exact HO188.out, by repeat (first | (with_reducible first | exact HB.out | apply below_alloc | apply pw_below_drewN | apply below_drew1) | exact HB.out)⟩ | exact ⟨_, ⟨qe189, by first | rfl | (simp [errW_none, errW_some] <;> rfl) | (simp [*, errW_none, errW_some] <;> rfl)⟩, by (with_reducible repeat (first | apply Kd.S_alloc | apply Kd.S_drewN | apply Kd.S_drew)); exact HO188.out, by repeat (first | (with_reducible first | exact HB.out | apply below_alloc | apply pw_below_drewN | apply below_drew1) | exact HB.out)⟩

end Go.Proofs.YtpeikjnkbjabpaaDoor.X
