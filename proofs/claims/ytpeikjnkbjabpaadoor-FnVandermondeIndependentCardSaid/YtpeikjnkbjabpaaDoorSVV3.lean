import Derived.Test.YtpeikjnkbjabpaaDoorSVV0
import Derived.Test.YtpeikjnkbjabpaaDoorSVV1
namespace Go.Proofs.YtpeikjnkbjabpaaDoor.V
open Go.RowKit Go.Proofs.YtpeikjnkbjabpaaDoorW.PrintWords Go.Proofs.YtpeikjnkbjabpaaDoorW.PrintLast Go.Proofs.YtpeikjnkbjabpaaDoorW.PrintMore
attribute [local go_sem] max2_int min2_int max_two min_two max_three min_three max_four min_four   -- for this text's walks alone
set_option linter.unusedVariables false
set_option linter.unusedSimpArgs false
mutual
def reedsolomon_matrix_SubMatrix.l0 : Nat → List (List Int) → Int → Int → Int → Int → List (List Int) → Int → Option ((List (List Int)) × Option Int)
  | 0, _, _, _, _, _, _, _ => none
  | k + 1, x0, x1, x2, x3, x4, x12, x14 => if x14 < x3 then (reedsolomon_matrix_SubMatrix.l1 k x0 x1 x2 x3 x4 x12 x14 x2) else (some (x12, none))
def reedsolomon_matrix_SubMatrix.l1 : Nat → List (List Int) → Int → Int → Int → Int → List (List Int) → Int → Int → Option ((List (List Int)) × Option Int)
  | 0, _, _, _, _, _, _, _, _ => none
  | k + 1, x0, x1, x2, x3, x4, x12, x14, x15 => if x15 < x4 then (if 0 ≤ (wrap64 (x14 - x1)) then (if (wrap64 (x14 - x1)) < (x12.length : Int) then (if 0 ≤ x14 then (if x14 < (x0.length : Int) then (if 0 ≤ x15 then (if x15 < ((rd_L1 x0 x14).length : Int) then (if 0 ≤ (wrap64 (x15 - x2)) then (if (wrap64 (x15 - x2)) < ((rd_L1 x12 (wrap64 (x14 - x1))).length : Int) then (reedsolomon_matrix_SubMatrix.l1 k x0 x1 x2 x3 x4 (x12.set ((wrap64 (x14 - x1)) : Int).toNat ((rd_L1 x12 (wrap64 (x14 - x1))).set ((wrap64 (x15 - x2)) : Int).toNat (rd (rd_L1 x0 x14) x15))) x14 (wrap64 (x15 + 1))) else (none)) else (none)) else (none)) else (none)) else (none)) else (none)) else (none)) else (none)) else (reedsolomon_matrix_SubMatrix.l0 k x0 x1 x2 x3 x4 x12 (wrap64 (x14 + 1)))
end
def reedsolomon_matrix_SubMatrix.f (k : Nat) (l0 : List (List Int)) (a1 : Int) (a2 : Int) (a3 : Int) (a4 : Int) : Option ((List (List Int)) × Option Int) := (reedsolomon_newMatrix.f k (wrap64 (a3 - a1)) (wrap64 (a4 - a2))).bind fun bt144 => (if bt144.2.isNone = true then (reedsolomon_matrix_SubMatrix.l0 k l0 a1 a2 a3 a4 bt144.1 a1) else (some (([] : List (List Int)), some (bt144.2.getD 0))))
theorem reedsolomon_matrix_SubMatrix.mono_l : ∀ k, (∀ y0 y1 y2 y3 y4 y5 y6, LeO (reedsolomon_matrix_SubMatrix.l0 k y0 y1 y2 y3 y4 y5 y6) (reedsolomon_matrix_SubMatrix.l0 (k + 1) y0 y1 y2 y3 y4 y5 y6)) ∧ (∀ y0 y1 y2 y3 y4 y5 y6 y7, LeO (reedsolomon_matrix_SubMatrix.l1 k y0 y1 y2 y3 y4 y5 y6 y7) (reedsolomon_matrix_SubMatrix.l1 (k + 1) y0 y1 y2 y3 y4 y5 y6 y7))
  | 0 => ⟨fun _ _ _ _ _ _ _ r h => by simp [reedsolomon_matrix_SubMatrix.l0] at h, fun _ _ _ _ _ _ _ _ r h => by simp [reedsolomon_matrix_SubMatrix.l1] at h⟩
  | k + 1 => by
    obtain ⟨ih0, ih1⟩ := reedsolomon_matrix_SubMatrix.mono_l k
    refine ⟨?_, ?_⟩
    · intro y0 y1 y2 y3 y4 y5 y6
      unfold reedsolomon_matrix_SubMatrix.l0
      repeat' first
      | (with_reducible exact ih0 _ _ _ _ _ _ _)
      | (with_reducible exact ih1 _ _ _ _ _ _ _ _)
      | (with_reducible exact reedsolomon_newMatrix.mono _ _ _)
      | (with_reducible exact LeO.refl _)
      | (with_reducible exact LeO.none _)
      | (with_reducible refine LeO.ite ?_ ?_)
      | (with_reducible refine LeO.bind ?_ (fun _ => ?_))
      | exact ih0 _ _ _ _ _ _ _
      | exact ih1 _ _ _ _ _ _ _ _
      | exact reedsolomon_newMatrix.mono _ _ _
      | exact LeO.none _
      | refine LeO.ite ?_ ?_
      | refine LeO.bind ?_ (fun _ => ?_)
    · intro y0 y1 y2 y3 y4 y5 y6 y7
      unfold reedsolomon_matrix_SubMatrix.l1
      repeat' first
      | (with_reducible exact ih0 _ _ _ _ _ _ _)
      | (with_reducible exact ih1 _ _ _ _ _ _ _ _)
      | (with_reducible exact reedsolomon_newMatrix.mono _ _ _)
      | (with_reducible exact LeO.refl _)
      | (with_reducible exact LeO.none _)
      | (with_reducible refine LeO.ite ?_ ?_)
      | (with_reducible refine LeO.bind ?_ (fun _ => ?_))
      | exact ih0 _ _ _ _ _ _ _
      | exact ih1 _ _ _ _ _ _ _ _
      | exact reedsolomon_newMatrix.mono _ _ _
      | exact LeO.none _
      | refine LeO.ite ?_ ?_
      | refine LeO.bind ?_ (fun _ => ?_)
theorem reedsolomon_matrix_SubMatrix.mono : ∀ a0 a1 a2 a3 a4 k, LeO (reedsolomon_matrix_SubMatrix.f k a0 a1 a2 a3 a4) (reedsolomon_matrix_SubMatrix.f (k + 1) a0 a1 a2 a3 a4) := by
  intro a0 a1 a2 a3 a4 k
  obtain ⟨ih0, ih1⟩ := reedsolomon_matrix_SubMatrix.mono_l k
  unfold reedsolomon_matrix_SubMatrix.f
  repeat' first
      | (with_reducible exact ih0 _ _ _ _ _ _ _)
      | (with_reducible exact ih1 _ _ _ _ _ _ _ _)
      | (with_reducible exact reedsolomon_newMatrix.mono _ _ _)
      | (with_reducible exact LeO.refl _)
      | (with_reducible exact LeO.none _)
      | (with_reducible refine LeO.ite ?_ ?_)
      | (with_reducible refine LeO.bind ?_ (fun _ => ?_))
      | exact ih0 _ _ _ _ _ _ _
      | exact ih1 _ _ _ _ _ _ _ _
      | exact reedsolomon_newMatrix.mono _ _ _
      | exact LeO.none _
      | refine LeO.ite ?_ ?_
      | refine LeO.bind ?_ (fun _ => ?_)
def reedsolomon_matrix_SubMatrix.T10 : Bool × List (List Nat × List Nat) := (true, [([], []), ([], []), ([], []), ([1, 2], [1, 2]), ([0, 3], [0, 3]), ([4], [4]), ([], []), ([], []), ([6, 7], [6, 7]), ([], []), ([], []), ([9, 10], [9, 10]), ([11], [11]), ([], []), ([12, 13], [12, 13]), ([14], [14]), ([5, 8, 0, 1, 2, 3, 4, 5, 6, 7, 8, 9, 10, 11, 12, 13, 14, 15], [5, 8]), ([16, 15, 0, 1, 2, 3, 4, 5, 6, 7, 8, 9, 10, 11, 12, 13, 14, 15], [15, 16])])
def reedsolomon_matrix_SubMatrix.B10 : List Nat := [0, 0, 0, 6, 15, 31, 0, 0, 192, 0, 0, 1536, 3584, 0, 15872, 32256, 65535, 131071]
theorem reedsolomon_matrix_SubMatrix.tab10 : rtab .any (opsOf Tryd.f51 10) = reedsolomon_matrix_SubMatrix.T10 := by kernel_rfl
theorem reedsolomon_matrix_SubMatrix.bits10 : waitsOk reedsolomon_matrix_SubMatrix.T10.2 reedsolomon_matrix_SubMatrix.B10 = true := by kernel_rfl
set_option maxHeartbeats 8000000 in
set_option maxRecDepth 100000 in
theorem reedsolomon_matrix_SubMatrix.calls (k : Nat) (A0 : Option Addr) (c0 : Nat) (l0 : List (List Int)) (a1 : Int) (a2 : Int) (a3 : Int) (a4 : Int) (r1 : List (List Int)) (r2 : Option Int) (w : World) (hGE : GlobE w) (hr0 : Kd.C (Kd.slice 5 (Kd.int .u8)) w A0 l0.length l0) (hc0 : l0.length ≤ c0) (h : reedsolomon_matrix_SubMatrix.f k l0 a1 a2 a3 a4 = some (r1, r2)) :
    Calls Tryd.prog 51 #[.slice A0 l0.length c0, .int .i64 a1, .int .i64 a2, .int .i64 a3, .int .i64 a4] w fun e w' => ∃ v0_ : Value, ∃ q1_ : Addr, e = .returned (.tuple #[v0_, errW q1_ r2]) ∧ Kd.S (Kd.slice 5 (Kd.int .u8)) 22 w' w.heap.size (fun _ => True) v0_ r1 ∧ Below w.heap.size w w' := by
  have hu52 := Tryd.underlying52
  have HR0 := Aside0.mk hr0
  have HC0 := Aside0.mk hc0
  clear hr0 hc0
  have HB := Aside0.mk (Below.refl w.heap.size w)
  have H : ((reedsolomon_newMatrix.f k (wrap64 (a3 - a1)) (wrap64 (a4 - a2))).bind fun bt144 => (if bt144.2.isNone = true then (reedsolomon_matrix_SubMatrix.l0 k l0 a1 a2 a3 a4 bt144.1 a1) else (some (([] : List (List Int)), some (bt144.2.getD 0))))) = some (r1, r2) := h
  clear h
  replace H := Option.bind_eq_some_iff.mp H
  obtain ⟨⟨t144, t145⟩, A60, H⟩ := H
  replace H : (if t145.isNone = true then (reedsolomon_matrix_SubMatrix.l0 k l0 a1 a2 a3 a4 t144 a1) else (some (([] : List (List Int)), some (t145.getD 0)))) = some (r1, r2) := H
  have A6 := Aside0.mk A60
  clear A60
  rcases t145 with _ | q149
  · have H1 : (reedsolomon_matrix_SubMatrix.l0 k l0 a1 a2 a3 a4 t144 a1) = some (r1, r2) := by rw [if_pos (show (none : Option Int).isNone = true by rfl)] at H; exact H
    clear H
    have H := H1
    clear H1
    try simp only [errW_none, errW_some]
    have H' := Aside0.mk H
    clear H
    go_enter Tryd.func51, Tryd.ntmps51
    go_wp2_with (first | ((with_reducible refine gate_callee (f := 58) rfl ?_); refine goesL_ (some 23) rfl rfl Tryd.func58 (by kernel_rfl) rfl #[.int .i64 (wrap64 (a3 - a1)), .int .i64 (wrap64 (a4 - a2))] rfl (by (try simp only [List.map_toArray, List.map_cons, List.map_nil]); first | done | rfl | (simp only [List.length_drop, List.length_take]; rfl)) ?_; (with_reducible refine (reedsolomon_newMatrix.calls k (wrap64 (a3 - a1)) (wrap64 (a4 - a2)) t144 none _ ?side1 A6.out).mono ?_); (case side1 => exact GlobE.below hGE (by repeat (first | (with_reducible first | exact HB.out | apply below_alloc | apply pw_below_drewN | apply below_drew1) | exact HB.out))); rintro e w7 ⟨v146, qe148, rfl, ho0, hb⟩; refine ⟨_, rfl, ?_⟩; have n0_ := Aside0.mk (Kd.S_lower ho0 (below_size (by repeat (first | (with_reducible first | exact HB.out | apply below_alloc | apply pw_below_drewN | apply below_drew1) | exact HB.out)))); have n1_ := Aside0.mk (below_step (by repeat (first | (with_reducible first | exact HB.out | apply below_alloc | apply pw_below_drewN | apply below_drew1) | exact HB.out)) hb); clear HB; have HO147 := n0_; have HB := n1_; clear n0_ n1_; (try clear hb); (try clear hb2); (try clear hk); (try clear hi); (try clear ho0); (try simp only [errW_none, errW_some])))
    try simp only [Act.put, List.setIfInBounds_toArray, List.set_cons_zero, List.set_cons_succ]
    go_loopg [14] k (fun kq v14 w' => ∃ (x12_1 : List (List Int)) (x14_1 : Int), v14 = .int .i64 x14_1 ∧ Aside0 (reedsolomon_matrix_SubMatrix.l0 kq l0 a1 a2 a3 a4 x12_1 x14_1 = some (r1, r2)) ∧ Aside0 (kq ≤ k) ∧ Aside0 (Kd.S (Kd.slice 5 (Kd.int .u8)) 22 w' w.heap.size (fun _ => True) v146 x12_1) ∧ Aside0 (Below w.heap.size w w'))
    case atStart => exact ⟨(t144), (a1), (by first | rfl | (simp; done) | (simp [*]; done)), H', ⟨Nat.le_refl _⟩, ⟨by (with_reducible repeat (first | apply Kd.S_alloc | apply Kd.S_drewN | apply Kd.S_drew)); exact HO147.out⟩, ⟨by repeat (first | (with_reducible first | exact HB.out | apply below_alloc | apply pw_below_drewN | apply below_drew1) | exact HB.out)⟩⟩
    case round =>
      clear H'
      try clear q1
      try clear p2
      try clear c5
      try clear p6
      try clear q149
      obtain ⟨x12_1, x14_1, rfl, HA, HK1, HO_12, HB⟩ := hrel
      cases gk with
      | zero => exact absurd HA.out (by simp [reedsolomon_matrix_SubMatrix.l0])
      | succ k1 =>
        have H := HA.out
        clear HA
        simp only [reedsolomon_matrix_SubMatrix.l0] at H
        by_cases c8 : x14_1 < a3
        · rw [if_pos c8] at H
          have c8b0 : decide (x14_1 < a3) = true := decide_eq_true c8
          clear c8
          have H' := Aside0.mk H
          clear H
          go_wp2
          try simp only [Act.put, List.setIfInBounds_toArray, List.set_cons_zero, List.set_cons_succ]
          go_loopg [15] k1 (fun kq v15 w' => ∃ (x12_2 : List (List Int)) (x15_2 : Int), v15 = .int .i64 x15_2 ∧ Aside0 (reedsolomon_matrix_SubMatrix.l1 kq l0 a1 a2 a3 a4 x12_2 x14_1 x15_2 = some (r1, r2)) ∧ Aside0 (kq ≤ k1) ∧ Aside0 (Kd.S (Kd.slice 5 (Kd.int .u8)) 22 w' w.heap.size (fun _ => True) v146 x12_2) ∧ Aside0 (Below w.heap.size w w'))
          case atStart => exact ⟨(x12_1), (a2), (by first | rfl | (simp; done) | (simp [*]; done)), H', ⟨Nat.le_refl _⟩, ⟨by (with_reducible repeat (first | apply Kd.S_alloc | apply Kd.S_drewN | apply Kd.S_drew)); exact HO_12.out⟩, ⟨by repeat (first | (with_reducible first | exact HB.out | apply below_alloc | apply pw_below_drewN | apply below_drew1) | exact HB.out)⟩⟩
          case round =>
            clear H'
            try clear q1
            try clear p2
            try clear c5
            try clear p6
            try clear c8
            try clear c8b0
            try clear p2
            try clear p6
            try clear q1
            try clear q149
            obtain ⟨x12_2, x15_2, rfl, HA, HK2, HO_12, HB⟩ := hrel
            cases gk with
            | zero => exact absurd HA.out (by simp [reedsolomon_matrix_SubMatrix.l1])
            | succ k2 =>
              have H := HA.out
              clear HA
              simp only [reedsolomon_matrix_SubMatrix.l1] at H
              by_cases c9 : x15_2 < a4
              · rw [if_pos c9] at H
                have c9b0 : decide (x15_2 < a4) = true := decide_eq_true c9
                clear c9
                obtain ⟨ji10, hji10⟩ : ∃ j_ : Int, (wrap64 (x14_1 - a1)) = j_ := ⟨_, rfl⟩
                replace H : (if 0 ≤ (ji10) then (if (ji10) < (x12_2.length : Int) then (if 0 ≤ x14_1 then (if x14_1 < (l0.length : Int) then (if 0 ≤ x15_2 then (if x15_2 < ((rd_L1 l0 x14_1).length : Int) then (if 0 ≤ (wrap64 (x15_2 - a2)) then (if (wrap64 (x15_2 - a2)) < ((rd_L1 x12_2 (ji10)).length : Int) then (reedsolomon_matrix_SubMatrix.l1 k2 l0 a1 a2 a3 a4 (x12_2.set ((ji10) : Int).toNat ((rd_L1 x12_2 (ji10)).set ((wrap64 (x15_2 - a2)) : Int).toNat (rd (rd_L1 l0 x14_1) x15_2))) x14_1 (wrap64 (x15_2 + 1))) else (none)) else (none)) else (none)) else (none)) else (none)) else (none)) else (none)) else (none)) = some (r1, r2) := by first | (rw [hji10] at H; exact H) | (simp only [hji10] at H ⊢; exact H)
                have hji10w : (IntKind.i64.wrap (x14_1 - a1)) = ji10 := (i64_w _).trans hji10
                by_cases c11 : 0 ≤ (ji10)
                · rw [if_pos c11] at H
                  have c11b0 : decide (0 ≤ (ji10)) = true := decide_eq_true c11
                  clear c11
                  by_cases c12 : (ji10) < (x12_2.length : Int)
                  · rw [if_pos c12] at H
                    have c12b0 : decide ((ji10) < (x12_2.length : Int)) = true := decide_eq_true c12
                    clear c12
                    by_cases c13 : 0 ≤ x14_1
                    · rw [if_pos c13] at H
                      have c13b0 : decide (0 ≤ x14_1) = true := decide_eq_true c13
                      clear c13
                      by_cases c14 : x14_1 < (l0.length : Int)
                      · rw [if_pos c14] at H
                        have c14b0 : decide (x14_1 < (l0.length : Int)) = true := decide_eq_true c14
                        clear c14
                        by_cases c15 : 0 ≤ x15_2
                        · rw [if_pos c15] at H
                          have c15b0 : decide (0 ≤ x15_2) = true := decide_eq_true c15
                          clear c15
                          by_cases c16 : x15_2 < ((rd_L1 l0 x14_1).length : Int)
                          · rw [if_pos c16] at H
                            have c16b0 : decide (x15_2 < ((rd_L1 l0 x14_1).length : Int)) = true := decide_eq_true c16
                            clear c16
                            obtain ⟨ji17, hji17⟩ : ∃ j_ : Int, (wrap64 (x15_2 - a2)) = j_ := ⟨_, rfl⟩
                            replace H : (if 0 ≤ (ji17) then (if (ji17) < ((rd_L1 x12_2 (ji10)).length : Int) then (reedsolomon_matrix_SubMatrix.l1 k2 l0 a1 a2 a3 a4 (x12_2.set ((ji10) : Int).toNat ((rd_L1 x12_2 (ji10)).set ((ji17) : Int).toNat (rd (rd_L1 l0 x14_1) x15_2))) x14_1 (wrap64 (x15_2 + 1))) else (none)) else (none)) = some (r1, r2) := by first | (rw [hji17] at H; exact H) | (simp only [hji17] at H ⊢; exact H)
                            have hji17w : (IntKind.i64.wrap (x15_2 - a2)) = ji17 := (i64_w _).trans hji17
                            by_cases c18 : 0 ≤ (ji17)
                            · rw [if_pos c18] at H
                              have c18b0 : decide (0 ≤ (ji17)) = true := decide_eq_true c18
                              clear c18
                              by_cases c19 : (ji17) < ((rd_L1 x12_2 (ji10)).length : Int)
                              · rw [if_pos c19] at H
                                have c19b0 : decide ((ji17) < ((rd_L1 x12_2 (ji10)).length : Int)) = true := decide_eq_true c19
                                clear c19
                                obtain ⟨y153, hy153⟩ : ∃ y_ : List Int, y_ = ((rd_L1 x12_2 (ji10)).set ((ji17) : Int).toNat (rd (rd_L1 l0 x14_1) x15_2)) := ⟨_, rfl⟩
                                replace H : (reedsolomon_matrix_SubMatrix.l1 k2 l0 a1 a2 a3 a4 (x12_2.set ((ji10) : Int).toNat y153) x14_1 (wrap64 (x15_2 + 1))) = some (r1, r2) := by first | (rw [hy153]; with_reducible exact H) | (have H2_ := (Option.bind_some _ _).symm.trans H; rw [hy153]; with_reducible exact H2_) | (have H2_ := (Option.bind_some _ _).symm.trans H; with_reducible exact H2_) | with_reducible exact H | (rw [hy153]; exact H) | exact H
                                have Ny153 := Aside0.mk hy153
                                clear hy153
                                obtain ⟨y155, hy155⟩ : ∃ y_ : List (List Int), y_ = (x12_2.set ((ji10) : Int).toNat y153) := ⟨_, rfl⟩
                                replace H : (reedsolomon_matrix_SubMatrix.l1 k2 l0 a1 a2 a3 a4 y155 x14_1 (wrap64 (x15_2 + 1))) = some (r1, r2) := by first | (rw [hy155]; with_reducible exact H) | (have H2_ := (Option.bind_some _ _).symm.trans H; rw [hy155]; with_reducible exact H2_) | (have H2_ := (Option.bind_some _ _).symm.trans H; with_reducible exact H2_) | with_reducible exact H | (rw [hy155]; exact H) | exact H
                                have Ny155 := Aside0.mk hy155
                                clear hy155
                                have H' := Aside0.mk H
                                clear H
                                try go_wp2
                                have n0_ := Aside0.mk (Kd.S_drew HO_12.out)
                                have n1_ := Aside0.mk (below_drew1 HB.out)
                                clear HO_12
                                clear HB
                                have HO_12 := n0_
                                have HB := n1_
                                clear n0_ n1_
                                obtain ⟨Ao22, co22, eo22⟩ := Kd.S_slice HO_12.out
                                (first | subst eo22 | (injection eo22 with f1_ f2_ f3_; have f4_ := f1_.symm; have f5_ := f3_.symm; clear f1_ f2_ f3_; subst f4_; subst f5_))
                                have p150 : 0 ≤ ((ji10) : Int) := of_decide_eq_true (by first | (with_reducible assumption) | assumption)
                                have q150 : (ji10) < (x12_2.length : Int) := of_decide_eq_true (by first | (with_reducible assumption) | assumption)
                                obtain ⟨ad150, A150_0, c150_0, e150, hx150_0, hl150_0, hi150_0⟩ := at_L1 (Kd.S_reads' HO_12.out).2.2 (ji10) p150 q150
                                cases e150
                                obtain ⟨ce150, hce150, hMe150, hcc150⟩ := Kd.S_get HO_12.out [] (ji10) p150 (by first | exact q150 | exact of_decide_eq_true (by first | (with_reducible assumption) | assumption) | (have e_ := (Kd.S_reads' HO_12.out).1; omega))
                                obtain ⟨ve150_0, rfl, ge150_0⟩ := hMe150
                                have hv150_0 := hcc150 0 _ rfl
                                rw [Nat.add_zero, show ((Kd.slice 5 (Kd.int .u8))).sz = 1 from rfl, Nat.mul_one] at hv150_0
                                replace hv150_0 := Option.some.inj (hv150_0.symm.trans hx150_0)
                                rw [hv150_0] at ge150_0
                                have HL150_0 := Aside0.mk (show Kd.R (Kd.int .u8) 5 _ _ _ _ (rd_L1 x12_2 (ji10)) from ge150_0)
                                clear hv150_0 ge150_0
                                have HX150_0 := Aside0.mk hx150_0
                                clear hcc150 hce150
                                have HR150_0 := Aside0.mk hi150_0
                                have HC150_0 := Aside0.mk hl150_0
                                clear hi150_0 hl150_0
                                replace p150 := eq_true p150
                                replace q150 := eq_true q150
                                have p151 : 0 ≤ (x14_1 : Int) := of_decide_eq_true (by first | (with_reducible assumption) | assumption)
                                have q151 : x14_1 < (l0.length : Int) := of_decide_eq_true (by first | (with_reducible assumption) | assumption)
                                obtain ⟨ad151, A151_0, c151_0, e151, hx151_0, hl151_0, hi151_0⟩ := at_L1 HR0.out x14_1 p151 q151
                                have hw151_0 := hx151_0
                                cases e151
                                (try replace hx151_0 := (HB.out.cell (World.block_lt_of_cell? w _ hx151_0)).trans hx151_0)
                                have HR151_0 := Aside0.mk hi151_0
                                have HC151_0 := Aside0.mk hl151_0
                                clear hi151_0 hl151_0
                                replace p151 := eq_true p151
                                replace q151 := eq_true q151
                                have p152 : 0 ≤ (x15_2 : Int) := of_decide_eq_true (by first | (with_reducible assumption) | assumption)
                                have q152 : x15_2 < ((rd_L1 l0 x14_1).length : Int) := of_decide_eq_true (by first | (with_reducible assumption) | assumption)
                                obtain ⟨ad152, e152, hx152_0⟩ := Kd.at_int HR151_0.out x15_2 p152 q152
                                have hw152_0 := hx152_0
                                cases e152
                                (try replace hx152_0 := (HB.out.cell (World.block_lt_of_cell? w _ hx152_0)).trans hx152_0)
                                replace p152 := eq_true p152
                                replace q152 := eq_true q152
                                have p20 : 0 ≤ ((ji17) : Int) := of_decide_eq_true (by first | (with_reducible assumption) | assumption)
                                have q20 : ((ji17) : Int) < (((rd_L1 x12_2 (ji10)).length : Int) : Int) := of_decide_eq_true (by first | (with_reducible assumption) | assumption)
                                obtain ⟨go20, co20, eo20, gb20, gl20, cl20, HG20⟩ := Kd.R_form HL150_0.out (by omega)
                                (first | cases eo20 | (injection eo20 with ea_ en_ ec_; (first | subst ea_ | (injection ea_ with ea_; subst ea_)); subst ec_; clear en_))
                                have GB20 := Aside0.mk gb20
                                have GG20 := Aside0.mk HG20
                                clear gb20 gl20 HG20
                                obtain ⟨hx20_0, hf20_0⟩ := Kd.R_celln 0 HL150_0.out ((ji17) : Int) p20 q20
                                replace p20 := eq_true p20
                                replace q20 := eq_true q20
                                have hq23 : ((ji10) : Int) < (x12_2.length : Int) := (by have h_ : ((ji10) : Int) < ((x12_2.length : Int) : Int) := of_decide_eq_true (by first | (with_reducible assumption) | assumption); first | exact h_ | (have e_ := (Kd.S_reads' HO_12.out).1; omega) | simpa only [List.length_set, List.length_set] using h_)
                                obtain ⟨oki23, ce23, hcl23, hM23, hcc23, hok23, hbk23⟩ := Kd.S_borrow HO_12.out [] ((ji10) : Int) (of_decide_eq_true (by first | (with_reducible assumption) | assumption)) hq23
                                obtain ⟨ve23_0, rfl, ge23_0⟩ := hM23
                                have hv23 := hcc23 0 _ rfl
                                rw [Nat.add_zero, show ((Kd.slice 5 (Kd.int .u8))).sz = 1 from rfl, Nat.mul_one] at hv23
                                replace hv23 := Option.some.inj (hv23.symm.trans HX150_0.out)
                                subst hv23
                                clear hcc23 hcl23
                                replace ge23_0 := (show Kd.R (Kd.int .u8) 5 _ _ _ _ (rd_L1 x12_2 (ji10)) from ge23_0)
                                have HP23 := Kd.R_putg ge23_0 ((ji17) : Int) (rd (rd_L1 l0 x14_1) x15_2)
                                rw [← Ny153.out] at HP23
                                have HS23 := hbk23 HP23.2 (fun k_ e_ => by injection e_ with e_; subst e_; exact ge23_0.1 _ rfl) (x' := y153) (Kd.M_row HP23.1)
                                rw [← Ny155.out] at HS23
                                have HQ23 := Aside0.mk HS23
                                clear HP23 HS23 hbk23 hok23
                                refine start_ (n := 18) (S := fun w' => w'.cell? (ad150.add ((ji10)).toNat) = some (.slice (some ⟨go20, 0, none⟩) (rd_L1 x12_2 (ji10)).length c150_0) ∧ w'.cell? (ad151.add (x14_1).toNat) = some (.slice (some ad152) (rd_L1 l0 x14_1).length c151_0) ∧ w'.cell? (ad152.add (x15_2).toNat) = some (.int .u8 (rd (rd_L1 l0 x14_1) x15_2))) (ds := [17]) #[false, false, false, false, false, false, false, false, false, false, false, false, false, false, false, false, false, false] (by kernel_rfl) rfl rfl ⟨hx150_0, ((HB.out.cell (World.block_lt_of_cell? w _ hw151_0)).trans hw151_0), ((HB.out.cell (World.block_lt_of_cell? w _ hw152_0)).trans hw152_0)⟩ (fun hHeld => ?_); refine with_tabW reedsolomon_matrix_SubMatrix.tab10 reedsolomon_matrix_SubMatrix.bits10 (fun HT_ HW_ => ?_)
                                generalize wr.drew = w21 at HO_12 HB GG20 HL150_0 HQ23 HR150_0 HR151_0 HX150_0 hf20_0 hx150_0 hx151_0 hx152_0 hx20_0 hHeld ⊢
                                refine pure_ (i := 0) (N := some 41) (v := ?_) (a' := ?_) #[true, false, false, false, false, false, false, false, false, false, false, false, false, false, false, false, false, false] rfl rfl (any_of HT_.out (by kernel_rfl)) (fun _ _ _ h => h) (Or.inl ⟨by rfl, ?_⟩) ?_ ?_
                                rotate_left
                                · intro w'
                                  go_simp
                                  with_reducible rfl
                                rotate_left
                                · simp only [Act.put, List.setIfInBounds_toArray, List.set_cons_zero, List.set_cons_succ, i64_w, i32_w]
                                  rfl
                                refine pure_ (i := 1) (N := some 42) (v := ?_) (a' := ?_) #[true, true, false, false, false, false, false, false, false, false, false, false, false, false, false, false, false, false] rfl rfl (any_of HT_.out (by kernel_rfl)) (fun _ _ _ h => h) (Or.inl ⟨by rfl, ?_⟩) ?_ ?_
                                rotate_left
                                · intro w'
                                  go_simp
                                  with_reducible rfl
                                rotate_left
                                · simp only [Act.put, List.setIfInBounds_toArray, List.set_cons_zero, List.set_cons_succ, i64_w, i32_w]
                                  rfl
                                refine pure_ (i := 2) (N := some 43) (v := ?_) (a' := ?_) #[true, true, true, false, false, false, false, false, false, false, false, false, false, false, false, false, false, false] rfl rfl (any_of HT_.out (by kernel_rfl)) (fun _ _ _ h => h) (Or.inl ⟨by rfl, ?_⟩) ?_ ?_
                                rotate_left
                                · intro w'
                                  go_simp
                                  with_reducible rfl
                                rotate_left
                                · simp only [Act.put, List.setIfInBounds_toArray, List.set_cons_zero, List.set_cons_succ, i64_w, i32_w]
                                  rfl
                                refine pure_ (i := 3) (N := some 44) (v := ?_) (a' := ?_) #[true, true, true, true, false, false, false, false, false, false, false, false, false, false, false, false, false, false] rfl rfl (any_of HT_.out (by kernel_rfl)) (fun _ _ _ h => h) (Or.inl ⟨by rfl, ?_⟩) ?_ ?_
                                rotate_left
                                · intro w'
                                  go_simp
                                  with_reducible rfl
                                rotate_left
                                · simp only [Act.put, List.setIfInBounds_toArray, List.set_cons_zero, List.set_cons_succ, i64_w, i32_w]
                                  rfl
                                refine pure_ (i := 4) (N := some 45) (v := ?_) (a' := ?_) #[true, true, true, true, true, false, false, false, false, false, false, false, false, false, false, false, false, false] rfl rfl (any_of HT_.out (by kernel_rfl)) (fun _ _ _ h => h) (Or.inl ⟨by rfl, ?_⟩) ?_ ?_
                                rotate_left
                                · intro w'
                                  go_simp
                                  with_reducible rfl
                                rotate_left
                                · simp only [Act.put, List.setIfInBounds_toArray, List.set_cons_zero, List.set_cons_succ, i64_w, i32_w]
                                  rfl
                                refine pure_ (i := 6) (N := some 47) (v := ?_) (a' := ?_) #[true, true, true, true, true, false, true, false, false, false, false, false, false, false, false, false, false, false] rfl rfl (any_of HT_.out (by kernel_rfl)) (fun _ _ _ h => h) (Or.inl ⟨by rfl, ?_⟩) ?_ ?_
                                rotate_left
                                · intro w'
                                  go_simp
                                  with_reducible rfl
                                rotate_left
                                · simp only [Act.put, List.setIfInBounds_toArray, List.set_cons_zero, List.set_cons_succ, i64_w, i32_w]
                                  rfl
                                refine pure_ (i := 7) (N := some 48) (v := ?_) (a' := ?_) #[true, true, true, true, true, false, true, true, false, false, false, false, false, false, false, false, false, false] rfl rfl (any_of HT_.out (by kernel_rfl)) (fun _ _ _ h => h) (Or.inl ⟨by rfl, ?_⟩) ?_ ?_
                                rotate_left
                                · intro w'
                                  go_simp
                                  with_reducible rfl
                                rotate_left
                                · simp only [Act.put, List.setIfInBounds_toArray, List.set_cons_zero, List.set_cons_succ, i64_w, i32_w]
                                  rfl
                                refine pure_ (i := 8) (N := some 49) (v := ?_) (a' := ?_) #[true, true, true, true, true, false, true, true, true, false, false, false, false, false, false, false, false, false] rfl rfl (any_of HT_.out (by kernel_rfl)) (fun _ _ _ h => h) (Or.inl ⟨by rfl, ?_⟩) ?_ ?_
                                rotate_left
                                · intro w'
                                  go_simp
                                  with_reducible rfl
                                rotate_left
                                · simp only [Act.put, List.setIfInBounds_toArray, List.set_cons_zero, List.set_cons_succ, i64_w, i32_w]
                                  rfl
                                refine pure_ (i := 9) (N := some 50) (v := ?_) (a' := ?_) #[true, true, true, true, true, false, true, true, true, true, false, false, false, false, false, false, false, false] rfl rfl (any_of HT_.out (by kernel_rfl)) (fun _ _ _ h => h) (Or.inl ⟨by rfl, ?_⟩) ?_ ?_
                                rotate_left
                                · intro w'
                                  go_simp
                                  with_reducible rfl
                                rotate_left
                                · simp only [Act.put, List.setIfInBounds_toArray, List.set_cons_zero, List.set_cons_succ, i64_w, i32_w]
                                  rfl
                                refine pure_ (i := 10) (N := some 51) (v := ?_) (a' := ?_) #[true, true, true, true, true, false, true, true, true, true, true, false, false, false, false, false, false, false] rfl rfl (any_of HT_.out (by kernel_rfl)) (fun _ _ _ h => h) (Or.inl ⟨by rfl, ?_⟩) ?_ ?_
                                rotate_left
                                · intro w'
                                  go_simp
                                  with_reducible rfl
                                rotate_left
                                · simp only [Act.put, List.setIfInBounds_toArray, List.set_cons_zero, List.set_cons_succ, i64_w, i32_w]
                                  rfl
                                refine pure_ (i := 11) (N := some 52) (v := ?_) (a' := ?_) #[true, true, true, true, true, false, true, true, true, true, true, true, false, false, false, false, false, false] rfl rfl (any_of HT_.out (by kernel_rfl)) (fun _ _ _ h => h) (Or.inl ⟨by rfl, ?_⟩) ?_ ?_
                                rotate_left
                                · intro w'
                                  go_simp
                                  with_reducible rfl
                                rotate_left
                                · simp only [Act.put, List.setIfInBounds_toArray, List.set_cons_zero, List.set_cons_succ, i64_w, i32_w]
                                  rfl
                                refine pure_ (i := 13) (N := some 54) (v := ?_) (a' := ?_) #[true, true, true, true, true, false, true, true, true, true, true, true, false, true, false, false, false, false] rfl rfl (any_of HT_.out (by kernel_rfl)) (fun _ _ _ h => h) (Or.inl ⟨by rfl, ?_⟩) ?_ ?_
                                rotate_left
                                · intro w'
                                  go_simp
                                  with_reducible rfl
                                rotate_left
                                · simp only [Act.put, List.setIfInBounds_toArray, List.set_cons_zero, List.set_cons_succ, i64_w, i32_w]
                                  rfl
                                refine take_ (i := 5) (N := some 46) (v := ?_) (a' := ?_) #[true, true, true, true, true, true, true, true, true, true, true, true, false, true, false, false, false, false] rfl rfl (take_ofW HT_.out HW_.out (by kernel_rfl)) (fun _ _ _ h => h) (Or.inl ⟨by rfl, ?_⟩) hHeld ?_ ?_
                                rotate_left
                                · rintro w' ⟨s0, s1, s2⟩
                                  go_simp
                                  with_reducible rfl
                                rotate_left
                                · simp only [Act.put, List.setIfInBounds_toArray, List.set_cons_zero, List.set_cons_succ, i64_w, i32_w]
                                  rfl
                                refine take_ (i := 12) (N := some 53) (v := ?_) (a' := ?_) #[true, true, true, true, true, true, true, true, true, true, true, true, true, true, false, false, false, false] rfl rfl (take_ofW HT_.out HW_.out (by kernel_rfl)) (fun _ _ _ h => h) (Or.inl ⟨by rfl, ?_⟩) hHeld ?_ ?_
                                rotate_left
                                · rintro w' ⟨s0, s1, s2⟩
                                  go_simp
                                  with_reducible rfl
                                rotate_left
                                · simp only [Act.put, List.setIfInBounds_toArray, List.set_cons_zero, List.set_cons_succ, i64_w, i32_w]
                                  rfl
                                refine pure_ (i := 14) (N := some 55) (v := ?_) (a' := ?_) #[true, true, true, true, true, true, true, true, true, true, true, true, true, true, true, false, false, false] rfl rfl (any_of HT_.out (by kernel_rfl)) (fun _ _ _ h => h) (Or.inl ⟨by rfl, ?_⟩) ?_ ?_
                                rotate_left
                                · intro w'
                                  go_simp
                                  with_reducible rfl
                                rotate_left
                                · simp only [Act.put, List.setIfInBounds_toArray, List.set_cons_zero, List.set_cons_succ, i64_w, i32_w]
                                  rfl
                                refine take_ (i := 15) (N := some 56) (v := ?_) (a' := ?_) #[true, true, true, true, true, true, true, true, true, true, true, true, true, true, true, true, false, false] rfl rfl (take_ofW HT_.out HW_.out (by kernel_rfl)) (fun _ _ _ h => h) (Or.inl ⟨by rfl, ?_⟩) hHeld ?_ ?_
                                rotate_left
                                · rintro w' ⟨s0, s1, s2⟩
                                  go_simp
                                  with_reducible rfl
                                rotate_left
                                · simp only [Act.put, List.setIfInBounds_toArray, List.set_cons_zero, List.set_cons_succ, i64_w, i32_w]
                                  rfl
                                refine pure_ (i := 16) (N := some 57) (v := ?_) (a' := ?_) #[true, true, true, true, true, true, true, true, true, true, true, true, true, true, true, true, true, false] rfl rfl (any_of HT_.out (by kernel_rfl)) (fun _ _ _ h => h) (Or.inl ⟨by rfl, ?_⟩) ?_ ?_
                                rotate_left
                                · intro w'
                                  go_simp
                                  with_reducible rfl
                                rotate_left
                                · simp only [Act.put, List.setIfInBounds_toArray, List.set_cons_zero, List.set_cons_succ, i64_w, i32_w]
                                  rfl
                                refine last_ (i := 17) (N := none) #[true, true, true, true, true, true, true, true, true, true, true, true, true, true, true, true, true, true] rfl rfl (one_of HT_.out (by kernel_rfl)) (by decide) (fun K hK => ?_)
                                refine skip_ (w1 := ?_) (by rfl) rfl ?_ ?_
                                rotate_left
                                · go_simp
                                  rfl
                                refine hK.out _ _ ?_
                                clear hK K
                                refine done_ (done_of HT_.out (by kernel_rfl)) ?_
                                try go_wp2
                                go_roundg k2
                                case measure => have := HK1.out; have := HK2.out; omega
                                case rel => exact ⟨(y155), (wrap64 (x15_2 + 1)), (by first | rfl | (simp; done) | (simp [*]; done)), H', ⟨by have := HK1.out; have := HK2.out; omega⟩, ⟨by (with_reducible repeat (first | apply Kd.S_alloc | apply Kd.S_drewN | apply Kd.S_drew)); exact HQ23.out⟩, ⟨by repeat (first | (with_reducible first | exact HB.out | apply below_alloc | apply pw_below_drewN | apply below_drew1 | refine below_set ?_ GB20.out) | exact HB.out)⟩⟩
                              · rw [if_neg c19] at H
                                exact absurd H (by simp)
                            · rw [if_neg c18] at H
                              exact absurd H (by simp)
                          · rw [if_neg c16] at H
                            exact absurd H (by simp)
                        · rw [if_neg c15] at H
                          exact absurd H (by simp)
                      · rw [if_neg c14] at H
                        exact absurd H (by simp)
                    · rw [if_neg c13] at H
                      exact absurd H (by simp)
                  · rw [if_neg c12] at H
                    exact absurd H (by simp)
                · rw [if_neg c11] at H
                  exact absurd H (by simp)
              · rw [if_neg c9] at H
                have c9b0 : decide (x15_2 < a4) = false := decide_eq_false c9
                clear c9
                have H' := Aside0.mk H
                clear H
                go_wp2
                go_roundg k2
                case measure => have := HK1.out; have := HK2.out; omega
                case rel => exact ⟨(x12_2), (wrap64 (x14_1 + 1)), (by first | rfl | (simp; done) | (simp [*]; done)), H', ⟨by have := HK1.out; have := HK2.out; omega⟩, ⟨by (with_reducible repeat (first | apply Kd.S_alloc | apply Kd.S_drewN | apply Kd.S_drew)); exact HO_12.out⟩, ⟨by repeat (first | (with_reducible first | exact HB.out | apply below_alloc | apply pw_below_drewN | apply below_drew1) | exact HB.out)⟩⟩
        · rw [if_neg c8] at H
          have c8b0 : decide (x14_1 < a3) = false := decide_eq_false c8
          clear c8
          simp only [Option.some.injEq, Prod.mk.injEq] at H
          obtain ⟨rfl, rfl⟩ := H
          go_wp2
          go_ret2
          first | exact ⟨_, 0, by first | rfl | (simp [errW_none, errW_some] <;> rfl) | (simp [*, errW_none, errW_some] <;> rfl), by (with_reducible repeat (first | apply Kd.S_alloc | apply Kd.S_drewN | apply Kd.S_drew)); exact HO_12.out, by repeat (first | (with_reducible first | exact HB.out | apply below_alloc | apply pw_below_drewN | apply below_drew1) | exact HB.out)⟩ | exact ⟨_, ⟨0, by first | rfl | (simp [errW_none, errW_some] <;> rfl) | (simp [*, errW_none, errW_some] <;> rfl)⟩, by (with_reducible repeat (first | apply Kd.S_alloc | apply Kd.S_drewN | apply Kd.S_drew)); exact HO_12.out, by repeat (first | (with_reducible first | exact HB.out | apply below_alloc | apply pw_below_drewN | apply below_drew1) | exact HB.out)⟩
  · have H1 : (some (([] : List (List Int)), some q149)) = some (r1, r2) := by rw [if_neg (show ¬ (some q149).isNone = true by simp)] at H; exact H
    clear H
    have H := H1
    clear H1
    try simp only [errW_none, errW_some]
    simp only [Option.some.injEq, Prod.mk.injEq] at H
    obtain ⟨rfl, rfl⟩ := H
    go_enter Tryd.func51, Tryd.ntmps51
    go_wp2_with (first | ((with_reducible refine gate_callee (f := 58) rfl ?_); refine goesL_ (some 23) rfl rfl Tryd.func58 (by kernel_rfl) rfl #[.int .i64 (wrap64 (a3 - a1)), .int .i64 (wrap64 (a4 - a2))] rfl (by (try simp only [List.map_toArray, List.map_cons, List.map_nil]); first | done | rfl | (simp only [List.length_drop, List.length_take]; rfl)) ?_; (with_reducible refine (reedsolomon_newMatrix.calls k (wrap64 (a3 - a1)) (wrap64 (a4 - a2)) t144 (some q149) _ ?side1 A6.out).mono ?_); (case side1 => exact GlobE.below hGE (by repeat (first | (with_reducible first | exact HB.out | apply below_alloc | apply pw_below_drewN | apply below_drew1) | exact HB.out))); rintro e w25 ⟨v146, qe148, rfl, ho0, hb⟩; refine ⟨_, rfl, ?_⟩; have n0_ := Aside0.mk (Kd.S_lower ho0 (below_size (by repeat (first | (with_reducible first | exact HB.out | apply below_alloc | apply pw_below_drewN | apply below_drew1) | exact HB.out)))); have n1_ := Aside0.mk (below_step (by repeat (first | (with_reducible first | exact HB.out | apply below_alloc | apply pw_below_drewN | apply below_drew1) | exact HB.out)) hb); clear HB; have HO147 := n0_; have HB := n1_; clear n0_ n1_; (try clear hb); (try clear hb2); (try clear hk); (try clear hi); (try clear ho0); (try simp only [errW_none, errW_some])))
    go_ret2
    first | exact ⟨_, qe148, by first | rfl | (simp [errW_none, errW_some] <;> rfl) | (simp [*, errW_none, errW_some] <;> rfl), by first | exact Kd.S_nil _ _ _ _ _ | exact Kd.N_nil _ _ _ _ _ | exact Kd.V_nil _ _ _ _ _ | exact Kd.Q_nil _ _ _ _ _ | exact Kd.R_nil _ _ _ _ _, by repeat (first | (with_reducible first | exact HB.out | apply below_alloc | apply pw_below_drewN | apply below_drew1) | exact HB.out)⟩ | exact ⟨_, ⟨qe148, by first | rfl | (simp [errW_none, errW_some] <;> rfl) | (simp [*, errW_none, errW_some] <;> rfl)⟩, by first | exact Kd.S_nil _ _ _ _ _ | exact Kd.N_nil _ _ _ _ _ | exact Kd.V_nil _ _ _ _ _ | exact Kd.Q_nil _ _ _ _ _ | exact Kd.R_nil _ _ _ _ _, by repeat (first | (with_reducible first | exact HB.out | apply below_alloc | apply pw_below_drewN | apply below_drew1) | exact HB.out)⟩
def reedsolomon_matrix_IsSquare.f (l0 : List (List Int)) : Option (Bool) := if 0 < (l0.length : Int) then (some ((l0.length : Int) == ((rd_L1 l0 0).length : Int))) else (none)
set_option maxHeartbeats 8000000 in
set_option maxRecDepth 100000 in
theorem reedsolomon_matrix_IsSquare.calls (A0 : Option Addr) (c0 : Nat) (l0 : List (List Int)) (r : Bool) (w : World) (hr0 : Kd.C (Kd.slice 5 (Kd.int .u8)) w A0 l0.length l0) (hc0 : l0.length ≤ c0) (h : reedsolomon_matrix_IsSquare.f l0 = some r) :
    Calls Tryd.prog 59 #[.slice A0 l0.length c0] w fun e w' => e = .returned (.bool r) ∧ Drawn0 w w' := by
  have HR0 := Aside0.mk hr0
  have HC0 := Aside0.mk hc0
  clear hr0 hc0
  have H : (if 0 < (l0.length : Int) then (some ((l0.length : Int) == ((rd_L1 l0 0).length : Int))) else (none)) = some r := h
  clear h
  by_cases c2 : 0 < (l0.length : Int)
  · rw [if_pos c2] at H
    have c2b0 : decide (0 < (l0.length : Int)) = true := decide_eq_true c2
    have c2b1 : decide (0 < l0.length) = true := decide_eq_true (by omega)
    clear c2
    obtain rfl := Option.some.inj H
    have p156 : 0 ≤ (0 : Int) := (by omega)
    have q156 : 0 < (l0.length : Int) := of_decide_eq_true (by first | (with_reducible assumption) | assumption)
    obtain ⟨ad156, A156_0, c156_0, e156, hx156_0, hl156_0, hi156_0⟩ := at_L1 HR0.out 0 p156 q156
    cases e156
    have qi156 : (0 < l0.length) = True := eq_true (by omega)
    (try rw [show ((0 : Int)).toNat = 0 from rfl] at hx156_0)
    (try rw [Addr.add_zero'] at hx156_0)
    have HR156_0 := Aside0.mk hi156_0
    have HC156_0 := Aside0.mk hl156_0
    clear hi156_0 hl156_0
    replace p156 := eq_true p156
    replace q156 := eq_true q156
    go_enter Tryd.func59, Tryd.ntmps59
    go_wp2
    go_ret
    exact ⟨by first | rfl | (simp; done) | (simp [*]; done), by repeat (first | exact Drawn0.refl _ | apply Drawn0.step)⟩
  · rw [if_neg c2] at H
    exact absurd H (by simp)
def reedsolomon_identityMatrix.l0 : Nat → List (List Int) → Int → Int → Option ((List (List Int)) × Option Int)
  | 0, _, _, _ => none
  | k + 1, x4, x17, x18 => if x18 < x17 then (if 0 ≤ x18 then (if x18 < (x4.length : Int) then (if x18 < ((rd_L1 x4 x18).length : Int) then (reedsolomon_identityMatrix.l0 k (x4.set (x18 : Int).toNat ((rd_L1 x4 x18).set (x18 : Int).toNat 1)) x17 (wrap64 (x18 + 1))) else (none)) else (none)) else (none)) else (some (x4, none))
def reedsolomon_identityMatrix.f (k : Nat) (a0 : Int) : Option ((List (List Int)) × Option Int) := (reedsolomon_newMatrix.f k a0 a0).bind fun bt157 => (if bt157.2.isNone = true then (reedsolomon_identityMatrix.l0 k bt157.1 (bt157.1.length : Int) 0) else (some (([] : List (List Int)), some (bt157.2.getD 0))))
theorem reedsolomon_identityMatrix.mono_l : ∀ k, (∀ y0 y1 y2, LeO (reedsolomon_identityMatrix.l0 k y0 y1 y2) (reedsolomon_identityMatrix.l0 (k + 1) y0 y1 y2))
  | 0 => fun _ _ _ r h => by simp [reedsolomon_identityMatrix.l0] at h
  | k + 1 => by
    have ih0 := reedsolomon_identityMatrix.mono_l k
    · intro y0 y1 y2
      unfold reedsolomon_identityMatrix.l0
      repeat' first
      | (with_reducible exact ih0 _ _ _)
      | (with_reducible exact reedsolomon_newMatrix.mono _ _ _)
      | (with_reducible exact LeO.refl _)
      | (with_reducible exact LeO.none _)
      | (with_reducible refine LeO.ite ?_ ?_)
      | (with_reducible refine LeO.bind ?_ (fun _ => ?_))
      | exact ih0 _ _ _
      | exact reedsolomon_newMatrix.mono _ _ _
      | exact LeO.none _
      | refine LeO.ite ?_ ?_
      | refine LeO.bind ?_ (fun _ => ?_)
theorem reedsolomon_identityMatrix.mono : ∀ a0 k, LeO (reedsolomon_identityMatrix.f k a0) (reedsolomon_identityMatrix.f (k + 1) a0) := by
  intro a0 k
  have ih0 := reedsolomon_identityMatrix.mono_l k
  unfold reedsolomon_identityMatrix.f
  repeat' first
      | (with_reducible exact ih0 _ _ _)
      | (with_reducible exact reedsolomon_newMatrix.mono _ _ _)
      | (with_reducible exact LeO.refl _)
      | (with_reducible exact LeO.none _)
      | (with_reducible refine LeO.ite ?_ ?_)
      | (with_reducible refine LeO.bind ?_ (fun _ => ?_))
      | exact ih0 _ _ _
      | exact reedsolomon_newMatrix.mono _ _ _
      | exact LeO.none _
      | refine LeO.ite ?_ ?_
      | refine LeO.bind ?_ (fun _ => ?_)
set_option maxHeartbeats 8000000 in
set_option maxRecDepth 100000 in
theorem reedsolomon_identityMatrix.calls (k : Nat) (a0 : Int) (r1 : List (List Int)) (r2 : Option Int) (w : World) (hGE : GlobE w) (h : reedsolomon_identityMatrix.f k a0 = some (r1, r2)) :
    Calls Tryd.prog 60 #[.int .i64 a0] w fun e w' => ∃ v0_ : Value, ∃ q1_ : Addr, e = .returned (.tuple #[v0_, errW q1_ r2]) ∧ Kd.S (Kd.slice 5 (Kd.int .u8)) 22 w' w.heap.size (fun _ => True) v0_ r1 ∧ Below w.heap.size w w' := by
  have hu52 := Tryd.underlying52
  have HB := Aside0.mk (Below.refl w.heap.size w)
  have H : ((reedsolomon_newMatrix.f k a0 a0).bind fun bt157 => (if bt157.2.isNone = true then (reedsolomon_identityMatrix.l0 k bt157.1 (bt157.1.length : Int) 0) else (some (([] : List (List Int)), some (bt157.2.getD 0))))) = some (r1, r2) := h
  clear h
  replace H := Option.bind_eq_some_iff.mp H
  obtain ⟨⟨t157, t158⟩, A20, H⟩ := H
  replace H : (if t158.isNone = true then (reedsolomon_identityMatrix.l0 k t157 (t157.length : Int) 0) else (some (([] : List (List Int)), some (t158.getD 0)))) = some (r1, r2) := H
  have A2 := Aside0.mk A20
  clear A20
  rcases t158 with _ | q162
  · have H1 : (reedsolomon_identityMatrix.l0 k t157 (t157.length : Int) 0) = some (r1, r2) := by rw [if_pos (show (none : Option Int).isNone = true by rfl)] at H; exact H
    clear H
    have H := H1
    clear H1
    try simp only [errW_none, errW_some]
    have H' := Aside0.mk H
    clear H
    go_enter Tryd.func60, Tryd.ntmps60
    go_wp2_with (first | ((with_reducible refine gate_callee (f := 58) rfl ?_); refine goesL_ (some 10) rfl rfl Tryd.func58 (by kernel_rfl) rfl #[.int .i64 a0, .int .i64 a0] rfl (by (try simp only [List.map_toArray, List.map_cons, List.map_nil]); first | done | rfl | (simp only [List.length_drop, List.length_take]; rfl)) ?_; (with_reducible refine (reedsolomon_newMatrix.calls k a0 a0 t157 none _ ?side1 A2.out).mono ?_); (case side1 => exact GlobE.below hGE (by repeat (first | (with_reducible first | exact HB.out | apply below_alloc | apply pw_below_drewN | apply below_drew1) | exact HB.out))); rintro e w3 ⟨v159, qe161, rfl, ho0, hb⟩; refine ⟨_, rfl, ?_⟩; have n0_ := Aside0.mk (Kd.S_lower ho0 (below_size (by repeat (first | (with_reducible first | exact HB.out | apply below_alloc | apply pw_below_drewN | apply below_drew1) | exact HB.out)))); have n1_ := Aside0.mk (below_step (by repeat (first | (with_reducible first | exact HB.out | apply below_alloc | apply pw_below_drewN | apply below_drew1) | exact HB.out)) hb); clear HB; have HO160 := n0_; have HB := n1_; clear n0_ n1_; (try clear hb); (try clear hb2); (try clear hk); (try clear hi); (try clear ho0); (try simp only [errW_none, errW_some]); obtain ⟨Ao4, co4, eo4⟩ := Kd.S_slice HO160.out; subst eo4))
    try simp only [Act.put, List.setIfInBounds_toArray, List.set_cons_zero, List.set_cons_succ]
    go_loopg [18] k (fun kq v18 w' => ∃ (x4_1 : List (List Int)) (x18_1 : Int), v18 = .int .i64 x18_1 ∧ Aside0 (reedsolomon_identityMatrix.l0 kq x4_1 (t157.length : Int) x18_1 = some (r1, r2)) ∧ Aside0 (kq ≤ k) ∧ Aside0 (Kd.S (Kd.slice 5 (Kd.int .u8)) 22 w' w.heap.size (fun _ => True) (.slice Ao4 t157.length co4) x4_1) ∧ Aside0 (Below w.heap.size w w'))
    case atStart => exact ⟨(t157), (0), (by first | rfl | (simp; done) | (simp [*]; done)), H', ⟨Nat.le_refl _⟩, ⟨by (with_reducible repeat (first | apply Kd.S_alloc | apply Kd.S_drewN | apply Kd.S_drew)); exact HO160.out⟩, ⟨by repeat (first | (with_reducible first | exact HB.out | apply below_alloc | apply pw_below_drewN | apply below_drew1) | exact HB.out)⟩⟩
    case round =>
      clear H'
      try clear q1
      try clear p2
      try clear q162
      obtain ⟨x4_1, x18_1, rfl, HA, HK1, HO_4, HB⟩ := hrel
      have hl4_1 := (Kd.S_reads' HO_4.out).1
      rw [hl4_1] at HO_4
      (try simp only [hl4_1])
      cases gk with
      | zero => exact absurd HA.out (by simp [reedsolomon_identityMatrix.l0])
      | succ k1 =>
        have H := HA.out
        clear HA
        simp only [reedsolomon_identityMatrix.l0] at H
        by_cases c5 : x18_1 < (t157.length : Int)
        · rw [if_pos c5] at H
          have c5b0 : decide (x18_1 < (t157.length : Int)) = true := decide_eq_true c5
          clear c5
          by_cases c6 : 0 ≤ x18_1
          · rw [if_pos c6] at H
            have c6b0 : decide (0 ≤ x18_1) = true := decide_eq_true c6
            clear c6
            by_cases c7 : x18_1 < (x4_1.length : Int)
            · rw [if_pos c7] at H
              have c7b0 : decide (x18_1 < (x4_1.length : Int)) = true := decide_eq_true c7
              clear c7
              by_cases c8 : x18_1 < ((rd_L1 x4_1 x18_1).length : Int)
              · rw [if_pos c8] at H
                have c8b0 : decide (x18_1 < ((rd_L1 x4_1 x18_1).length : Int)) = true := decide_eq_true c8
                clear c8
                obtain ⟨y164, hy164⟩ : ∃ y_ : List Int, y_ = ((rd_L1 x4_1 x18_1).set (x18_1 : Int).toNat 1) := ⟨_, rfl⟩
                replace H : (reedsolomon_identityMatrix.l0 k1 (x4_1.set (x18_1 : Int).toNat y164) (t157.length : Int) (wrap64 (x18_1 + 1))) = some (r1, r2) := by first | (rw [hy164]; with_reducible exact H) | (have H2_ := (Option.bind_some _ _).symm.trans H; rw [hy164]; with_reducible exact H2_) | (have H2_ := (Option.bind_some _ _).symm.trans H; with_reducible exact H2_) | with_reducible exact H | (rw [hy164]; exact H) | exact H
                have Ny164 := Aside0.mk hy164
                clear hy164
                obtain ⟨y166, hy166⟩ : ∃ y_ : List (List Int), y_ = (x4_1.set (x18_1 : Int).toNat y164) := ⟨_, rfl⟩
                replace H : (reedsolomon_identityMatrix.l0 k1 y166 (t157.length : Int) (wrap64 (x18_1 + 1))) = some (r1, r2) := by first | (rw [hy166]; with_reducible exact H) | (have H2_ := (Option.bind_some _ _).symm.trans H; rw [hy166]; with_reducible exact H2_) | (have H2_ := (Option.bind_some _ _).symm.trans H; with_reducible exact H2_) | with_reducible exact H | (rw [hy166]; exact H) | exact H
                have Ny166 := Aside0.mk hy166
                clear hy166
                have H' := Aside0.mk H
                clear H
                have p163 : 0 ≤ (x18_1 : Int) := of_decide_eq_true (by first | (with_reducible assumption) | assumption)
                have q163 : x18_1 < (x4_1.length : Int) := of_decide_eq_true (by first | (with_reducible assumption) | assumption)
                obtain ⟨ad163, A163_0, c163_0, e163, hx163_0, hl163_0, hi163_0⟩ := at_L1 (Kd.S_reads' HO_4.out).2.2 x18_1 p163 q163
                cases e163
                obtain ⟨ce163, hce163, hMe163, hcc163⟩ := Kd.S_get HO_4.out [] x18_1 p163 (by first | exact q163 | exact of_decide_eq_true (by first | (with_reducible assumption) | assumption) | (have e_ := (Kd.S_reads' HO_4.out).1; omega))
                obtain ⟨ve163_0, rfl, ge163_0⟩ := hMe163
                have hv163_0 := hcc163 0 _ rfl
                rw [Nat.add_zero, show ((Kd.slice 5 (Kd.int .u8))).sz = 1 from rfl, Nat.mul_one] at hv163_0
                replace hv163_0 := Option.some.inj (hv163_0.symm.trans hx163_0)
                rw [hv163_0] at ge163_0
                have HL163_0 := Aside0.mk (show Kd.R (Kd.int .u8) 5 _ _ _ _ (rd_L1 x4_1 x18_1) from ge163_0)
                clear hv163_0 ge163_0
                have HX163_0 := Aside0.mk hx163_0
                clear hcc163 hce163
                have HR163_0 := Aside0.mk hi163_0
                have HC163_0 := Aside0.mk hl163_0
                clear hi163_0 hl163_0
                replace p163 := eq_true p163
                replace q163 := eq_true q163
                have p9 : 0 ≤ (x18_1 : Int) := of_decide_eq_true (by first | (with_reducible assumption) | assumption)
                have q9 : (x18_1 : Int) < (((rd_L1 x4_1 x18_1).length : Int) : Int) := of_decide_eq_true (by first | (with_reducible assumption) | assumption)
                obtain ⟨go9, co9, eo9, gb9, gl9, cl9, HG9⟩ := Kd.R_form HL163_0.out (by omega)
                (first | cases eo9 | (injection eo9 with ea_ en_ ec_; (first | subst ea_ | (injection ea_ with ea_; subst ea_)); subst ec_; clear en_))
                have GB9 := Aside0.mk gb9
                have GG9 := Aside0.mk HG9
                clear gb9 gl9 HG9
                obtain ⟨hx9_0, hf9_0⟩ := Kd.R_celln 0 HL163_0.out (x18_1 : Int) p9 q9
                replace p9 := eq_true p9
                replace q9 := eq_true q9
                have hq10 : (x18_1 : Int) < (x4_1.length : Int) := (by have h_ : (x18_1 : Int) < ((x4_1.length : Int) : Int) := of_decide_eq_true (by first | (with_reducible assumption) | assumption); first | exact h_ | (have e_ := (Kd.S_reads' HO_4.out).1; omega) | simpa only [List.length_set, List.length_set] using h_)
                obtain ⟨oki10, ce10, hcl10, hM10, hcc10, hok10, hbk10⟩ := Kd.S_borrow HO_4.out [] (x18_1 : Int) (of_decide_eq_true (by first | (with_reducible assumption) | assumption)) hq10
                obtain ⟨ve10_0, rfl, ge10_0⟩ := hM10
                have hv10 := hcc10 0 _ rfl
                rw [Nat.add_zero, show ((Kd.slice 5 (Kd.int .u8))).sz = 1 from rfl, Nat.mul_one] at hv10
                replace hv10 := Option.some.inj (hv10.symm.trans HX163_0.out)
                subst hv10
                clear hcc10 hcl10
                replace ge10_0 := (show Kd.R (Kd.int .u8) 5 _ _ _ _ (rd_L1 x4_1 x18_1) from ge10_0)
                have HP10 := Kd.R_putg ge10_0 (x18_1 : Int) 1
                go_wp2_with (first | ((with_reducible refine gate_store (t := 5) (p := 26) rfl ?_); refine store_event (t := 5) (p := 26) (v := ?vo_w11) (w1 := (wr.setCell ⟨go9, (x18_1 : Int).toNat, none⟩ (.int .u8 1))) ?hg ?ho ?hn ?hr ?_; (case ho => rfl); (case hg => rfl); (case hn => rfl); (case hr => first | (go_simp; done) | (go_simp; rfl)); intro w11 hw; have hg : wr.grownBy w11 (some go9) := (by rw [hw]; exact HP10.2); have hz_ : Kd.R (Kd.int .u8) 5 w11 w.heap.size oki10 (.slice (some ⟨go9, 0, none⟩) (rd_L1 x4_1 x18_1).length c163_0) y164 := (by rw [hw, Ny164.out]; exact HP10.1); have hp_ : Kd.S (Kd.slice 5 (Kd.int .u8)) 22 w11 w.heap.size (fun _ => True) (.slice (some ad163) x4_1.length co4) y166 := (by rw [Ny166.out]; exact hbk10 hg (fun k_ e_ => by injection e_ with e_; subst e_; exact ge10_0.1 _ rfl) (Kd.M_row hz_)); have hm_ := Kd.R_mono hz_ hok10; clear HP10 hbk10; have n0_ := Aside0.mk (hp_); have n1_ := Aside0.mk ((by rw [hw]; exact below_set (HB.out) GB9.out : Below w.heap.size w w11)); have n2_ := Aside0.mk (hm_); have n3_ := Aside0.mk ((Kd.R_reads' hm_).2.1); clear HO_4; clear HB; clear HL163_0; have HO_4 := n0_; have HB := n1_; have HL167 := n2_; have HC165 := n3_; clear n0_ n1_ n2_ n3_; clear hg hw hp_ hz_ hm_ hok10))
                (try simp only [← hl4_1])
                go_roundg k1
                case measure => have := HK1.out; omega
                case rel => exact ⟨(y166), (wrap64 (x18_1 + 1)), (by first | rfl | (simp; done) | (simp [*]; done)), H', ⟨by have := HK1.out; omega⟩, ⟨by (try simp only [hl4_1]); (with_reducible repeat (first | apply Kd.S_alloc | apply Kd.S_drewN | apply Kd.S_drew)); exact HO_4.out⟩, ⟨by repeat (first | (with_reducible first | exact HB.out | apply below_alloc | apply pw_below_drewN | apply below_drew1) | exact HB.out)⟩⟩
              · rw [if_neg c8] at H
                exact absurd H (by simp)
            · rw [if_neg c7] at H
              exact absurd H (by simp)
          · rw [if_neg c6] at H
            exact absurd H (by simp)
        · rw [if_neg c5] at H
          have c5b0 : decide (x18_1 < (t157.length : Int)) = false := decide_eq_false c5
          (try rw [hl4_1] at c5b0)
          clear c5
          simp only [Option.some.injEq, Prod.mk.injEq] at H
          obtain ⟨rfl, rfl⟩ := H
          go_wp2
          go_ret2
          first | exact ⟨_, 0, by first | rfl | (simp [errW_none, errW_some] <;> rfl) | (simp [*, errW_none, errW_some] <;> rfl), by (with_reducible repeat (first | apply Kd.S_alloc | apply Kd.S_drewN | apply Kd.S_drew)); exact HO_4.out, by repeat (first | (with_reducible first | exact HB.out | apply below_alloc | apply pw_below_drewN | apply below_drew1) | exact HB.out)⟩ | exact ⟨_, ⟨0, by first | rfl | (simp [errW_none, errW_some] <;> rfl) | (simp [*, errW_none, errW_some] <;> rfl)⟩, by (with_reducible repeat (first | apply Kd.S_alloc | apply Kd.S_drewN | apply Kd.S_drew)); exact HO_4.out, by repeat (first | (with_reducible first | exact HB.out | apply below_alloc | apply pw_below_drewN | apply below_drew1) | exact HB.out)⟩
  · have H1 : (some (([] : List (List Int)), some q162)) = some (r1, r2) := by rw [if_neg (show ¬ (some q162).isNone = true by simp)] at H; exact H
    clear H
    have H := H1
    clear H1
    try simp only [errW_none, errW_some]
    simp only [Option.some.injEq, Prod.mk.injEq] at H
    obtain ⟨rfl, rfl⟩ := H
    go_enter Tryd.func60, Tryd.ntmps60
    go_wp2_with (first | ((with_reducible refine gate_callee (f := 58) rfl ?_); refine goesL_ (some 10) rfl rfl Tryd.func58 (by kernel_rfl) rfl #[.int .i64 a0, .int .i64 a0] rfl (by (try simp only [List.map_toArray, List.map_cons, List.map_nil]); first | done | rfl | (simp only [List.length_drop, List.length_take]; rfl)) ?_; (with_reducible refine (reedsolomon_newMatrix.calls k a0 a0 t157 (some q162) _ ?side1 A2.out).mono ?_); (case side1 => exact GlobE.below hGE (by repeat (first | (with_reducible first | exact HB.out | apply below_alloc | apply pw_below_drewN | apply below_drew1) | exact HB.out))); rintro e w12 ⟨v159, qe161, rfl, ho0, hb⟩; refine ⟨_, rfl, ?_⟩; have n0_ := Aside0.mk (Kd.S_lower ho0 (below_size (by repeat (first | (with_reducible first | exact HB.out | apply below_alloc | apply pw_below_drewN | apply below_drew1) | exact HB.out)))); have n1_ := Aside0.mk (below_step (by repeat (first | (with_reducible first | exact HB.out | apply below_alloc | apply pw_below_drewN | apply below_drew1) | exact HB.out)) hb); clear HB; have HO160 := n0_; have HB := n1_; clear n0_ n1_; (try clear hb); (try clear hb2); (try clear hk); (try clear hi); (try clear ho0); (try simp only [errW_none, errW_some])))
    go_ret2
    first | exact ⟨_, qe161, by first | rfl | (simp [errW_none, errW_some] <;> rfl) | (simp [*, errW_none, errW_some] <;> rfl), by first | exact Kd.S_nil _ _ _ _ _ | exact Kd.N_nil _ _ _ _ _ | exact Kd.V_nil _ _ _ _ _ | exact Kd.Q_nil _ _ _ _ _ | exact Kd.R_nil _ _ _ _ _, by repeat (first | (with_reducible first | exact HB.out | apply below_alloc | apply pw_below_drewN | apply below_drew1) | exact HB.out)⟩ | exact ⟨_, ⟨qe161, by first | rfl | (simp [errW_none, errW_some] <;> rfl) | (simp [*, errW_none, errW_some] <;> rfl)⟩, by first | exact Kd.S_nil _ _ _ _ _ | exact Kd.N_nil _ _ _ _ _ | exact Kd.V_nil _ _ _ _ _ | exact Kd.Q_nil _ _ _ _ _ | exact Kd.R_nil _ _ _ _ _, by repeat (first | (with_reducible first | exact HB.out | apply below_alloc | apply pw_below_drewN | apply below_drew1) | exact HB.out)⟩
def reedsolomon_galMultiply.f (a0 a1 : Int) : Option (Int) := if 0 ≤ a0 then (if a0 < 256 then (if 0 ≤ a1 then (if a1 < 256 then (some ((gmul a0.toNat a1.toNat : Nat) : Int)) else (none)) else (none)) else (none)) else (none)
set_option maxHeartbeats 1000000 in
set_option maxRecDepth 100000 in
theorem reedsolomon_galMultiply.core (x y z s : Nat) (w : World) (hx : x < 256) (hy : y < 256) (hx0 : ((x : Int) == 0) = false) (hy0 : ((y : Int) == 0) = false) (lx ly : Nat) (hlx : lx < 255) (hly : ly < 255)
    (c1 : w.cell? ⟨0, x, none⟩ = some (.int .u8 (lx : Int))) (c2 : w.cell? ⟨0, y, none⟩ = some (.int .u8 (ly : Int)))
    (hs : s = if 255 ≤ lx + ly then lx + ly - 255 else lx + ly) (c3 : w.cell? ⟨1, s, none⟩ = some (.int .u8 (z : Int))) :
    Calls Tryd.prog 43 #[.int .u8 (x : Int), .int .u8 (y : Int)] w fun e w' => e = .returned (.int .u8 (z : Int)) ∧ Drawn0 w w' := by
  have i1 : (x : Int) < 256 := by omega
  have i2 : (y : Int) < 256 := by omega
  have i3 : (lx : Int) < 255 := by omega
  have i4 : (ly : Int) < 255 := by omega
  by_cases h : 255 ≤ lx + ly
  · rw [if_pos h] at hs
    obtain ⟨v, hv⟩ : ∃ v : Nat, lx + ly = v + 255 := ⟨lx + ly - 255, by omega⟩
    obtain rfl : s = v := by omega
    have k1 : decide (255 ≤ (lx : Int) + (ly : Int)) = true := decide_eq_true (by omega)
    have k2 : IntKind.u8.wrap ((lx : Int) + (ly : Int) - 255) = (s : Int) := by rw [IntKind.wrap_u8]; omega
    have k3 : (lx : Int) + (ly : Int) - 255 = (s : Int) := by omega
    have hsx : (s : Int) < 256 := by omega
    clear hs hv h
    go_enter Tryd.func43, Tryd.ntmps43
    go_wp2
    go_quiet (fail)
    go_wp2
    go_ret
    exact ⟨by first | rfl | (simp; done), by repeat (first | exact Drawn0.refl _ | apply Drawn0.step)⟩
  · rw [if_neg h] at hs
    have k1 : decide (255 ≤ (lx : Int) + (ly : Int)) = false := decide_eq_false (by omega)
    have k3 : (lx : Int) + (ly : Int) = (s : Int) := by omega
    have hsx : (s : Int) < 256 := by omega
    have k4 : decide (255 ≤ (s : Int)) = false := decide_eq_false (by omega)
    clear hs h
    go_enter Tryd.func43, Tryd.ntmps43
    go_wp2
    go_quiet (fail)
    go_wp2
    go_ret
    exact ⟨by first | rfl | (simp; done), by repeat (first | exact Drawn0.refl _ | apply Drawn0.step)⟩
theorem reedsolomon_galMultiply.calls (a0 a1 : Int) (r : Int) (w : World) (hGF : GlobF w) (h : reedsolomon_galMultiply.f a0 a1 = some r) :
    Calls Tryd.prog 43 #[.int .u8 a0, .int .u8 a1] w fun e w' => e = .returned (.int .u8 r) ∧ Drawn0 w w' := by
  have hh : 0 ≤ a0 ∧ a0 < 256 ∧ 0 ≤ a1 ∧ a1 < 256 ∧ r = ((gmul a0.toNat a1.toNat : Nat) : Int) := by
    unfold reedsolomon_galMultiply.f at h
    by_cases h0 : 0 ≤ a0
    · by_cases h1 : a0 < 256
      · by_cases h2 : 0 ≤ a1
        · by_cases h3 : a1 < 256
          · rw [if_pos h0, if_pos h1, if_pos h2, if_pos h3] at h
            exact ⟨h0, h1, h2, h3, (Option.some.inj h).symm⟩
          · rw [if_pos h0, if_pos h1, if_pos h2, if_neg h3] at h
            exact absurd h (by simp)
        · rw [if_pos h0, if_pos h1, if_neg h2] at h
          exact absurd h (by simp)
      · rw [if_pos h0, if_neg h1] at h
        exact absurd h (by simp)
    · rw [if_neg h0] at h
      exact absurd h (by simp)
  clear h
  obtain ⟨h0, h1, h2, h3, hr⟩ := hh
  subst hr
  obtain ⟨x, rfl⟩ := Int.eq_ofNat_of_zero_le h0
  obtain ⟨y, rfl⟩ := Int.eq_ofNat_of_zero_le h2
  rw [Int.toNat_natCast, Int.toNat_natCast]
  unfold gmul
  by_cases hx : x = 0
  · subst hx
    rw [if_pos (.inl rfl)]
    clear h0 h1 h2 h3 hGF
    go_enter Tryd.func43, Tryd.ntmps43
    go_wp2
    go_ret
    exact ⟨rfl, Drawn0.refl _⟩
  · by_cases hy : y = 0
    · subst hy
      rw [if_pos (.inr rfl)]
      have e0 : ((x : Int) == 0) = false := by simp; omega
      clear h0 h1 h2 h3 hGF hx
      go_enter Tryd.func43, Tryd.ntmps43
      go_wp2
      go_ret
      exact ⟨rfl, Drawn0.refl _⟩
    · rw [if_neg (by omega)]
      have g1 := glog_lt x
      have g2 := glog_lt y
      refine reedsolomon_galMultiply.core x y _ _ w (by omega) (by omega) (by simp; omega) (by simp; omega) _ _ g1 g2 (hGF.log x (by omega)) (hGF.log y (by omega)) rfl (hGF.exp _ ?_)
      split <;> omega
end Go.Proofs.YtpeikjnkbjabpaaDoor.V
