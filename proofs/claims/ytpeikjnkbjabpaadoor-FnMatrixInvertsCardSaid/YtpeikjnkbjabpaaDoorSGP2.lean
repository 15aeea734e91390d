import Derived.Test.YtpeikjnkbjabpaaDoorSGP0
namespace Go.Proofs.YtpeikjnkbjabpaaDoor.P
open Go.RowKit Go.Proofs.YtpeikjnkbjabpaaDoorW.PrintWords Go.Proofs.YtpeikjnkbjabpaaDoorW.PrintLast Go.Proofs.YtpeikjnkbjabpaaDoorW.PrintMore
attribute [local go_sem] max2_int min2_int max_two min_two max_three min_three max_four min_four   -- for this text's walks alone
set_option linter.unusedVariables false
set_option linter.unusedSimpArgs false
mutual
def spec_EqualMatrices.l0 : Nat → List (List Int) → List (List Int) → Int → Int → Option (Bool)
  | 0, _, _, _, _ => none
  | k + 1, x0, x1, x13, x14 => if x14 < x13 then (if 0 ≤ x14 then (if x14 < (x0.length : Int) then (if x14 < (x1.length : Int) then (if ((rd_L1 x0 x14).length : Int) = ((rd_L1 x1 x14).length : Int) then (spec_EqualMatrices.l1 k x0 x1 x14 x13 x14 ((rd_L1 x0 x14).length : Int) 0) else (some false)) else (none)) else (none)) else (none)) else (some true)
def spec_EqualMatrices.l1 : Nat → List (List Int) → List (List Int) → Int → Int → Int → Int → Int → Option (Bool)
  | 0, _, _, _, _, _, _, _ => none
  | k + 1, x0, x1, x5, x13, x14, x32, x33 => if x33 < x32 then (if 0 ≤ x5 then (if x5 < (x0.length : Int) then (if 0 ≤ x33 then (if x33 < ((rd_L1 x0 x5).length : Int) then (if x5 < (x1.length : Int) then (if x33 < ((rd_L1 x1 x5).length : Int) then (if (rd (rd_L1 x0 x5) x33) = (rd (rd_L1 x1 x5) x33) then (spec_EqualMatrices.l1 k x0 x1 x5 x13 x14 x32 (wrap64 (x33 + 1))) else (some false)) else (none)) else (none)) else (none)) else (none)) else (none)) else (none)) else (spec_EqualMatrices.l0 k x0 x1 x13 (wrap64 (x14 + 1)))
end
def spec_EqualMatrices.f (k : Nat) (l0 : List (List Int)) (l1 : List (List Int)) : Option (Bool) := if (l0.length : Int) = (l1.length : Int) then (spec_EqualMatrices.l0 k l0 l1 (l0.length : Int) 0) else (some false)
theorem spec_EqualMatrices.mono_l : ∀ k, (∀ y0 y1 y2 y3, LeO (spec_EqualMatrices.l0 k y0 y1 y2 y3) (spec_EqualMatrices.l0 (k + 1) y0 y1 y2 y3)) ∧ (∀ y0 y1 y2 y3 y4 y5 y6, LeO (spec_EqualMatrices.l1 k y0 y1 y2 y3 y4 y5 y6) (spec_EqualMatrices.l1 (k + 1) y0 y1 y2 y3 y4 y5 y6))
  | 0 => ⟨fun _ _ _ _ r h => by simp [spec_EqualMatrices.l0] at h, fun _ _ _ _ _ _ _ r h => by simp [spec_EqualMatrices.l1] at h⟩
  | k + 1 => by
    obtain ⟨ih0, ih1⟩ := spec_EqualMatrices.mono_l k
    refine ⟨?_, ?_⟩
    · intro y0 y1 y2 y3
      unfold spec_EqualMatrices.l0
      repeat' first
      | (with_reducible exact ih0 _ _ _ _)
      | (with_reducible exact ih1 _ _ _ _ _ _ _)
      | (with_reducible exact LeO.refl _)
      | (with_reducible exact LeO.none _)
      | (with_reducible refine LeO.ite ?_ ?_)
      | (with_reducible refine LeO.bind ?_ (fun _ => ?_))
      | exact ih0 _ _ _ _
      | exact ih1 _ _ _ _ _ _ _
      | exact LeO.none _
      | refine LeO.ite ?_ ?_
      | refine LeO.bind ?_ (fun _ => ?_)
    · intro y0 y1 y2 y3 y4 y5 y6
      unfold spec_EqualMatrices.l1
      repeat' first
      | (with_reducible exact ih0 _ _ _ _)
      | (with_reducible exact ih1 _ _ _ _ _ _ _)
      | (with_reducible exact LeO.refl _)
      | (with_reducible exact LeO.none _)
      | (with_reducible refine LeO.ite ?_ ?_)
      | (with_reducible refine LeO.bind ?_ (fun _ => ?_))
      | exact ih0 _ _ _ _
      | exact ih1 _ _ _ _ _ _ _
      | exact LeO.none _
      | refine LeO.ite ?_ ?_
      | refine LeO.bind ?_ (fun _ => ?_)
theorem spec_EqualMatrices.mono : ∀ a0 a1 k, LeO (spec_EqualMatrices.f k a0 a1) (spec_EqualMatrices.f (k + 1) a0 a1) := by
  intro a0 a1 k
  obtain ⟨ih0, ih1⟩ := spec_EqualMatrices.mono_l k
  unfold spec_EqualMatrices.f
  repeat' first
      | (with_reducible exact ih0 _ _ _ _)
      | (with_reducible exact ih1 _ _ _ _ _ _ _)
      | (with_reducible exact LeO.refl _)
      | (with_reducible exact LeO.none _)
      | (with_reducible refine LeO.ite ?_ ?_)
      | (with_reducible refine LeO.bind ?_ (fun _ => ?_))
      | exact ih0 _ _ _ _
      | exact ih1 _ _ _ _ _ _ _
      | exact LeO.none _
      | refine LeO.ite ?_ ?_
      | refine LeO.bind ?_ (fun _ => ?_)
set_option maxHeartbeats 8000000 in
set_option maxRecDepth 100000 in
theorem spec_EqualMatrices.calls (k : Nat) (A0 : Option Addr) (c0 : Nat) (l0 : List (List Int)) (A1 : Option Addr) (c1 : Nat) (l1 : List (List Int)) (r : Bool) (w : World) (hr0 : Kd.C (Kd.slice 5 (Kd.int .u8)) w A0 l0.length l0) (hc0 : l0.length ≤ c0) (hr1 : Kd.C (Kd.slice 5 (Kd.int .u8)) w A1 l1.length l1) (hc1 : l1.length ≤ c1) (h : spec_EqualMatrices.f k l0 l1 = some r) :
    Calls Tryd.prog 19 #[.slice A0 l0.length c0, .slice A1 l1.length c1] w fun e w' => e = .returned (.bool r) ∧ Drawn0 w w' := by
  have HR0 := Aside0.mk hr0
  have HC0 := Aside0.mk hc0
  clear hr0 hc0
  have HR1 := Aside0.mk hr1
  have HC1 := Aside0.mk hc1
  clear hr1 hc1
  have H : (if (l0.length : Int) = (l1.length : Int) then (spec_EqualMatrices.l0 k l0 l1 (l0.length : Int) 0) else (some false)) = some r := h
  clear h
  by_cases c3 : (l0.length : Int) = (l1.length : Int)
  · rw [if_pos c3] at H
    have c3b0 : ((l0.length : Int) == (l1.length : Int)) = true := beq_iff_eq.mpr c3
    have c3b1 : ((l0.length : Int) != (l1.length : Int)) = false := bne_eq_false_iff_eq.mpr c3
    have c3b2 : (l0.length == l1.length) = true := by first | simpa using c3 | (simp at c3 ⊢; omega)
    clear c3
    have H' := Aside0.mk H
    clear H
    go_enter Tryd.func19, Tryd.ntmps19
    go_wp2
    repeat (go_quiet (fail); try go_wp2)
    try simp only [Act.put, List.setIfInBounds_toArray, List.set_cons_zero, List.set_cons_succ]
    go_loopg [14] k (fun kq v14 w' => ∃ (x14_1 : Int), v14 = .int .i64 x14_1 ∧ Aside0 (spec_EqualMatrices.l0 kq l0 l1 (l0.length : Int) x14_1 = some r) ∧ Aside0 (kq ≤ k) ∧ Drawn0 w w')
    case atStart => exact ⟨(0), (by first | rfl | (simp; done) | (simp [*]; done)), H', ⟨Nat.le_refl _⟩, by repeat (first | exact Drawn0.refl _ | apply Drawn0.step)⟩
    case round =>
      clear H'
      try clear c1
      try clear p2
      try clear c3
      try clear c3b0
      try clear c3b1
      try clear c3b2
      obtain ⟨x14_1, rfl, HA, HK1, ⟨m1, rfl⟩⟩ := hrel
      cases gk with
      | zero => exact absurd HA.out (by simp [spec_EqualMatrices.l0])
      | succ k1 =>
        have H := HA.out
        clear HA
        simp only [spec_EqualMatrices.l0] at H
        by_cases c4 : x14_1 < (l0.length : Int)
        · rw [if_pos c4] at H
          have c4b0 : decide (x14_1 < (l0.length : Int)) = true := decide_eq_true c4
          clear c4
          by_cases c5 : 0 ≤ x14_1
          · rw [if_pos c5] at H
            have c5b0 : decide (0 ≤ x14_1) = true := decide_eq_true c5
            clear c5
            by_cases c6 : x14_1 < (l0.length : Int)
            · rw [if_pos c6] at H
              have c6b0 : decide (x14_1 < (l0.length : Int)) = true := decide_eq_true c6
              clear c6
              by_cases c7 : x14_1 < (l1.length : Int)
              · rw [if_pos c7] at H
                have c7b0 : decide (x14_1 < (l1.length : Int)) = true := decide_eq_true c7
                clear c7
                by_cases c8 : ((rd_L1 l0 x14_1).length : Int) = ((rd_L1 l1 x14_1).length : Int)
                · rw [if_pos c8] at H
                  have c8b0 : (((rd_L1 l0 x14_1).length : Int) == ((rd_L1 l1 x14_1).length : Int)) = true := beq_iff_eq.mpr c8
                  have c8b1 : (((rd_L1 l0 x14_1).length : Int) != ((rd_L1 l1 x14_1).length : Int)) = false := bne_eq_false_iff_eq.mpr c8
                  have c8b2 : ((rd_L1 l0 x14_1).length == (rd_L1 l1 x14_1).length) = true := by first | simpa using c8 | (simp at c8 ⊢; omega)
                  clear c8
                  have H' := Aside0.mk H
                  clear H
                  have p108 : 0 ≤ (x14_1 : Int) := of_decide_eq_true (by first | (with_reducible assumption) | assumption)
                  have q108 : x14_1 < (l0.length : Int) := of_decide_eq_true (by first | (with_reducible assumption) | assumption)
                  obtain ⟨ad108, A108_0, c108_0, e108, hx108_0, hl108_0, hi108_0⟩ := at_L1 HR0.out x14_1 p108 q108
                  cases e108
                  have HR108_0 := Aside0.mk hi108_0
                  have HC108_0 := Aside0.mk hl108_0
                  clear hi108_0 hl108_0
                  replace p108 := eq_true p108
                  replace q108 := eq_true q108
                  have p109 : 0 ≤ (x14_1 : Int) := of_decide_eq_true (by first | (with_reducible assumption) | assumption)
                  have q109 : x14_1 < (l1.length : Int) := of_decide_eq_true (by first | (with_reducible assumption) | assumption)
                  obtain ⟨ad109, A109_0, c109_0, e109, hx109_0, hl109_0, hi109_0⟩ := at_L1 HR1.out x14_1 p109 q109
                  cases e109
                  have HR109_0 := Aside0.mk hi109_0
                  have HC109_0 := Aside0.mk hl109_0
                  clear hi109_0 hl109_0
                  replace p109 := eq_true p109
                  replace q109 := eq_true q109
                  have p110 : 0 ≤ (x14_1 : Int) := of_decide_eq_true (by first | (with_reducible assumption) | assumption)
                  have q110 : x14_1 < (l0.length : Int) := of_decide_eq_true (by first | (with_reducible assumption) | assumption)
                  obtain ⟨ad110, A110_0, c110_0, e110, hx110_0, hl110_0, hi110_0⟩ := at_L1 HR0.out x14_1 p110 q110
                  obtain rfl : ad108 = ad110 := (by injection e110)
                  have HR110_0 := Aside0.mk hi110_0
                  have HC110_0 := Aside0.mk hl110_0
                  clear hi110_0 hl110_0
                  replace p110 := eq_true p110
                  replace q110 := eq_true q110
                  have ea_ := Option.some.inj (hx108_0.symm.trans hx110_0)
                  injection ea_ with ea_ en_ ec_
                  subst ea_
                  subst ec_
                  clear en_
                  go_wp2
                  repeat (go_quiet (fail); try go_wp2)
                  try simp only [Act.put, List.setIfInBounds_toArray, List.set_cons_zero, List.set_cons_succ]
                  go_loopg [33] k1 (fun kq v33 w' => ∃ (x33_2 : Int), v33 = .int .i64 x33_2 ∧ Aside0 (spec_EqualMatrices.l1 kq l0 l1 x14_1 (l0.length : Int) x14_1 ((rd_L1 l0 x14_1).length : Int) x33_2 = some r) ∧ Aside0 (kq ≤ k1) ∧ Drawn0 w w')
                  case atStart => exact ⟨(0), (by first | rfl | (simp; done) | (simp [*]; done)), H', ⟨Nat.le_refl _⟩, by repeat (first | exact Drawn0.refl _ | apply Drawn0.step)⟩
                  case round =>
                    clear H'
                    try clear c1
                    try clear p1
                    try clear q1
                    try clear hx1
                    try clear p2
                    try clear c3
                    try clear c3b0
                    try clear c3b1
                    try clear c3b2
                    try clear c4
                    try clear c4b0
                    try clear c5
                    try clear c5b0
                    try clear c6
                    try clear c6b0
                    try clear c7
                    try clear c7b0
                    try clear c8
                    try clear c8b0
                    try clear c8b1
                    try clear c8b2
                    try clear hx108_0
                    try clear hx109_0
                    try clear hx110_0
                    try clear p108
                    try clear p109
                    try clear p110
                    try clear p2
                    try clear q108
                    try clear q109
                    try clear q110
                    obtain ⟨x33_2, rfl, HA, HK2, ⟨m2, rfl⟩⟩ := hrel
                    cases gk with
                    | zero => exact absurd HA.out (by simp [spec_EqualMatrices.l1])
                    | succ k2 =>
                      have H := HA.out
                      clear HA
                      simp only [spec_EqualMatrices.l1] at H
                      by_cases c9 : x33_2 < ((rd_L1 l0 x14_1).length : Int)
                      · rw [if_pos c9] at H
                        have c9b0 : decide (x33_2 < ((rd_L1 l0 x14_1).length : Int)) = true := decide_eq_true c9
                        clear c9
                        by_cases c10 : 0 ≤ x14_1
                        · rw [if_pos c10] at H
                          have c10b0 : decide (0 ≤ x14_1) = true := decide_eq_true c10
                          clear c10
                          by_cases c11 : x14_1 < (l0.length : Int)
                          · rw [if_pos c11] at H
                            have c11b0 : decide (x14_1 < (l0.length : Int)) = true := decide_eq_true c11
                            clear c11
                            by_cases c12 : 0 ≤ x33_2
                            · rw [if_pos c12] at H
                              have c12b0 : decide (0 ≤ x33_2) = true := decide_eq_true c12
                              clear c12
                              by_cases c13 : x33_2 < ((rd_L1 l0 x14_1).length : Int)
                              · rw [if_pos c13] at H
                                have c13b0 : decide (x33_2 < ((rd_L1 l0 x14_1).length : Int)) = true := decide_eq_true c13
                                clear c13
                                by_cases c14 : x14_1 < (l1.length : Int)
                                · rw [if_pos c14] at H
                                  have c14b0 : decide (x14_1 < (l1.length : Int)) = true := decide_eq_true c14
                                  clear c14
                                  by_cases c15 : x33_2 < ((rd_L1 l1 x14_1).length : Int)
                                  · rw [if_pos c15] at H
                                    have c15b0 : decide (x33_2 < ((rd_L1 l1 x14_1).length : Int)) = true := decide_eq_true c15
                                    clear c15
                                    by_cases c16 : (rd (rd_L1 l0 x14_1) x33_2) = (rd (rd_L1 l1 x14_1) x33_2)
                                    · rw [if_pos c16] at H
                                      have c16b0 : ((rd (rd_L1 l0 x14_1) x33_2) == (rd (rd_L1 l1 x14_1) x33_2)) = true := beq_iff_eq.mpr c16
                                      have c16b1 : ((rd (rd_L1 l0 x14_1) x33_2) != (rd (rd_L1 l1 x14_1) x33_2)) = false := bne_eq_false_iff_eq.mpr c16
                                      clear c16
                                      have H' := Aside0.mk H
                                      clear H
                                      have p111 : 0 ≤ (x14_1 : Int) := of_decide_eq_true (by first | (with_reducible assumption) | assumption)
                                      have q111 : x14_1 < (l0.length : Int) := of_decide_eq_true (by first | (with_reducible assumption) | assumption)
                                      obtain ⟨ad111, A111_0, c111_0, e111, hx111_0, hl111_0, hi111_0⟩ := at_L1 HR0.out x14_1 p111 q111
                                      obtain rfl : ad108 = ad111 := (by injection e111)
                                      have HR111_0 := Aside0.mk hi111_0
                                      have HC111_0 := Aside0.mk hl111_0
                                      clear hi111_0 hl111_0
                                      replace p111 := eq_true p111
                                      replace q111 := eq_true q111
                                      have p112 : 0 ≤ (x33_2 : Int) := of_decide_eq_true (by first | (with_reducible assumption) | assumption)
                                      have q112 : x33_2 < ((rd_L1 l0 x14_1).length : Int) := of_decide_eq_true (by first | (with_reducible assumption) | assumption)
                                      obtain ⟨ad112, e112, hx112_0⟩ := Kd.at_int HR111_0.out x33_2 p112 q112
                                      cases e112
                                      replace p112 := eq_true p112
                                      replace q112 := eq_true q112
                                      have p113 : 0 ≤ (x14_1 : Int) := of_decide_eq_true (by first | (with_reducible assumption) | assumption)
                                      have q113 : x14_1 < (l1.length : Int) := of_decide_eq_true (by first | (with_reducible assumption) | assumption)
                                      obtain ⟨ad113, A113_0, c113_0, e113, hx113_0, hl113_0, hi113_0⟩ := at_L1 HR1.out x14_1 p113 q113
                                      obtain rfl : ad109 = ad113 := (by injection e113)
                                      have HR113_0 := Aside0.mk hi113_0
                                      have HC113_0 := Aside0.mk hl113_0
                                      clear hi113_0 hl113_0
                                      replace p113 := eq_true p113
                                      replace q113 := eq_true q113
                                      have p114 : 0 ≤ (x33_2 : Int) := of_decide_eq_true (by first | (with_reducible assumption) | assumption)
                                      have q114 : x33_2 < ((rd_L1 l1 x14_1).length : Int) := of_decide_eq_true (by first | (with_reducible assumption) | assumption)
                                      obtain ⟨ad114, e114, hx114_0⟩ := Kd.at_int HR113_0.out x33_2 p114 q114
                                      cases e114
                                      replace p114 := eq_true p114
                                      replace q114 := eq_true q114
                                      go_wp2
                                      repeat (go_quiet (fail); try go_wp2)
                                      go_roundg k2
                                      case measure => have := HK1.out; have := HK2.out; omega
                                      case rel => exact ⟨(wrap64 (x33_2 + 1)), (by first | rfl | (simp; done) | (simp [*]; done)), H', ⟨by have := HK1.out; have := HK2.out; omega⟩, by repeat (first | exact Drawn0.refl _ | apply Drawn0.step)⟩
                                    · rw [if_neg c16] at H
                                      have c16b0 : ((rd (rd_L1 l0 x14_1) x33_2) == (rd (rd_L1 l1 x14_1) x33_2)) = false := beq_eq_false_iff_ne.mpr c16
                                      have c16b1 : ((rd (rd_L1 l0 x14_1) x33_2) != (rd (rd_L1 l1 x14_1) x33_2)) = true := bne_iff_ne.mpr c16
                                      obtain rfl := Option.some.inj H
                                      have p111 : 0 ≤ (x14_1 : Int) := of_decide_eq_true (by first | (with_reducible assumption) | assumption)
                                      have q111 : x14_1 < (l0.length : Int) := of_decide_eq_true (by first | (with_reducible assumption) | assumption)
                                      obtain ⟨ad111, A111_0, c111_0, e111, hx111_0, hl111_0, hi111_0⟩ := at_L1 HR0.out x14_1 p111 q111
                                      obtain rfl : ad108 = ad111 := (by injection e111)
                                      have HR111_0 := Aside0.mk hi111_0
                                      have HC111_0 := Aside0.mk hl111_0
                                      clear hi111_0 hl111_0
                                      replace p111 := eq_true p111
                                      replace q111 := eq_true q111
                                      have p112 : 0 ≤ (x33_2 : Int) := of_decide_eq_true (by first | (with_reducible assumption) | assumption)
                                      have q112 : x33_2 < ((rd_L1 l0 x14_1).length : Int) := of_decide_eq_true (by first | (with_reducible assumption) | assumption)
                                      obtain ⟨ad112, e112, hx112_0⟩ := Kd.at_int HR111_0.out x33_2 p112 q112
                                      cases e112
                                      replace p112 := eq_true p112
                                      replace q112 := eq_true q112
                                      have p113 : 0 ≤ (x14_1 : Int) := of_decide_eq_true (by first | (with_reducible assumption) | assumption)
                                      have q113 : x14_1 < (l1.length : Int) := of_decide_eq_true (by first | (with_reducible assumption) | assumption)
                                      obtain ⟨ad113, A113_0, c113_0, e113, hx113_0, hl113_0, hi113_0⟩ := at_L1 HR1.out x14_1 p113 q113
                                      obtain rfl : ad109 = ad113 := (by injection e113)
                                      have HR113_0 := Aside0.mk hi113_0
                                      have HC113_0 := Aside0.mk hl113_0
                                      clear hi113_0 hl113_0
                                      replace p113 := eq_true p113
                                      replace q113 := eq_true q113
                                      have p114 : 0 ≤ (x33_2 : Int) := of_decide_eq_true (by first | (with_reducible assumption) | assumption)
                                      have q114 : x33_2 < ((rd_L1 l1 x14_1).length : Int) := of_decide_eq_true (by first | (with_reducible assumption) | assumption)
                                      obtain ⟨ad114, e114, hx114_0⟩ := Kd.at_int HR113_0.out x33_2 p114 q114
                                      cases e114
                                      replace p114 := eq_true p114
                                      replace q114 := eq_true q114
                                      go_wp2
                                      repeat (go_quiet (fail); try go_wp2)
                                      go_ret
                                      exact ⟨by first | rfl | (simp; done) | (simp [*]; done), by repeat (first | exact Drawn0.refl _ | apply Drawn0.step)⟩
                                  · rw [if_neg c15] at H
                                    exact absurd H (by simp)
                                · rw [if_neg c14] at H
                                  exact absurd H (by simp)
                              · rw [if_neg c13] at H
                                exact absurd H (by simp)
                            · rw [if_neg c12] at H
                              exact absurd H (by simp)
                          · rw [if_neg c11] at H
                            exact absurd H (by simp)
                        · rw [if_neg c10] at H
                          exact absurd H (by simp)
                      · rw [if_neg c9] at H
                        have c9b0 : decide (x33_2 < ((rd_L1 l0 x14_1).length : Int)) = false := decide_eq_false c9
                        clear c9
                        have H' := Aside0.mk H
                        clear H
                        go_wp2
                        repeat (go_quiet (fail); try go_wp2)
                        go_roundg k2
                        case measure => have := HK1.out; have := HK2.out; omega
                        case rel => exact ⟨(wrap64 (x14_1 + 1)), (by first | rfl | (simp; done) | (simp [*]; done)), H', ⟨by have := HK1.out; have := HK2.out; omega⟩, by repeat (first | exact Drawn0.refl _ | apply Drawn0.step)⟩
                · rw [if_neg c8] at H
                  have c8b0 : (((rd_L1 l0 x14_1).length : Int) == ((rd_L1 l1 x14_1).length : Int)) = false := beq_eq_false_iff_ne.mpr c8
                  have c8b1 : (((rd_L1 l0 x14_1).length : Int) != ((rd_L1 l1 x14_1).length : Int)) = true := bne_iff_ne.mpr c8
                  have c8b2 : ((rd_L1 l0 x14_1).length == (rd_L1 l1 x14_1).length) = false := by first | simpa using c8 | (simp at c8 ⊢; omega)
                  obtain rfl := Option.some.inj H
                  have p108 : 0 ≤ (x14_1 : Int) := of_decide_eq_true (by first | (with_reducible assumption) | assumption)
                  have q108 : x14_1 < (l0.length : Int) := of_decide_eq_true (by first | (with_reducible assumption) | assumption)
                  obtain ⟨ad108, A108_0, c108_0, e108, hx108_0, hl108_0, hi108_0⟩ := at_L1 HR0.out x14_1 p108 q108
                  cases e108
                  have HR108_0 := Aside0.mk hi108_0
                  have HC108_0 := Aside0.mk hl108_0
                  clear hi108_0 hl108_0
                  replace p108 := eq_true p108
                  replace q108 := eq_true q108
                  have p109 : 0 ≤ (x14_1 : Int) := of_decide_eq_true (by first | (with_reducible assumption) | assumption)
                  have q109 : x14_1 < (l1.length : Int) := of_decide_eq_true (by first | (with_reducible assumption) | assumption)
                  obtain ⟨ad109, A109_0, c109_0, e109, hx109_0, hl109_0, hi109_0⟩ := at_L1 HR1.out x14_1 p109 q109
                  cases e109
                  have HR109_0 := Aside0.mk hi109_0
                  have HC109_0 := Aside0.mk hl109_0
                  clear hi109_0 hl109_0
                  replace p109 := eq_true p109
                  replace q109 := eq_true q109
                  go_wp2
                  repeat (go_quiet (fail); try go_wp2)
                  go_ret
                  exact ⟨by first | rfl | (simp; done) | (simp [*]; done), by repeat (first | exact Drawn0.refl _ | apply Drawn0.step)⟩
              · rw [if_neg c7] at H
                exact absurd H (by simp)
            · rw [if_neg c6] at H
              exact absurd H (by simp)
          · rw [if_neg c5] at H
            exact absurd H (by simp)
        · rw [if_neg c4] at H
          have c4b0 : decide (x14_1 < (l0.length : Int)) = false := decide_eq_false c4
          clear c4
          obtain rfl := Option.some.inj H
          go_wp2
          repeat (go_quiet (fail); try go_wp2)
          go_ret
          exact ⟨by first | rfl | (simp; done) | (simp [*]; done), by repeat (first | exact Drawn0.refl _ | apply Drawn0.step)⟩
  · rw [if_neg c3] at H
    have c3b0 : ((l0.length : Int) == (l1.length : Int)) = false := beq_eq_false_iff_ne.mpr c3
    have c3b1 : ((l0.length : Int) != (l1.length : Int)) = true := bne_iff_ne.mpr c3
    have c3b2 : (l0.length == l1.length) = false := by first | simpa using c3 | (simp at c3 ⊢; omega)
    obtain rfl := Option.some.inj H
    go_enter Tryd.func19, Tryd.ntmps19
    go_wp2
    repeat (go_quiet (fail); try go_wp2)
    go_ret
    exact ⟨by first | rfl | (simp; done) | (simp [*]; done), by repeat (first | exact Drawn0.refl _ | apply Drawn0.step)⟩
def reedsolomon_matrix_Check.l0 : Nat → Int → List (List Int) → Int → Int → Option (Option Int)
  | 0, _, _, _, _ => none
  | k + 1, x4, x19, x20, x21 => if x21 < x20 then (if 0 ≤ x21 then (if x21 < (x19.length : Int) then (if ((rd_L1 x19 x21).length : Int) = x4 then (reedsolomon_matrix_Check.l0 k x4 x19 x20 (wrap64 (x21 + 1))) else (some (some 0))) else (none)) else (none)) else (some none)
def reedsolomon_matrix_Check.f (k : Nat) (l0 : List (List Int)) : Option (Option Int) := if (l0.length : Int) = 0 then (some (some 0)) else (if 0 < (l0.length : Int) then (if ((rd_L1 l0 0).length : Int) = 0 then (some (some 0)) else (reedsolomon_matrix_Check.l0 k ((rd_L1 l0 0).length : Int) l0 (l0.length : Int) 0)) else (none))
theorem reedsolomon_matrix_Check.mono_l : ∀ k, (∀ y0 y1 y2 y3, LeO (reedsolomon_matrix_Check.l0 k y0 y1 y2 y3) (reedsolomon_matrix_Check.l0 (k + 1) y0 y1 y2 y3))
  | 0 => fun _ _ _ _ r h => by simp [reedsolomon_matrix_Check.l0] at h
  | k + 1 => by
    have ih0 := reedsolomon_matrix_Check.mono_l k
    · intro y0 y1 y2 y3
      unfold reedsolomon_matrix_Check.l0
      repeat' first
      | (with_reducible exact ih0 _ _ _ _)
      | (with_reducible exact LeO.refl _)
      | (with_reducible exact LeO.none _)
      | (with_reducible refine LeO.ite ?_ ?_)
      | (with_reducible refine LeO.bind ?_ (fun _ => ?_))
      | exact ih0 _ _ _ _
      | exact LeO.none _
      | refine LeO.ite ?_ ?_
      | refine LeO.bind ?_ (fun _ => ?_)
theorem reedsolomon_matrix_Check.mono : ∀ a0 k, LeO (reedsolomon_matrix_Check.f k a0) (reedsolomon_matrix_Check.f (k + 1) a0) := by
  intro a0 k
  have ih0 := reedsolomon_matrix_Check.mono_l k
  unfold reedsolomon_matrix_Check.f
  repeat' first
      | (with_reducible exact ih0 _ _ _ _)
      | (with_reducible exact LeO.refl _)
      | (with_reducible exact LeO.none _)
      | (with_reducible refine LeO.ite ?_ ?_)
      | (with_reducible refine LeO.bind ?_ (fun _ => ?_))
      | exact ih0 _ _ _ _
      | exact LeO.none _
      | refine LeO.ite ?_ ?_
      | refine LeO.bind ?_ (fun _ => ?_)
set_option maxHeartbeats 8000000 in
set_option maxRecDepth 100000 in
theorem reedsolomon_matrix_Check.calls (k : Nat) (A0 : Option Addr) (c0 : Nat) (l0 : List (List Int)) (r : Option Int) (w : World) (hGE : GlobE w) (hr0 : Kd.C (Kd.slice 5 (Kd.int .u8)) w A0 l0.length l0) (hc0 : l0.length ≤ c0) (h : reedsolomon_matrix_Check.f k l0 = some r) :
    Calls Tryd.prog 57 #[.slice A0 l0.length c0] w fun e w' => ∃ q0_ : Addr, e = .returned (errW q0_ r) ∧ Below w.heap.size w w' := by
  have HR0 := Aside0.mk hr0
  have HC0 := Aside0.mk hc0
  clear hr0 hc0
  have HB := Aside0.mk (Below.refl w.heap.size w)
  have H : (if (l0.length : Int) = 0 then (some (some 0)) else (if 0 < (l0.length : Int) then (if ((rd_L1 l0 0).length : Int) = 0 then (some (some 0)) else (reedsolomon_matrix_Check.l0 k ((rd_L1 l0 0).length : Int) l0 (l0.length : Int) 0)) else (none))) = some r := h
  clear h
  by_cases c2 : (l0.length : Int) = 0
  · rw [if_pos c2] at H
    have c2b0 : ((l0.length : Int) == 0) = true := beq_iff_eq.mpr c2
    have c2b1 : ((l0.length : Int) != 0) = false := bne_eq_false_iff_eq.mpr c2
    clear c2
    obtain rfl := Option.some.inj H
    obtain ⟨qe90005, hgl5⟩ := hGE.out 5 (by decide)
    have hge5 := (by first | exact (HB.out.cell (World.block_lt_of_cell? _ _ hgl5)).trans hgl5 | exact hgl5)
    go_enter Tryd.func57, Tryd.ntmps57
    go_wp2
    go_ret
    first | exact ⟨qe90005, by first | rfl | (simp [errW_none, errW_some] <;> rfl) | (simp [*, errW_none, errW_some] <;> rfl), by repeat (first | (with_reducible first | exact HB.out | apply below_alloc | apply pw_below_drewN | apply below_drew1) | exact HB.out)⟩ | exact ⟨⟨qe90005, by first | rfl | (simp [errW_none, errW_some] <;> rfl) | (simp [*, errW_none, errW_some] <;> rfl)⟩, by repeat (first | (with_reducible first | exact HB.out | apply below_alloc | apply pw_below_drewN | apply below_drew1) | exact HB.out)⟩
  · rw [if_neg c2] at H
    have c2b0 : ((l0.length : Int) == 0) = false := beq_eq_false_iff_ne.mpr c2
    have c2b1 : ((l0.length : Int) != 0) = true := bne_iff_ne.mpr c2
    have c2b2 : ¬ (l0 = []) := fun h_ => c2 (by rw [h_]; rfl)
    by_cases c3 : 0 < (l0.length : Int)
    · rw [if_pos c3] at H
      have c3b0 : decide (0 < (l0.length : Int)) = true := decide_eq_true c3
      have c3b1 : decide (0 < l0.length) = true := decide_eq_true (by omega)
      clear c3
      by_cases c4 : ((rd_L1 l0 0).length : Int) = 0
      · rw [if_pos c4] at H
        have c4b0 : (((rd_L1 l0 0).length : Int) == 0) = true := beq_iff_eq.mpr c4
        have c4b1 : (((rd_L1 l0 0).length : Int) != 0) = false := bne_eq_false_iff_eq.mpr c4
        clear c4
        obtain rfl := Option.some.inj H
        have p115 : 0 ≤ (0 : Int) := (by omega)
        have q115 : 0 < (l0.length : Int) := of_decide_eq_true (by first | (with_reducible assumption) | assumption)
        obtain ⟨ad115, A115_0, c115_0, e115, hx115_0, hl115_0, hi115_0⟩ := at_L1 HR0.out 0 p115 q115
        cases e115
        have qi115 : (0 < l0.length) = True := eq_true (by omega)
        (try rw [show ((0 : Int)).toNat = 0 from rfl] at hx115_0)
        (try rw [Addr.add_zero'] at hx115_0)
        have HR115_0 := Aside0.mk hi115_0
        have HC115_0 := Aside0.mk hl115_0
        clear hi115_0 hl115_0
        replace p115 := eq_true p115
        replace q115 := eq_true q115
        obtain ⟨qe90006, hgl6⟩ := hGE.out 6 (by decide)
        have hge6 := (by first | exact (HB.out.cell (World.block_lt_of_cell? _ _ hgl6)).trans hgl6 | exact hgl6)
        go_enter Tryd.func57, Tryd.ntmps57
        go_wp2
        go_ret
        first | exact ⟨qe90006, by first | rfl | (simp [errW_none, errW_some] <;> rfl) | (simp [*, errW_none, errW_some] <;> rfl), by repeat (first | (with_reducible first | exact HB.out | apply below_alloc | apply pw_below_drewN | apply below_drew1) | exact HB.out)⟩ | exact ⟨⟨qe90006, by first | rfl | (simp [errW_none, errW_some] <;> rfl) | (simp [*, errW_none, errW_some] <;> rfl)⟩, by repeat (first | (with_reducible first | exact HB.out | apply below_alloc | apply pw_below_drewN | apply below_drew1) | exact HB.out)⟩
      · rw [if_neg c4] at H
        have c4b0 : (((rd_L1 l0 0).length : Int) == 0) = false := beq_eq_false_iff_ne.mpr c4
        have c4b1 : (((rd_L1 l0 0).length : Int) != 0) = true := bne_iff_ne.mpr c4
        have c4b2 : ¬ ((rd_L1 l0 0) = []) := fun h_ => c4 (by rw [h_]; rfl)
        have H' := Aside0.mk H
        clear H
        have p115 : 0 ≤ (0 : Int) := (by omega)
        have q115 : 0 < (l0.length : Int) := of_decide_eq_true (by first | (with_reducible assumption) | assumption)
        obtain ⟨ad115, A115_0, c115_0, e115, hx115_0, hl115_0, hi115_0⟩ := at_L1 HR0.out 0 p115 q115
        cases e115
        have qi115 : (0 < l0.length) = True := eq_true (by omega)
        (try rw [show ((0 : Int)).toNat = 0 from rfl] at hx115_0)
        (try rw [Addr.add_zero'] at hx115_0)
        have HR115_0 := Aside0.mk hi115_0
        have HC115_0 := Aside0.mk hl115_0
        clear hi115_0 hl115_0
        replace p115 := eq_true p115
        replace q115 := eq_true q115
        go_enter Tryd.func57, Tryd.ntmps57
        go_wp2
        try simp only [Act.put, List.setIfInBounds_toArray, List.set_cons_zero, List.set_cons_succ]
        go_loopg [21] k (fun kq v21 w' => ∃ (x21_1 : Int), v21 = .int .i64 x21_1 ∧ Aside0 (reedsolomon_matrix_Check.l0 kq ((rd_L1 l0 0).length : Int) l0 (l0.length : Int) x21_1 = some r) ∧ Aside0 (kq ≤ k) ∧ Aside0 (Below w.heap.size w w'))
        case atStart => exact ⟨(0), (by first | rfl | (simp; done) | (simp [*]; done)), H', ⟨Nat.le_refl _⟩, ⟨by repeat (first | (with_reducible first | exact HB.out | apply below_alloc | apply pw_below_drewN | apply below_drew1) | exact HB.out)⟩⟩
        case round =>
          clear H'
          try clear c1
          try clear p1
          try clear q1
          try clear hx1
          try clear qi1
          try clear c2
          try clear c2b0
          try clear c2b1
          try clear c2b2
          try clear p2
          try clear c3
          try clear c3b0
          try clear c3b1
          try clear c4
          try clear c4b0
          try clear c4b1
          try clear c4b2
          try clear hx115_0
          try clear p115
          try clear q115
          obtain ⟨x21_1, rfl, HA, HK1, HB⟩ := hrel
          cases gk with
          | zero => exact absurd HA.out (by simp [reedsolomon_matrix_Check.l0])
          | succ k1 =>
            have H := HA.out
            clear HA
            simp only [reedsolomon_matrix_Check.l0] at H
            by_cases c5 : x21_1 < (l0.length : Int)
            · rw [if_pos c5] at H
              have c5b0 : decide (x21_1 < (l0.length : Int)) = true := decide_eq_true c5
              clear c5
              by_cases c6 : 0 ≤ x21_1
              · rw [if_pos c6] at H
                have c6b0 : decide (0 ≤ x21_1) = true := decide_eq_true c6
                clear c6
                by_cases c7 : x21_1 < (l0.length : Int)
                · rw [if_pos c7] at H
                  have c7b0 : decide (x21_1 < (l0.length : Int)) = true := decide_eq_true c7
                  clear c7
                  by_cases c8 : ((rd_L1 l0 x21_1).length : Int) = ((rd_L1 l0 0).length : Int)
                  · rw [if_pos c8] at H
                    have c8b0 : (((rd_L1 l0 x21_1).length : Int) == ((rd_L1 l0 0).length : Int)) = true := beq_iff_eq.mpr c8
                    have c8b1 : (((rd_L1 l0 x21_1).length : Int) != ((rd_L1 l0 0).length : Int)) = false := bne_eq_false_iff_eq.mpr c8
                    have c8b2 : ((rd_L1 l0 x21_1).length == (rd_L1 l0 0).length) = true := by first | simpa using c8 | (simp at c8 ⊢; omega)
                    clear c8
                    have H' := Aside0.mk H
                    clear H
                    have p116 : 0 ≤ (x21_1 : Int) := of_decide_eq_true (by first | (with_reducible assumption) | assumption)
                    have q116 : x21_1 < (l0.length : Int) := of_decide_eq_true (by first | (with_reducible assumption) | assumption)
                    obtain ⟨ad116, A116_0, c116_0, e116, hx116_0, hl116_0, hi116_0⟩ := at_L1 HR0.out x21_1 p116 q116
                    obtain rfl : ad115 = ad116 := (by injection e116)
                    (try replace hx116_0 := (HB.out.cell (World.block_lt_of_cell? w _ hx116_0)).trans hx116_0)
                    have HR116_0 := Aside0.mk hi116_0
                    have HC116_0 := Aside0.mk hl116_0
                    clear hi116_0 hl116_0
                    replace p116 := eq_true p116
                    replace q116 := eq_true q116
                    go_wp2
                    go_roundg k1
                    case measure => have := HK1.out; omega
                    case rel => exact ⟨(wrap64 (x21_1 + 1)), (by first | rfl | (simp; done) | (simp [*]; done)), H', ⟨by have := HK1.out; omega⟩, ⟨by repeat (first | (with_reducible first | exact HB.out | apply below_alloc | apply pw_below_drewN | apply below_drew1) | exact HB.out)⟩⟩
                  · rw [if_neg c8] at H
                    have c8b0 : (((rd_L1 l0 x21_1).length : Int) == ((rd_L1 l0 0).length : Int)) = false := beq_eq_false_iff_ne.mpr c8
                    have c8b1 : (((rd_L1 l0 x21_1).length : Int) != ((rd_L1 l0 0).length : Int)) = true := bne_iff_ne.mpr c8
                    have c8b2 : ((rd_L1 l0 x21_1).length == (rd_L1 l0 0).length) = false := by first | simpa using c8 | (simp at c8 ⊢; omega)
                    obtain rfl := Option.some.inj H
                    have p116 : 0 ≤ (x21_1 : Int) := of_decide_eq_true (by first | (with_reducible assumption) | assumption)
                    have q116 : x21_1 < (l0.length : Int) := of_decide_eq_true (by first | (with_reducible assumption) | assumption)
                    obtain ⟨ad116, A116_0, c116_0, e116, hx116_0, hl116_0, hi116_0⟩ := at_L1 HR0.out x21_1 p116 q116
                    obtain rfl : ad115 = ad116 := (by injection e116)
                    (try replace hx116_0 := (HB.out.cell (World.block_lt_of_cell? w _ hx116_0)).trans hx116_0)
                    have HR116_0 := Aside0.mk hi116_0
                    have HC116_0 := Aside0.mk hl116_0
                    clear hi116_0 hl116_0
                    replace p116 := eq_true p116
                    replace q116 := eq_true q116
                    obtain ⟨qe90007, hgl7⟩ := hGE.out 7 (by decide)
                    have hge7 := (by first | exact (HB.out.cell (World.block_lt_of_cell? _ _ hgl7)).trans hgl7 | exact hgl7)
                    go_wp2
                    go_ret
                    first | exact ⟨qe90007, by first | rfl | (simp [errW_none, errW_some] <;> rfl) | (simp [*, errW_none, errW_some] <;> rfl), by repeat (first | (with_reducible first | exact HB.out | apply below_alloc | apply pw_below_drewN | apply below_drew1) | exact HB.out)⟩ | exact ⟨⟨qe90007, by first | rfl | (simp [errW_none, errW_some] <;> rfl) | (simp [*, errW_none, errW_some] <;> rfl)⟩, by repeat (first | (with_reducible first | exact HB.out | apply below_alloc | apply pw_below_drewN | apply below_drew1) | exact HB.out)⟩
                · rw [if_neg c7] at H
                  exact absurd H (by simp)
              · rw [if_neg c6] at H
                exact absurd H (by simp)
            · rw [if_neg c5] at H
              have c5b0 : decide (x21_1 < (l0.length : Int)) = false := decide_eq_false c5
              clear c5
              obtain rfl := Option.some.inj H
              go_wp2
              go_ret
              first | exact ⟨0, by first | rfl | (simp [errW_none, errW_some] <;> rfl) | (simp [*, errW_none, errW_some] <;> rfl), by repeat (first | (with_reducible first | exact HB.out | apply below_alloc | apply pw_below_drewN | apply below_drew1) | exact HB.out)⟩ | exact ⟨⟨0, by first | rfl | (simp [errW_none, errW_some] <;> rfl) | (simp [*, errW_none, errW_some] <;> rfl)⟩, by repeat (first | (with_reducible first | exact HB.out | apply below_alloc | apply pw_below_drewN | apply below_drew1) | exact HB.out)⟩
    · rw [if_neg c3] at H
      exact absurd H (by simp)
def reedsolomon_DoorCheck.f (k : Nat) (l0 : List (List Int)) : Option (Option Int) := (reedsolomon_matrix_Check.f k l0).bind fun t117 => (some t117)
theorem reedsolomon_DoorCheck.mono : ∀ a0 k, LeO (reedsolomon_DoorCheck.f k a0) (reedsolomon_DoorCheck.f (k + 1) a0) := by
  intro a0 k
  unfold reedsolomon_DoorCheck.f
  repeat' first
      | (with_reducible exact reedsolomon_matrix_Check.mono _ _)
      | (with_reducible exact LeO.refl _)
      | (with_reducible exact LeO.none _)
      | (with_reducible refine LeO.ite ?_ ?_)
      | (with_reducible refine LeO.bind ?_ (fun _ => ?_))
      | exact reedsolomon_matrix_Check.mono _ _
      | exact LeO.none _
      | refine LeO.ite ?_ ?_
      | refine LeO.bind ?_ (fun _ => ?_)
set_option maxHeartbeats 8000000 in
set_option maxRecDepth 100000 in
theorem reedsolomon_DoorCheck.calls (k : Nat) (A0 : Option Addr) (c0 : Nat) (l0 : List (List Int)) (r : Option Int) (w : World) (hGE : GlobE w) (hr0 : Kd.C (Kd.slice 5 (Kd.int .u8)) w A0 l0.length l0) (hc0 : l0.length ≤ c0) (h : reedsolomon_DoorCheck.f k l0 = some r) :
    Calls Tryd.prog 49 #[.slice A0 l0.length c0] w fun e w' => ∃ q0_ : Addr, e = .returned (errW q0_ r) ∧ Below w.heap.size w w' := by
  have HR0 := Aside0.mk hr0
  have HC0 := Aside0.mk hc0
  clear hr0 hc0
  have HB := Aside0.mk (Below.refl w.heap.size w)
  have H : ((reedsolomon_matrix_Check.f k l0).bind fun t117 => (some t117)) = some r := h
  clear h
  replace H := Option.bind_eq_some_iff.mp H
  obtain ⟨t117, A20, H⟩ := H
  replace H : (some t117) = some r := H
  have A2 := Aside0.mk A20
  clear A20
  obtain rfl := Option.some.inj H
  go_enter Tryd.func49, Tryd.ntmps49
  go_wp2_with (first | ((with_reducible refine gate_callee (f := 57) rfl ?_); refine goesL_ (some 4) rfl rfl Tryd.func57 (by kernel_rfl) rfl #[.slice A0 l0.length c0] rfl (by (try simp only [List.map_toArray, List.map_cons, List.map_nil]); first | done | rfl | (simp only [List.length_drop, List.length_take]; rfl)) ?_; (with_reducible refine (reedsolomon_matrix_Check.calls k _ _ l0 t117 _ ?side3 ?side1 ?side2 A2.out).mono ?_); (case side1 => repeat (first | exact HR0.out | (with_reducible refine Kd.C_alloc ?_ _) | (with_reducible refine Kd.C_drewN ?_ _) | (with_reducible refine Kd.C_drew ?_))); (case side2 => exact HC0.out); (case side3 => exact GlobE.below hGE (by repeat (first | (with_reducible first | exact HB.out | apply below_alloc | apply pw_below_drewN | apply below_drew1) | exact HB.out))); rintro e w3 ⟨qe118, rfl, hb⟩; refine ⟨_, rfl, ?_⟩; have n0_ := Aside0.mk (below_step (by repeat (first | (with_reducible first | exact HB.out | apply below_alloc | apply pw_below_drewN | apply below_drew1) | exact HB.out)) hb); clear HB; have HB := n0_; clear n0_; (try clear hb); (try clear hb2); (try clear hk); (try clear hi); (try simp only [errW_none, errW_some])))
  go_ret
  first | exact ⟨qe118, by first | rfl | (simp [errW_none, errW_some] <;> rfl) | (simp [*, errW_none, errW_some] <;> rfl), by repeat (first | (with_reducible first | exact HB.out | apply below_alloc | apply pw_below_drewN | apply below_drew1) | exact HB.out)⟩ | exact ⟨⟨qe118, by first | rfl | (simp [errW_none, errW_some] <;> rfl) | (simp [*, errW_none, errW_some] <;> rfl)⟩, by repeat (first | (with_reducible first | exact HB.out | apply below_alloc | apply pw_below_drewN | apply below_drew1) | exact HB.out)⟩
def impl_isMatrix.f (k : Nat) (l0 : List (List Int)) : Option (Bool) := (reedsolomon_DoorCheck.f k l0).bind fun t119 => (if t119.isNone = true then (some true) else (some false))
theorem impl_isMatrix.mono : ∀ a0 k, LeO (impl_isMatrix.f k a0) (impl_isMatrix.f (k + 1) a0) := by
  intro a0 k
  unfold impl_isMatrix.f
  repeat' first
      | (with_reducible exact reedsolomon_DoorCheck.mono _ _)
      | (with_reducible exact LeO.refl _)
      | (with_reducible exact LeO.none _)
      | (with_reducible refine LeO.ite ?_ ?_)
      | (with_reducible refine LeO.bind ?_ (fun _ => ?_))
      | exact reedsolomon_DoorCheck.mono _ _
      | exact LeO.none _
      | refine LeO.ite ?_ ?_
      | refine LeO.bind ?_ (fun _ => ?_)
set_option maxHeartbeats 8000000 in
set_option maxRecDepth 100000 in
theorem impl_isMatrix.calls (k : Nat) (A0 : Option Addr) (c0 : Nat) (l0 : List (List Int)) (r : Bool) (w : World) (hGE : GlobE w) (hr0 : Kd.C (Kd.slice 5 (Kd.int .u8)) w A0 l0.length l0) (hc0 : l0.length ≤ c0) (h : impl_isMatrix.f k l0 = some r) :
    Calls Tryd.prog 34 #[.slice A0 l0.length c0] w fun e w' => e = .returned (.bool r) ∧ Below w.heap.size w w' := by
  have hu52 := Tryd.underlying52
  have HR0 := Aside0.mk hr0
  have HC0 := Aside0.mk hc0
  clear hr0 hc0
  have HB := Aside0.mk (Below.refl w.heap.size w)
  have H : ((reedsolomon_DoorCheck.f k l0).bind fun t119 => (if t119.isNone = true then (some true) else (some false))) = some r := h
  clear h
  replace H := Option.bind_eq_some_iff.mp H
  obtain ⟨t119, A20, H⟩ := H
  replace H : (if t119.isNone = true then (some true) else (some false)) = some r := H
  have A2 := Aside0.mk A20
  clear A20
  rcases t119 with _ | q121
  · have H1 : (some true) = some r := by rw [if_pos (show (none : Option Int).isNone = true by rfl)] at H; exact H
    clear H
    have H := H1
    clear H1
    try simp only [errW_none, errW_some]
    obtain rfl := Option.some.inj H
    go_enter Tryd.func34, Tryd.ntmps34
    go_wp2_with (first | ((with_reducible refine gate_callee (f := 49) rfl ?_); refine goesL_ (some 4) rfl rfl Tryd.func49 (by kernel_rfl) rfl #[.slice A0 l0.length c0] rfl (by (try simp only [List.map_toArray, List.map_cons, List.map_nil]); first | done | rfl | (simp only [List.length_drop, List.length_take]; rfl)) ?_; (with_reducible refine (reedsolomon_DoorCheck.calls k _ _ l0 none _ ?side3 ?side1 ?side2 A2.out).mono ?_); (case side1 => repeat (first | exact HR0.out | (with_reducible refine Kd.C_alloc ?_ _) | (with_reducible refine Kd.C_drewN ?_ _) | (with_reducible refine Kd.C_drew ?_))); (case side2 => exact HC0.out); (case side3 => exact GlobE.below hGE (by repeat (first | (with_reducible first | exact HB.out | apply below_alloc | apply pw_below_drewN | apply below_drew1) | exact HB.out))); rintro e w3 ⟨qe120, rfl, hb⟩; refine ⟨_, rfl, ?_⟩; have n0_ := Aside0.mk (below_step (by repeat (first | (with_reducible first | exact HB.out | apply below_alloc | apply pw_below_drewN | apply below_drew1) | exact HB.out)) hb); clear HB; have HB := n0_; clear n0_; (try clear hb); (try clear hb2); (try clear hk); (try clear hi); (try simp only [errW_none, errW_some])))
    go_ret
    exact ⟨by first | rfl | (simp [errW_none, errW_some] <;> rfl) | (simp [*, errW_none, errW_some] <;> rfl), by repeat (first | (with_reducible first | exact HB.out | apply below_alloc | apply pw_below_drewN | apply below_drew1) | exact HB.out)⟩
  · have H1 : (some false) = some r := by rw [if_neg (show ¬ (some q121).isNone = true by simp)] at H; exact H
    clear H
    have H := H1
    clear H1
    try simp only [errW_none, errW_some]
    obtain rfl := Option.some.inj H
    go_enter Tryd.func34, Tryd.ntmps34
    go_wp2_with (first | ((with_reducible refine gate_callee (f := 49) rfl ?_); refine goesL_ (some 4) rfl rfl Tryd.func49 (by kernel_rfl) rfl #[.slice A0 l0.length c0] rfl (by (try simp only [List.map_toArray, List.map_cons, List.map_nil]); first | done | rfl | (simp only [List.length_drop, List.length_take]; rfl)) ?_; (with_reducible refine (reedsolomon_DoorCheck.calls k _ _ l0 (some q121) _ ?side3 ?side1 ?side2 A2.out).mono ?_); (case side1 => repeat (first | exact HR0.out | (with_reducible refine Kd.C_alloc ?_ _) | (with_reducible refine Kd.C_drewN ?_ _) | (with_reducible refine Kd.C_drew ?_))); (case side2 => exact HC0.out); (case side3 => exact GlobE.below hGE (by repeat (first | (with_reducible first | exact HB.out | apply below_alloc | apply pw_below_drewN | apply below_drew1) | exact HB.out))); rintro e w4 ⟨qe120, rfl, hb⟩; refine ⟨_, rfl, ?_⟩; have n0_ := Aside0.mk (below_step (by repeat (first | (with_reducible first | exact HB.out | apply below_alloc | apply pw_below_drewN | apply below_drew1) | exact HB.out)) hb); clear HB; have HB := n0_; clear n0_; (try clear hb); (try clear hb2); (try clear hk); (try clear hi); (try simp only [errW_none, errW_some])))
    go_ret
    exact ⟨by first | rfl | (simp [errW_none, errW_some] <;> rfl) | (simp [*, errW_none, errW_some] <;> rfl), by repeat (first | (with_reducible first | exact HB.out | apply below_alloc | apply pw_below_drewN | apply below_drew1) | exact HB.out)⟩
def impl_rows.l0 : Nat → List (List Int) → List (List Int) → Int → Int → Option ((List (List Int)))
  | 0, _, _, _, _ => none
  | k + 1, x3, x6, x7, x8 => if x8 < x7 then (if 0 ≤ x8 then (if x8 < (x6.length : Int) then (if ([] : List Int).length + (rd_L1 x6 x8).length < 140737488355328 then (if x3.length < 5864062014805 then (impl_rows.l0 k (x3 ++ [(([] : List Int) ++ (rd_L1 x6 x8))]) x6 x7 (wrap64 (x8 + 1))) else (none)) else (none)) else (none)) else (none)) else (some x3)
def impl_rows.f (k : Nat) (l0 : List (List Int)) : Option ((List (List Int))) := impl_rows.l0 k ([] : List (List Int)) l0 (l0.length : Int) 0
theorem impl_rows.mono_l : ∀ k, (∀ y0 y1 y2 y3, LeO (impl_rows.l0 k y0 y1 y2 y3) (impl_rows.l0 (k + 1) y0 y1 y2 y3))
  | 0 => fun _ _ _ _ r h => by simp [impl_rows.l0] at h
  | k + 1 => by
    have ih0 := impl_rows.mono_l k
    · intro y0 y1 y2 y3
      unfold impl_rows.l0
      repeat' first
      | (with_reducible exact ih0 _ _ _ _)
      | (with_reducible exact LeO.refl _)
      | (with_reducible exact LeO.none _)
      | (with_reducible refine LeO.ite ?_ ?_)
      | (with_reducible refine LeO.bind ?_ (fun _ => ?_))
      | exact ih0 _ _ _ _
      | exact LeO.none _
      | refine LeO.ite ?_ ?_
      | refine LeO.bind ?_ (fun _ => ?_)
theorem impl_rows.mono : ∀ a0 k, LeO (impl_rows.f k a0) (impl_rows.f (k + 1) a0) := by
  intro a0 k
  have ih0 := impl_rows.mono_l k
  unfold impl_rows.f
  repeat' first
      | (with_reducible exact ih0 _ _ _ _)
      | (with_reducible exact LeO.refl _)
      | (with_reducible exact LeO.none _)
      | (with_reducible refine LeO.ite ?_ ?_)
      | (with_reducible refine LeO.bind ?_ (fun _ => ?_))
      | exact ih0 _ _ _ _
      | exact LeO.none _
      | refine LeO.ite ?_ ?_
      | refine LeO.bind ?_ (fun _ => ?_)
set_option maxHeartbeats 8000000 in
set_option maxRecDepth 100000 in
theorem impl_rows.calls (k : Nat) (A0 : Option Addr) (c0 : Nat) (l0 : List (List Int)) (r : List (List Int)) (w : World) (hr0 : Kd.C (Kd.slice 5 (Kd.int .u8)) w A0 l0.length l0) (hc0 : l0.length ≤ c0) (h : impl_rows.f k l0 = some r) :
    Calls Tryd.prog 36 #[.slice A0 l0.length c0] w fun e w' => ∃ v0_ : Value, e = .returned (v0_) ∧ Kd.S (Kd.slice 5 (Kd.int .u8)) 22 w' w.heap.size (fun _ => True) v0_ r ∧ Below w.heap.size w w' := by
  have HR0 := Aside0.mk hr0
  have HC0 := Aside0.mk hc0
  clear hr0 hc0
  have HB := Aside0.mk (Below.refl w.heap.size w)
  have H : (impl_rows.l0 k ([] : List (List Int)) l0 (l0.length : Int) 0) = some r := h
  clear h
  have H' := Aside0.mk H
  clear H
  go_enter Tryd.func36, Tryd.ntmps36
  go_wp2
  try simp only [Act.put, List.setIfInBounds_toArray, List.set_cons_zero, List.set_cons_succ]
  go_loopg [3, 8] k (fun kq v3 v8 w' => ∃ (x3_1 : List (List Int)) (x8_1 : Int), v8 = .int .i64 x8_1 ∧ Aside0 (impl_rows.l0 kq x3_1 l0 (l0.length : Int) x8_1 = some r) ∧ Aside0 (kq ≤ k) ∧ Aside0 (Kd.S (Kd.slice 5 (Kd.int .u8)) 22 w' w.heap.size (fun _ => True) v3 x3_1) ∧ Aside0 (Below w.heap.size w w'))
  case atStart => exact ⟨(([] : List (List Int))), (0), (by first | rfl | (simp; done) | (simp [*]; done)), H', ⟨Nat.le_refl _⟩, ⟨by first | exact Kd.S_nil _ _ _ _ _ | exact Kd.N_nil _ _ _ _ _ | exact Kd.V_nil _ _ _ _ _ | exact Kd.Q_nil _ _ _ _ _ | exact Kd.R_nil _ _ _ _ _⟩, ⟨by repeat (first | (with_reducible first | exact HB.out | apply below_alloc | apply pw_below_drewN | apply below_drew1) | exact HB.out)⟩⟩
  case round =>
    clear H'
    obtain ⟨x3_1, x8_1, rfl, HA, HK1, HO_3, HB⟩ := hrel
    cases gk with
    | zero => exact absurd HA.out (by simp [impl_rows.l0])
    | succ k1 =>
      have H := HA.out
      clear HA
      simp only [impl_rows.l0] at H
      by_cases c2 : x8_1 < (l0.length : Int)
      · rw [if_pos c2] at H
        have c2b0 : decide (x8_1 < (l0.length : Int)) = true := decide_eq_true c2
        clear c2
        by_cases c3 : 0 ≤ x8_1
        · rw [if_pos c3] at H
          have c3b0 : decide (0 ≤ x8_1) = true := decide_eq_true c3
          clear c3
          by_cases c4 : x8_1 < (l0.length : Int)
          · rw [if_pos c4] at H
            have c4b0 : decide (x8_1 < (l0.length : Int)) = true := decide_eq_true c4
            clear c4
            by_cases c5 : ([] : List Int).length + (rd_L1 l0 x8_1).length < 140737488355328
            · rw [if_pos c5] at H
              have LMc5 := Aside0.mk c5
              clear c5
              obtain ⟨y123, hy123⟩ : ∃ y_ : List Int, y_ = (([] : List Int) ++ (rd_L1 l0 x8_1)) := ⟨_, rfl⟩
              replace H : (if x3_1.length < 5864062014805 then (impl_rows.l0 k1 (x3_1 ++ [y123]) l0 (l0.length : Int) (wrap64 (x8_1 + 1))) else (none)) = some r := by first | (rw [hy123]; with_reducible exact H) | (have H2_ := (Option.bind_some _ _).symm.trans H; rw [hy123]; with_reducible exact H2_) | (have H2_ := (Option.bind_some _ _).symm.trans H; with_reducible exact H2_) | with_reducible exact H | (rw [hy123]; exact H) | exact H
              have Ny123 := Aside0.mk hy123
              clear hy123
              by_cases c6 : x3_1.length < 5864062014805
              · rw [if_pos c6] at H
                have LMc6 := Aside0.mk c6
                clear c6
                obtain ⟨y126, hy126⟩ : ∃ y_ : List (List Int), y_ = (x3_1 ++ [y123]) := ⟨_, rfl⟩
                replace H : (impl_rows.l0 k1 y126 l0 (l0.length : Int) (wrap64 (x8_1 + 1))) = some r := by first | (rw [hy126]; with_reducible exact H) | (have H2_ := (Option.bind_some _ _).symm.trans H; rw [hy126]; with_reducible exact H2_) | (have H2_ := (Option.bind_some _ _).symm.trans H; with_reducible exact H2_) | with_reducible exact H | (rw [hy126]; exact H) | exact H
                have Ny126 := Aside0.mk hy126
                clear hy126
                have H' := Aside0.mk H
                clear H
                have p122 : 0 ≤ (x8_1 : Int) := of_decide_eq_true (by first | (with_reducible assumption) | assumption)
                have q122 : x8_1 < (l0.length : Int) := of_decide_eq_true (by first | (with_reducible assumption) | assumption)
                obtain ⟨ad122, A122_0, c122_0, e122, hx122_0, hl122_0, hi122_0⟩ := at_L1 HR0.out x8_1 p122 q122
                cases e122
                (try replace hx122_0 := (HB.out.cell (World.block_lt_of_cell? w _ hx122_0)).trans hx122_0)
                have HR122_0 := Aside0.mk hi122_0
                have HC122_0 := Aside0.mk hl122_0
                clear hi122_0 hl122_0
                replace p122 := eq_true p122
                replace q122 := eq_true q122
                go_wp2_with (first | ((with_reducible refine gate_builtin (b := .append) (xs := #[.const (.slice none 0 0), .tmp 13]) rfl ?_); at_builtin; refine Kd.R_append_rows (Kd.int .u8) (w0 := w) w.heap.size rfl (.const (.slice none 0 0)) (.tmp 13) 22 5 (.int .u8 0) 1 rfl Tryd.underlying22 info5 rfl (by decide) (by omega) (.slice none 0 0) ([] : List Int) (rd_L1 l0 x8_1) _ _ _ (fun _ => True) (fun _ => False) rfl rfl ?aO ?aR (fun _ _ h => h) (fun _ h => h.elim) ?aF ?aB ?aS ?aL ?_; (case aR => repeat (first | exact (Kd.C_below HR122_0.out HB.out) | (with_reducible refine Kd.C_alloc ?_ _) | (with_reducible refine Kd.C_drewN ?_ _) | (with_reducible refine Kd.C_drew ?_))); (case aB => exact (by repeat (first | (with_reducible first | exact HB.out | apply below_alloc | apply pw_below_drewN | apply below_drew1) | exact HB.out))); (case aF => exact (fun _ _ => trivial)); (case aO => exact ((Kd.R_nil _ _ _ _ (fun _ => True)))); (case aS => exact (below_size (by repeat (first | (with_reducible first | exact HB.out | apply below_alloc | apply pw_below_drewN | apply below_drew1) | exact HB.out)))); (case aL => have := LMc5.out; omega); intro v124 w7 ho hb hg hat; rw [← Ny123.out] at ho; have n0_ := Aside0.mk (Kd.S_after (Kd.S_apart_nil (by (with_reducible repeat (first | apply Kd.S_alloc | apply Kd.S_drewN | apply Kd.S_drew)); exact HO_3.out)) hg hat); have n1_ := Aside0.mk (hb); have n2_ := Aside0.mk (ho); clear HO_3; clear HB; have HO_3 := n0_; have HB := n1_; have HO125 := n2_; clear n0_ n1_ n2_; clear ho hb hg hat; obtain ⟨Ao9, co9, eo9⟩ := Kd.R_slice HO125.out; subst eo9) | ((with_reducible refine gate_builtin (b := .append) (xs := #[.tmp 12, .tmp 15]) rfl ?_); at_builtin; refine Kd.S_append (Kd.slice 5 (Kd.int .u8)) (w0 := w) w.heap.size rfl (.tmp 12) (.tmp 15) 30 22 (.slice none 0 0) 24 rfl Tryd.underlying30 info22 rfl (by decide) (by omega) u3 x3_1 y123 [.slice Ao9 y123.length co9] (fun _ => True) (fun k_ => some k_ = (.slice Ao9 y123.length co9 : Value).ownBlock) rfl rfl ?aP (fun k_ hk_ => ((Kd.R_mono (ok' := fun k_ => ((fun _ => True)) k_ ∧ some k_ ≠ (u3 : Value).ownBlock) (Kd.R_apart' (HO125.out) (Kd.S_typed HO_3.out) (by decide)) (fun k_ hk => ⟨trivial, hk.2⟩))).1 k_ hk_.symm) ?aF ?aO ?aB ?aS ?aL ?_; (case aP => exact Kd.M_row (Kd.R_mono (Kd.R_tight rfl (Kd.R_mono (ok' := fun k_ => ((fun _ => True)) k_ ∧ some k_ ≠ (u3 : Value).ownBlock) (Kd.R_apart' (HO125.out) (Kd.S_typed HO_3.out) (by decide)) (fun k_ hk => ⟨trivial, hk.2⟩))) (fun _ h_ => h_))); (case aB => exact (by repeat (first | (with_reducible first | exact HB.out | apply below_alloc | apply pw_below_drewN | apply below_drew1) | exact HB.out))); (case aF => exact (fun _ _ => trivial)); (case aO => exact (by (with_reducible repeat (first | apply Kd.S_alloc | apply Kd.S_drewN | apply Kd.S_drew)); exact Kd.S_mono HO_3.out (fun k_ hk => ⟨trivial, fun e_ => hk.2 e_⟩))); (case aS => exact (below_size (by repeat (first | (with_reducible first | exact HB.out | apply below_alloc | apply pw_below_drewN | apply below_drew1) | exact HB.out)))); (case aL => have := LMc6.out; omega); intro v127 w8 ho hb hg hat; rw [← Ny126.out] at ho; have n0_ := Aside0.mk (hb); have n1_ := Aside0.mk (ho); clear HB; clear HO_3; clear HO125; have HB := n0_; have HO128 := n1_; clear n0_ n1_; clear ho hb hg hat))
                go_roundg k1
                case measure => have := HK1.out; omega
                case rel => exact ⟨(y126), (wrap64 (x8_1 + 1)), (by first | rfl | (simp; done) | (simp [*]; done)), H', ⟨by have := HK1.out; omega⟩, ⟨by (with_reducible repeat (first | apply Kd.S_alloc | apply Kd.S_drewN | apply Kd.S_drew)); exact HO128.out⟩, ⟨by repeat (first | (with_reducible first | exact HB.out | apply below_alloc | apply pw_below_drewN | apply below_drew1) | exact HB.out)⟩⟩
              · rw [if_neg c6] at H
                exact absurd H (by simp)
            · rw [if_neg c5] at H
              exact absurd H (by simp)
          · rw [if_neg c4] at H
            exact absurd H (by simp)
        · rw [if_neg c3] at H
          exact absurd H (by simp)
      · rw [if_neg c2] at H
        have c2b0 : decide (x8_1 < (l0.length : Int)) = false := decide_eq_false c2
        clear c2
        obtain rfl := Option.some.inj H
        go_wp2
        go_ret
        exact ⟨_, by first | rfl | (simp [errW_none, errW_some] <;> rfl) | (simp [*, errW_none, errW_some] <;> rfl), by (with_reducible repeat (first | apply Kd.S_alloc | apply Kd.S_drewN | apply Kd.S_drew)); exact HO_3.out, by repeat (first | (with_reducible first | exact HB.out | apply below_alloc | apply pw_below_drewN | apply below_drew1) | exact HB.out)⟩
end Go.Proofs.YtpeikjnkbjabpaaDoor.P
