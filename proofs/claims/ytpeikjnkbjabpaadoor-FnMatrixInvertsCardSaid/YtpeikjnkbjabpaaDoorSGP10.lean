import Derived.Test.YtpeikjnkbjabpaaDoorSGP0
import Derived.Test.YtpeikjnkbjabpaaDoorSGP1
import Derived.Test.YtpeikjnkbjabpaaDoorSGP8
import Derived.Test.YtpeikjnkbjabpaaDoorSGP9
namespace Go.Proofs.YtpeikjnkbjabpaaDoor.P
open Go.RowKit Go.Proofs.YtpeikjnkbjabpaaDoorW.PrintWords Go.Proofs.YtpeikjnkbjabpaaDoorW.PrintLast Go.Proofs.YtpeikjnkbjabpaaDoorW.PrintMore
attribute [local go_sem] max2_int min2_int max_two min_two max_three min_three max_four min_four   -- for this text's walks alone
set_option linter.unusedVariables false
set_option linter.unusedSimpArgs false
mutual
def spec_Times.l0 : Nat → List (List Int) → List (List Int) → List (List Int) → Int → Int → Option ((List (List Int)))
  | 0, _, _, _, _, _ => none
  | k + 1, x0, x1, x5, x15, x16 => if x16 < x15 then (if 0 ≤ x16 then (if x16 < (x5.length : Int) then (spec_Times.l1 k x0 x1 x5 x16 x15 x16 ((rd_L1 x5 x16).length : Int) 0) else (none)) else (none)) else (some x5)
def spec_Times.l1 : Nat → List (List Int) → List (List Int) → List (List Int) → Int → Int → Int → Int → Int → Option ((List (List Int)))
  | 0, _, _, _, _, _, _, _, _ => none
  | k + 1, x0, x1, x5, x6, x15, x16, x23, x24 => if x24 < x23 then (spec_Times.l2 k x0 x1 x5 x6 x24 x15 x16 x23 x24 (x1.length : Int) 0) else (spec_Times.l0 k x0 x1 x5 x15 (wrap64 (x16 + 1)))
def spec_Times.l2 : Nat → List (List Int) → List (List Int) → List (List Int) → Int → Int → Int → Int → Int → Int → Int → Int → Option ((List (List Int)))
  | 0, _, _, _, _, _, _, _, _, _, _, _ => none
  | k + 1, x0, x1, x5, x6, x7, x15, x16, x23, x24, x28, x29 => if x29 < x28 then (if 0 ≤ x6 then (if x6 < (x5.length : Int) then (if 0 ≤ x7 then (if x7 < ((rd_L1 x5 x6).length : Int) then (if x6 < (x0.length : Int) then (if 0 ≤ x29 then (if x29 < ((rd_L1 x0 x6).length : Int) then (if x29 < (x1.length : Int) then (if x7 < ((rd_L1 x1 x29).length : Int) then ((spec_Mul.f k (rd (rd_L1 x0 x6) x29) (rd (rd_L1 x1 x29) x7)).bind fun t246 => (spec_Times.l2 k x0 x1 (x5.set (x6 : Int).toNat ((rd_L1 x5 x6).set (x7 : Int).toNat (Go.bits .xor .u8 (rd (rd_L1 x5 x6) x7) t246))) x6 x7 x15 x16 x23 x24 x28 (wrap64 (x29 + 1)))) else (none)) else (none)) else (none)) else (none)) else (none)) else (none)) else (none)) else (none)) else (none)) else (spec_Times.l1 k x0 x1 x5 x6 x15 x16 x23 (wrap64 (x24 + 1)))
end
def spec_Times.f (k : Nat) (l0 : List (List Int)) (l1 : List (List Int)) : Option ((List (List Int))) := (spec_Columns.f l1).bind fun t235 => ((spec_Zeros.f k (l0.length : Int) t235).bind fun t236 => (spec_Times.l0 k l0 l1 t236 (l0.length : Int) 0))
theorem spec_Times.mono_l : ∀ k, (∀ y0 y1 y2 y3 y4, LeO (spec_Times.l0 k y0 y1 y2 y3 y4) (spec_Times.l0 (k + 1) y0 y1 y2 y3 y4)) ∧ (∀ y0 y1 y2 y3 y4 y5 y6 y7, LeO (spec_Times.l1 k y0 y1 y2 y3 y4 y5 y6 y7) (spec_Times.l1 (k + 1) y0 y1 y2 y3 y4 y5 y6 y7)) ∧ (∀ y0 y1 y2 y3 y4 y5 y6 y7 y8 y9 y10, LeO (spec_Times.l2 k y0 y1 y2 y3 y4 y5 y6 y7 y8 y9 y10) (spec_Times.l2 (k + 1) y0 y1 y2 y3 y4 y5 y6 y7 y8 y9 y10))
  | 0 => ⟨fun _ _ _ _ _ r h => by simp [spec_Times.l0] at h, fun _ _ _ _ _ _ _ _ r h => by simp [spec_Times.l1] at h, fun _ _ _ _ _ _ _ _ _ _ _ r h => by simp [spec_Times.l2] at h⟩
  | k + 1 => by
    obtain ⟨ih0, ih1, ih2⟩ := spec_Times.mono_l k
    refine ⟨?_, ?_, ?_⟩
    · intro y0 y1 y2 y3 y4
      unfold spec_Times.l0
      repeat' first
      | (with_reducible exact ih0 _ _ _ _ _)
      | (with_reducible exact ih1 _ _ _ _ _ _ _ _)
      | (with_reducible exact ih2 _ _ _ _ _ _ _ _ _ _ _)
      | (with_reducible exact spec_Mul.mono _ _ _)
      | (with_reducible exact spec_Zeros.mono _ _ _)
      | (with_reducible exact LeO.refl _)
      | (with_reducible exact LeO.none _)
      | (with_reducible refine LeO.ite ?_ ?_)
      | (with_reducible refine LeO.bind ?_ (fun _ => ?_))
      | exact ih0 _ _ _ _ _
      | exact ih1 _ _ _ _ _ _ _ _
      | exact ih2 _ _ _ _ _ _ _ _ _ _ _
      | exact spec_Mul.mono _ _ _
      | exact spec_Zeros.mono _ _ _
      | exact LeO.none _
      | refine LeO.ite ?_ ?_
      | refine LeO.bind ?_ (fun _ => ?_)
    · intro y0 y1 y2 y3 y4 y5 y6 y7
      unfold spec_Times.l1
      repeat' first
      | (with_reducible exact ih0 _ _ _ _ _)
      | (with_reducible exact ih1 _ _ _ _ _ _ _ _)
      | (with_reducible exact ih2 _ _ _ _ _ _ _ _ _ _ _)
      | (with_reducible exact spec_Mul.mono _ _ _)
      | (with_reducible exact spec_Zeros.mono _ _ _)
      | (with_reducible exact LeO.refl _)
      | (with_reducible exact LeO.none _)
      | (with_reducible refine LeO.ite ?_ ?_)
      | (with_reducible refine LeO.bind ?_ (fun _ => ?_))
      | exact ih0 _ _ _ _ _
      | exact ih1 _ _ _ _ _ _ _ _
      | exact ih2 _ _ _ _ _ _ _ _ _ _ _
      | exact spec_Mul.mono _ _ _
      | exact spec_Zeros.mono _ _ _
      | exact LeO.none _
      | refine LeO.ite ?_ ?_
      | refine LeO.bind ?_ (fun _ => ?_)
    · intro y0 y1 y2 y3 y4 y5 y6 y7 y8 y9 y10
      unfold spec_Times.l2
      repeat' first
      | (with_reducible exact ih0 _ _ _ _ _)
      | (with_reducible exact ih1 _ _ _ _ _ _ _ _)
      | (with_reducible exact ih2 _ _ _ _ _ _ _ _ _ _ _)
      | (with_reducible exact spec_Mul.mono _ _ _)
      | (with_reducible exact spec_Zeros.mono _ _ _)
      | (with_reducible exact LeO.refl _)
      | (with_reducible exact LeO.none _)
      | (with_reducible refine LeO.ite ?_ ?_)
      | (with_reducible refine LeO.bind ?_ (fun _ => ?_))
      | exact ih0 _ _ _ _ _
      | exact ih1 _ _ _ _ _ _ _ _
      | exact ih2 _ _ _ _ _ _ _ _ _ _ _
      | exact spec_Mul.mono _ _ _
      | exact spec_Zeros.mono _ _ _
      | exact LeO.none _
      | refine LeO.ite ?_ ?_
      | refine LeO.bind ?_ (fun _ => ?_)
theorem spec_Times.mono : ∀ a0 a1 k, LeO (spec_Times.f k a0 a1) (spec_Times.f (k + 1) a0 a1) := by
  intro a0 a1 k
  obtain ⟨ih0, ih1, ih2⟩ := spec_Times.mono_l k
  unfold spec_Times.f
  repeat' first
      | (with_reducible exact ih0 _ _ _ _ _)
      | (with_reducible exact ih1 _ _ _ _ _ _ _ _)
      | (with_reducible exact ih2 _ _ _ _ _ _ _ _ _ _ _)
      | (with_reducible exact spec_Mul.mono _ _ _)
      | (with_reducible exact spec_Zeros.mono _ _ _)
      | (with_reducible exact LeO.refl _)
      | (with_reducible exact LeO.none _)
      | (with_reducible refine LeO.ite ?_ ?_)
      | (with_reducible refine LeO.bind ?_ (fun _ => ?_))
      | exact ih0 _ _ _ _ _
      | exact ih1 _ _ _ _ _ _ _ _
      | exact ih2 _ _ _ _ _ _ _ _ _ _ _
      | exact spec_Mul.mono _ _ _
      | exact spec_Zeros.mono _ _ _
      | exact LeO.none _
      | refine LeO.ite ?_ ?_
      | refine LeO.bind ?_ (fun _ => ?_)
def spec_Times.T11 : Bool × List (List Nat × List Nat) := (true, [([], []), ([], []), ([0, 1], [0, 1]), ([2], [2]), ([], []), ([3, 4], [3, 4]), ([5], [5]), ([], []), ([], []), ([7, 8], [7, 8]), ([9], [9]), ([], []), ([10, 11], [10, 11]), ([12], [12]), ([], []), ([], []), ([14, 15], [14, 15]), ([16], [16]), ([], []), ([17, 18], [17, 18]), ([19], [19]), ([13, 20], [13, 20]), ([6, 21], [6, 21]), ([3, 4, 0, 1, 2, 3, 4, 5, 6, 7, 8, 9, 10, 11, 12, 13, 14, 15, 16, 17, 18, 19, 20, 21, 22], [3, 4]), ([23, 22, 21, 0, 1, 2, 3, 4, 5, 6, 7, 8, 9, 10, 11, 12, 13, 14, 15, 16, 17, 18, 19, 20, 21, 22], [22, 23])])
def spec_Times.B11 : List Nat := [0, 0, 3, 7, 0, 31, 63, 0, 0, 384, 896, 0, 3968, 8064, 0, 0, 49152, 114688, 0, 507904, 1032192, 2097024, 4194303, 8388607, 16777215]
theorem spec_Times.tab11 : rtab .any (opsOf Tryd.f24 11) = spec_Times.T11 := by kernel_rfl
theorem spec_Times.bits11 : waitsOk spec_Times.T11.2 spec_Times.B11 = true := by kernel_rfl
set_option maxHeartbeats 8000000 in
set_option maxRecDepth 100000 in
theorem spec_Times.calls (k : Nat) (A0 : Option Addr) (c0 : Nat) (l0 : List (List Int)) (A1 : Option Addr) (c1 : Nat) (l1 : List (List Int)) (r : List (List Int)) (w : World) (hr0 : Kd.C (Kd.slice 5 (Kd.int .u8)) w A0 l0.length l0) (hc0 : l0.length ≤ c0) (hr1 : Kd.C (Kd.slice 5 (Kd.int .u8)) w A1 l1.length l1) (hc1 : l1.length ≤ c1) (h : spec_Times.f k l0 l1 = some r) :
    Calls Tryd.prog 24 #[.slice A0 l0.length c0, .slice A1 l1.length c1] w fun e w' => ∃ v0_ : Value, e = .returned (v0_) ∧ Kd.S (Kd.slice 5 (Kd.int .u8)) 22 w' w.heap.size (fun _ => True) v0_ r ∧ Below w.heap.size w w' := by
  have HR0 := Aside0.mk hr0
  have HC0 := Aside0.mk hc0
  clear hr0 hc0
  have HR1 := Aside0.mk hr1
  have HC1 := Aside0.mk hc1
  clear hr1 hc1
  have HB := Aside0.mk (Below.refl w.heap.size w)
  have H : ((spec_Columns.f l1).bind fun t235 => ((spec_Zeros.f k (l0.length : Int) t235).bind fun t236 => (spec_Times.l0 k l0 l1 t236 (l0.length : Int) 0))) = some r := h
  clear h
  replace H := Option.bind_eq_some_iff.mp H
  obtain ⟨t235, A30, H⟩ := H
  replace H : ((spec_Zeros.f k (l0.length : Int) t235).bind fun t236 => (spec_Times.l0 k l0 l1 t236 (l0.length : Int) 0)) = some r := H
  have A3 := Aside0.mk A30
  clear A30
  replace H := Option.bind_eq_some_iff.mp H
  obtain ⟨t236, A40, H⟩ := H
  replace H : (spec_Times.l0 k l0 l1 t236 (l0.length : Int) 0) = some r := H
  have A4 := Aside0.mk A40
  clear A40
  have H' := Aside0.mk H
  clear H
  go_enter Tryd.func24, Tryd.ntmps24
  go_wp2_with (first | ((with_reducible refine gate_callee (f := 18) rfl ?_); refine goesL_ (some 12) rfl rfl Tryd.func18 (by kernel_rfl) rfl #[.slice A1 l1.length c1] rfl (by (try simp only [List.map_toArray, List.map_cons, List.map_nil]); first | done | rfl | (simp only [List.length_drop, List.length_take]; rfl)) ?_; (with_reducible refine (spec_Columns.calls _ _ l1 t235 _ ?side1 ?side2 A3.out).mono ?_); (case side1 => repeat (first | exact HR1.out | (with_reducible refine Kd.C_alloc ?_ _) | (with_reducible refine Kd.C_drewN ?_ _) | (with_reducible refine Kd.C_drew ?_))); (case side2 => exact HC1.out); rintro e w' ⟨rfl, ⟨nd, rfl⟩⟩; refine ⟨_, rfl, ?_⟩) | ((with_reducible refine gate_callee (f := 40) rfl ?_); refine goesL_ (some 13) rfl rfl Tryd.func40 (by kernel_rfl) rfl #[.int .i64 (l0.length : Int), .int .i64 t235] rfl (by (try simp only [List.map_toArray, List.map_cons, List.map_nil]); first | done | rfl | (simp only [List.length_drop, List.length_take]; rfl)) ?_; (with_reducible refine (spec_Zeros.calls k (l0.length : Int) t235 t236 _ A4.out).mono ?_); rintro e w5 ⟨v237, rfl, ho0, hb⟩; refine ⟨_, rfl, ?_⟩; have n0_ := Aside0.mk (Kd.S_lower ho0 (below_size (by repeat (first | (with_reducible first | exact HB.out | apply below_alloc | apply pw_below_drewN | apply below_drew1) | exact HB.out)))); have n1_ := Aside0.mk (below_step (by repeat (first | (with_reducible first | exact HB.out | apply below_alloc | apply pw_below_drewN | apply below_drew1) | exact HB.out)) hb); clear HB; have HO238 := n0_; have HB := n1_; clear n0_ n1_; (try clear hb); (try clear hb2); (try clear hk); (try clear hi); (try clear ho0)))
  try simp only [Act.put, List.setIfInBounds_toArray, List.set_cons_zero, List.set_cons_succ]
  go_loopg [16] k (fun kq v16 w' => ∃ (x5_1 : List (List Int)) (x16_1 : Int), v16 = .int .i64 x16_1 ∧ Aside0 (spec_Times.l0 kq l0 l1 x5_1 (l0.length : Int) x16_1 = some r) ∧ Aside0 (kq ≤ k) ∧ Aside0 (Kd.S (Kd.slice 5 (Kd.int .u8)) 22 w' w.heap.size (fun _ => True) v237 x5_1) ∧ Aside0 (Below w.heap.size w w'))
  case atStart => exact ⟨(t236), (0), (by first | rfl | (simp; done) | (simp [*]; done)), H', ⟨Nat.le_refl _⟩, ⟨by (with_reducible repeat (first | apply Kd.S_alloc | apply Kd.S_drewN | apply Kd.S_drew)); exact HO238.out⟩, ⟨by repeat (first | (with_reducible first | exact HB.out | apply below_alloc | apply pw_below_drewN | apply below_drew1) | exact HB.out)⟩⟩
  case round =>
    clear H'
    try clear c1
    try clear c2
    try clear p2
    try clear c4
    obtain ⟨x5_1, x16_1, rfl, HA, HK1, HO_5, HB⟩ := hrel
    cases gk with
    | zero => exact absurd HA.out (by simp [spec_Times.l0])
    | succ k1 =>
      have H := HA.out
      clear HA
      simp only [spec_Times.l0] at H
      by_cases c6 : x16_1 < (l0.length : Int)
      · rw [if_pos c6] at H
        have c6b0 : decide (x16_1 < (l0.length : Int)) = true := decide_eq_true c6
        clear c6
        by_cases c7 : 0 ≤ x16_1
        · rw [if_pos c7] at H
          have c7b0 : decide (0 ≤ x16_1) = true := decide_eq_true c7
          clear c7
          by_cases c8 : x16_1 < (x5_1.length : Int)
          · rw [if_pos c8] at H
            have c8b0 : decide (x16_1 < (x5_1.length : Int)) = true := decide_eq_true c8
            clear c8
            have H' := Aside0.mk H
            clear H
            obtain ⟨Ao9, co9, eo9⟩ := Kd.S_slice HO_5.out
            subst eo9
            have p239 : 0 ≤ (x16_1 : Int) := of_decide_eq_true (by first | (with_reducible assumption) | assumption)
            have q239 : x16_1 < (x5_1.length : Int) := of_decide_eq_true (by first | (with_reducible assumption) | assumption)
            obtain ⟨ad239, A239_0, c239_0, e239, hx239_0, hl239_0, hi239_0⟩ := at_L1 (Kd.S_reads' HO_5.out).2.2 x16_1 p239 q239
            cases e239
            obtain ⟨ce239, hce239, hMe239, hcc239⟩ := Kd.S_get HO_5.out [] x16_1 p239 (by first | exact q239 | exact of_decide_eq_true (by first | (with_reducible assumption) | assumption) | (have e_ := (Kd.S_reads' HO_5.out).1; omega))
            obtain ⟨ve239_0, rfl, ge239_0⟩ := hMe239
            have hv239_0 := hcc239 0 _ rfl
            rw [Nat.add_zero, show ((Kd.slice 5 (Kd.int .u8))).sz = 1 from rfl, Nat.mul_one] at hv239_0
            replace hv239_0 := Option.some.inj (hv239_0.symm.trans hx239_0)
            rw [hv239_0] at ge239_0
            have HL239_0 := Aside0.mk (show Kd.R (Kd.int .u8) 5 _ _ _ _ (rd_L1 x5_1 x16_1) from ge239_0)
            clear hv239_0 ge239_0
            have HX239_0 := Aside0.mk hx239_0
            clear hcc239 hce239
            have HR239_0 := Aside0.mk hi239_0
            have HC239_0 := Aside0.mk hl239_0
            clear hi239_0 hl239_0
            replace p239 := eq_true p239
            replace q239 := eq_true q239
            go_wp2
            try simp only [Act.put, List.setIfInBounds_toArray, List.set_cons_zero, List.set_cons_succ]
            go_loopg [24] k1 (fun kq v24 w' => ∃ (x5_2 : List (List Int)) (x24_2 : Int), v24 = .int .i64 x24_2 ∧ Aside0 (spec_Times.l1 kq l0 l1 x5_2 x16_1 (l0.length : Int) x16_1 ((rd_L1 x5_1 x16_1).length : Int) x24_2 = some r) ∧ Aside0 (kq ≤ k1) ∧ Aside0 (Kd.S (Kd.slice 5 (Kd.int .u8)) 22 w' w.heap.size (fun _ => True) (.slice (some ad239) x5_1.length co9) x5_2) ∧ Aside0 (Below w.heap.size w w'))
            case atStart => exact ⟨(x5_1), (0), (by first | rfl | (simp; done) | (simp [*]; done)), H', ⟨Nat.le_refl _⟩, ⟨by (with_reducible repeat (first | apply Kd.S_alloc | apply Kd.S_drewN | apply Kd.S_drew)); exact HO_5.out⟩, ⟨by repeat (first | (with_reducible first | exact HB.out | apply below_alloc | apply pw_below_drewN | apply below_drew1) | exact HB.out)⟩⟩
            case round =>
              clear H'
              try clear c1
              try clear c2
              try clear p2
              try clear q2
              try clear hx2
              try clear c4
              try clear c6
              try clear c6b0
              try clear c7
              try clear c7b0
              try clear c8
              try clear c8b0
              try clear hx239_0
              try clear p2
              try clear p239
              try clear q239
              obtain ⟨x5_2, x24_2, rfl, HA, HK2, HO_5, HB⟩ := hrel
              have hl5_2 := (Kd.S_reads' HO_5.out).1
              rw [hl5_2] at HO_5
              (try simp only [hl5_2])
              cases gk with
              | zero => exact absurd HA.out (by simp [spec_Times.l1])
              | succ k2 =>
                have H := HA.out
                clear HA
                simp only [spec_Times.l1] at H
                by_cases c10 : x24_2 < ((rd_L1 x5_1 x16_1).length : Int)
                · rw [if_pos c10] at H
                  have c10b0 : decide (x24_2 < ((rd_L1 x5_1 x16_1).length : Int)) = true := decide_eq_true c10
                  clear c10
                  have H' := Aside0.mk H
                  clear H
                  go_wp2
                  try simp only [Act.put, List.setIfInBounds_toArray, List.set_cons_zero, List.set_cons_succ]
                  go_loopg [29] k2 (fun kq v29 w' => ∃ (x5_3 : List (List Int)) (x29_3 : Int), v29 = .int .i64 x29_3 ∧ Aside0 (spec_Times.l2 kq l0 l1 x5_3 x16_1 x24_2 (l0.length : Int) x16_1 ((rd_L1 x5_1 x16_1).length : Int) x24_2 (l1.length : Int) x29_3 = some r) ∧ Aside0 (kq ≤ k2) ∧ Aside0 (Kd.S (Kd.slice 5 (Kd.int .u8)) 22 w' w.heap.size (fun _ => True) (.slice (some ad239) x5_2.length co9) x5_3) ∧ Aside0 (Below w.heap.size w w'))
                  case atStart => exact ⟨(x5_2), (0), (by first | rfl | (simp; done) | (simp [*]; done)), H', ⟨Nat.le_refl _⟩, ⟨by (try simp only [hl5_2]); (with_reducible repeat (first | apply Kd.S_alloc | apply Kd.S_drewN | apply Kd.S_drew)); exact HO_5.out⟩, ⟨by repeat (first | (with_reducible first | exact HB.out | apply below_alloc | apply pw_below_drewN | apply below_drew1) | exact HB.out)⟩⟩
                  case round =>
                    clear H'
                    try clear c1
                    try clear c2
                    try clear p2
                    try clear q2
                    try clear hx2
                    try clear c4
                    try clear c6
                    try clear c6b0
                    try clear c7
                    try clear c7b0
                    try clear c8
                    try clear c8b0
                    try clear c10
                    try clear c10b0
                    try clear hx239_0
                    try clear p2
                    try clear p239
                    try clear q2
                    try clear q239
                    obtain ⟨x5_3, x29_3, rfl, HA, HK3, HO_5, HB⟩ := hrel
                    have hl5_3 := (Kd.S_reads' HO_5.out).1
                    rw [hl5_3] at HO_5
                    (try simp only [hl5_3])
                    cases gk with
                    | zero => exact absurd HA.out (by simp [spec_Times.l2])
                    | succ k3 =>
                      have H := HA.out
                      clear HA
                      simp only [spec_Times.l2] at H
                      by_cases c11 : x29_3 < (l1.length : Int)
                      · rw [if_pos c11] at H
                        have c11b0 : decide (x29_3 < (l1.length : Int)) = true := decide_eq_true c11
                        clear c11
                        by_cases c12 : 0 ≤ x16_1
                        · rw [if_pos c12] at H
                          have c12b0 : decide (0 ≤ x16_1) = true := decide_eq_true c12
                          clear c12
                          by_cases c13 : x16_1 < (x5_3.length : Int)
                          · rw [if_pos c13] at H
                            have c13b0 : decide (x16_1 < (x5_3.length : Int)) = true := decide_eq_true c13
                            clear c13
                            by_cases c14 : 0 ≤ x24_2
                            · rw [if_pos c14] at H
                              have c14b0 : decide (0 ≤ x24_2) = true := decide_eq_true c14
                              clear c14
                              by_cases c15 : x24_2 < ((rd_L1 x5_3 x16_1).length : Int)
                              · rw [if_pos c15] at H
                                have c15b0 : decide (x24_2 < ((rd_L1 x5_3 x16_1).length : Int)) = true := decide_eq_true c15
                                clear c15
                                by_cases c16 : x16_1 < (l0.length : Int)
                                · rw [if_pos c16] at H
                                  have c16b0 : decide (x16_1 < (l0.length : Int)) = true := decide_eq_true c16
                                  clear c16
                                  by_cases c17 : 0 ≤ x29_3
                                  · rw [if_pos c17] at H
                                    have c17b0 : decide (0 ≤ x29_3) = true := decide_eq_true c17
                                    clear c17
                                    by_cases c18 : x29_3 < ((rd_L1 l0 x16_1).length : Int)
                                    · rw [if_pos c18] at H
                                      have c18b0 : decide (x29_3 < ((rd_L1 l0 x16_1).length : Int)) = true := decide_eq_true c18
                                      clear c18
                                      by_cases c19 : x29_3 < (l1.length : Int)
                                      · rw [if_pos c19] at H
                                        have c19b0 : decide (x29_3 < (l1.length : Int)) = true := decide_eq_true c19
                                        clear c19
                                        by_cases c20 : x24_2 < ((rd_L1 l1 x29_3).length : Int)
                                        · rw [if_pos c20] at H
                                          have c20b0 : decide (x24_2 < ((rd_L1 l1 x29_3).length : Int)) = true := decide_eq_true c20
                                          clear c20
                                          replace H := Option.bind_eq_some_iff.mp H
                                          obtain ⟨t246, A210, H⟩ := H
                                          replace H : (spec_Times.l2 k3 l0 l1 (x5_3.set (x16_1 : Int).toNat ((rd_L1 x5_3 x16_1).set (x24_2 : Int).toNat (Go.bits .xor .u8 (rd (rd_L1 x5_3 x16_1) x24_2) t246))) x16_1 x24_2 (l0.length : Int) x16_1 ((rd_L1 x5_1 x16_1).length : Int) x24_2 (l1.length : Int) (wrap64 (x29_3 + 1))) = some r := H
                                          have A21 := Aside0.mk A210
                                          clear A210
                                          obtain ⟨y247, hy247⟩ : ∃ y_ : List Int, y_ = ((rd_L1 x5_3 x16_1).set (x24_2 : Int).toNat (Go.bits .xor .u8 (rd (rd_L1 x5_3 x16_1) x24_2) t246)) := ⟨_, rfl⟩
                                          replace H : (spec_Times.l2 k3 l0 l1 (x5_3.set (x16_1 : Int).toNat y247) x16_1 x24_2 (l0.length : Int) x16_1 ((rd_L1 x5_1 x16_1).length : Int) x24_2 (l1.length : Int) (wrap64 (x29_3 + 1))) = some r := by first | (rw [hy247]; with_reducible exact H) | (have H2_ := (Option.bind_some _ _).symm.trans H; rw [hy247]; with_reducible exact H2_) | (have H2_ := (Option.bind_some _ _).symm.trans H; with_reducible exact H2_) | with_reducible exact H | (rw [hy247]; exact H) | exact H
                                          have Ny247 := Aside0.mk hy247
                                          clear hy247
                                          obtain ⟨y249, hy249⟩ : ∃ y_ : List (List Int), y_ = (x5_3.set (x16_1 : Int).toNat y247) := ⟨_, rfl⟩
                                          replace H : (spec_Times.l2 k3 l0 l1 y249 x16_1 x24_2 (l0.length : Int) x16_1 ((rd_L1 x5_1 x16_1).length : Int) x24_2 (l1.length : Int) (wrap64 (x29_3 + 1))) = some r := by first | (rw [hy249]; with_reducible exact H) | (have H2_ := (Option.bind_some _ _).symm.trans H; rw [hy249]; with_reducible exact H2_) | (have H2_ := (Option.bind_some _ _).symm.trans H; with_reducible exact H2_) | with_reducible exact H | (rw [hy249]; exact H) | exact H
                                          have Ny249 := Aside0.mk hy249
                                          clear hy249
                                          have H' := Aside0.mk H
                                          clear H
                                          try go_wp2
                                          have n0_ := Aside0.mk (Kd.S_drew HO_5.out)
                                          have n1_ := Aside0.mk (below_drew1 HB.out)
                                          clear HO_5
                                          clear HB
                                          have HO_5 := n0_
                                          have HB := n1_
                                          clear n0_ n1_
                                          have p240 : 0 ≤ (x16_1 : Int) := of_decide_eq_true (by first | (with_reducible assumption) | assumption)
                                          have q240 : x16_1 < (x5_3.length : Int) := of_decide_eq_true (by first | (with_reducible assumption) | assumption)
                                          obtain ⟨ad240, A240_0, c240_0, e240, hx240_0, hl240_0, hi240_0⟩ := at_L1 (Kd.S_reads' HO_5.out).2.2 x16_1 p240 q240
                                          obtain rfl : ad239 = ad240 := (by injection e240)
                                          obtain ⟨ce240, hce240, hMe240, hcc240⟩ := Kd.S_get HO_5.out [] x16_1 p240 (by first | exact q240 | exact of_decide_eq_true (by first | (with_reducible assumption) | assumption) | (have e_ := (Kd.S_reads' HO_5.out).1; omega))
                                          obtain ⟨ve240_0, rfl, ge240_0⟩ := hMe240
                                          have hv240_0 := hcc240 0 _ rfl
                                          rw [Nat.add_zero, show ((Kd.slice 5 (Kd.int .u8))).sz = 1 from rfl, Nat.mul_one] at hv240_0
                                          replace hv240_0 := Option.some.inj (hv240_0.symm.trans hx240_0)
                                          rw [hv240_0] at ge240_0
                                          have HL240_0 := Aside0.mk (show Kd.R (Kd.int .u8) 5 _ _ _ _ (rd_L1 x5_3 x16_1) from ge240_0)
                                          clear hv240_0 ge240_0
                                          have HX240_0 := Aside0.mk hx240_0
                                          clear hcc240 hce240
                                          have HR240_0 := Aside0.mk hi240_0
                                          have HC240_0 := Aside0.mk hl240_0
                                          clear hi240_0 hl240_0
                                          replace p240 := eq_true p240
                                          replace q240 := eq_true q240
                                          have p241 : 0 ≤ (x24_2 : Int) := of_decide_eq_true (by first | (with_reducible assumption) | assumption)
                                          have q241 : x24_2 < ((rd_L1 x5_3 x16_1).length : Int) := of_decide_eq_true (by first | (with_reducible assumption) | assumption)
                                          obtain ⟨ad241, e241, hx241_0⟩ := Kd.at_int (by repeat (first | (with_reducible exact HR240_0.out) | (with_reducible refine Kd.C_alloc ?_ _) | (with_reducible refine Kd.C_drewN ?_ _) | (with_reducible refine Kd.C_drew ?_) | exact HR240_0.out)) x24_2 p241 q241
                                          cases e241
                                          replace p241 := eq_true p241
                                          replace q241 := eq_true q241
                                          have p242 : 0 ≤ (x16_1 : Int) := of_decide_eq_true (by first | (with_reducible assumption) | assumption)
                                          have q242 : x16_1 < (l0.length : Int) := of_decide_eq_true (by first | (with_reducible assumption) | assumption)
                                          obtain ⟨ad242, A242_0, c242_0, e242, hx242_0, hl242_0, hi242_0⟩ := at_L1 HR0.out x16_1 p242 q242
                                          have hw242_0 := hx242_0
                                          cases e242
                                          (try replace hx242_0 := (HB.out.cell (World.block_lt_of_cell? w _ hx242_0)).trans hx242_0)
                                          have HR242_0 := Aside0.mk hi242_0
                                          have HC242_0 := Aside0.mk hl242_0
                                          clear hi242_0 hl242_0
                                          replace p242 := eq_true p242
                                          replace q242 := eq_true q242
                                          have p243 : 0 ≤ (x29_3 : Int) := of_decide_eq_true (by first | (with_reducible assumption) | assumption)
                                          have q243 : x29_3 < ((rd_L1 l0 x16_1).length : Int) := of_decide_eq_true (by first | (with_reducible assumption) | assumption)
                                          obtain ⟨ad243, e243, hx243_0⟩ := Kd.at_int HR242_0.out x29_3 p243 q243
                                          have hw243_0 := hx243_0
                                          cases e243
                                          (try replace hx243_0 := (HB.out.cell (World.block_lt_of_cell? w _ hx243_0)).trans hx243_0)
                                          replace p243 := eq_true p243
                                          replace q243 := eq_true q243
                                          have p244 : 0 ≤ (x29_3 : Int) := of_decide_eq_true (by first | (with_reducible assumption) | assumption)
                                          have q244 : x29_3 < (l1.length : Int) := of_decide_eq_true (by first | (with_reducible assumption) | assumption)
                                          obtain ⟨ad244, A244_0, c244_0, e244, hx244_0, hl244_0, hi244_0⟩ := at_L1 HR1.out x29_3 p244 q244
                                          have hw244_0 := hx244_0
                                          cases e244
                                          (try replace hx244_0 := (HB.out.cell (World.block_lt_of_cell? w _ hx244_0)).trans hx244_0)
                                          have HR244_0 := Aside0.mk hi244_0
                                          have HC244_0 := Aside0.mk hl244_0
                                          clear hi244_0 hl244_0
                                          replace p244 := eq_true p244
                                          replace q244 := eq_true q244
                                          have p245 : 0 ≤ (x24_2 : Int) := of_decide_eq_true (by first | (with_reducible assumption) | assumption)
                                          have q245 : x24_2 < ((rd_L1 l1 x29_3).length : Int) := of_decide_eq_true (by first | (with_reducible assumption) | assumption)
                                          obtain ⟨ad245, e245, hx245_0⟩ := Kd.at_int HR244_0.out x24_2 p245 q245
                                          have hw245_0 := hx245_0
                                          cases e245
                                          (try replace hx245_0 := (HB.out.cell (World.block_lt_of_cell? w _ hx245_0)).trans hx245_0)
                                          replace p245 := eq_true p245
                                          replace q245 := eq_true q245
                                          refine start_ (n := 25) (S := fun w' => w'.cell? (ad239.add (x16_1).toNat) = some (.slice (some ad241) (rd_L1 x5_3 x16_1).length c240_0) ∧ w'.cell? (ad241.add (x24_2).toNat) = some (.int .u8 (rd (rd_L1 x5_3 x16_1) x24_2)) ∧ w'.cell? (ad242.add (x16_1).toNat) = some (.slice (some ad243) (rd_L1 l0 x16_1).length c242_0) ∧ w'.cell? (ad243.add (x29_3).toNat) = some (.int .u8 (rd (rd_L1 l0 x16_1) x29_3)) ∧ w'.cell? (ad244.add (x29_3).toNat) = some (.slice (some ad245) (rd_L1 l1 x29_3).length c244_0) ∧ w'.cell? (ad245.add (x24_2).toNat) = some (.int .u8 (rd (rd_L1 l1 x29_3) x24_2))) (ds := [24]) #[false, false, false, false, false, false, false, false, false, false, false, false, false, false, false, false, false, false, false, false, false, false, false, false, false] (by kernel_rfl) rfl rfl ⟨hx240_0, hx241_0, ((HB.out.cell (World.block_lt_of_cell? w _ hw242_0)).trans hw242_0), ((HB.out.cell (World.block_lt_of_cell? w _ hw243_0)).trans hw243_0), ((HB.out.cell (World.block_lt_of_cell? w _ hw244_0)).trans hw244_0), ((HB.out.cell (World.block_lt_of_cell? w _ hw245_0)).trans hw245_0)⟩ (fun hHeld => ?_); refine with_tabW spec_Times.tab11 spec_Times.bits11 (fun HT_ HW_ => ?_)
                                          generalize wr.drew = w23 at HO_5 HB HL240_0 HR240_0 HR242_0 HR244_0 HX240_0 hx240_0 hx241_0 hx242_0 hx243_0 hx244_0 hx245_0 hHeld ⊢
                                          refine pure_ (i := 0) (N := some 32) (v := ?_) (a' := ?_) #[true, false, false, false, false, false, false, false, false, false, false, false, false, false, false, false, false, false, false, false, false, false, false, false, false] rfl rfl (any_of HT_.out (by kernel_rfl)) (fun _ _ _ h => h) (Or.inl ⟨by rfl, ?_⟩) ?_ ?_
                                          rotate_left
                                          · intro w'
                                            go_simp
                                            with_reducible rfl
                                          rotate_left
                                          · simp only [Act.put, List.setIfInBounds_toArray, List.set_cons_zero, List.set_cons_succ, i64_w, i32_w]
                                            rfl
                                          refine pure_ (i := 1) (N := some 33) (v := ?_) (a' := ?_) #[true, true, false, false, false, false, false, false, false, false, false, false, false, false, false, false, false, false, false, false, false, false, false, false, false] rfl rfl (any_of HT_.out (by kernel_rfl)) (fun _ _ _ h => h) (Or.inl ⟨by rfl, ?_⟩) ?_ ?_
                                          rotate_left
                                          · intro w'
                                            go_simp
                                            with_reducible rfl
                                          rotate_left
                                          · simp only [Act.put, List.setIfInBounds_toArray, List.set_cons_zero, List.set_cons_succ, i64_w, i32_w]
                                            rfl
                                          refine pure_ (i := 2) (N := some 34) (v := ?_) (a' := ?_) #[true, true, true, false, false, false, false, false, false, false, false, false, false, false, false, false, false, false, false, false, false, false, false, false, false] rfl rfl (any_of HT_.out (by kernel_rfl)) (fun _ _ _ h => h) (Or.inl ⟨by rfl, ?_⟩) ?_ ?_
                                          rotate_left
                                          · intro w'
                                            go_simp
                                            with_reducible rfl
                                          rotate_left
                                          · simp only [Act.put, List.setIfInBounds_toArray, List.set_cons_zero, List.set_cons_succ, i64_w, i32_w]
                                            rfl
                                          refine pure_ (i := 4) (N := some 36) (v := ?_) (a' := ?_) #[true, true, true, false, true, false, false, false, false, false, false, false, false, false, false, false, false, false, false, false, false, false, false, false, false] rfl rfl (any_of HT_.out (by kernel_rfl)) (fun _ _ _ h => h) (Or.inl ⟨by rfl, ?_⟩) ?_ ?_
                                          rotate_left
                                          · intro w'
                                            go_simp
                                            with_reducible rfl
                                          rotate_left
                                          · simp only [Act.put, List.setIfInBounds_toArray, List.set_cons_zero, List.set_cons_succ, i64_w, i32_w]
                                            rfl
                                          refine pure_ (i := 7) (N := some 39) (v := ?_) (a' := ?_) #[true, true, true, false, true, false, false, true, false, false, false, false, false, false, false, false, false, false, false, false, false, false, false, false, false] rfl rfl (any_of HT_.out (by kernel_rfl)) (fun _ _ _ h => h) (Or.inl ⟨by rfl, ?_⟩) ?_ ?_
                                          rotate_left
                                          · intro w'
                                            go_simp
                                            with_reducible rfl
                                          rotate_left
                                          · simp only [Act.put, List.setIfInBounds_toArray, List.set_cons_zero, List.set_cons_succ, i64_w, i32_w]
                                            rfl
                                          refine pure_ (i := 8) (N := some 40) (v := ?_) (a' := ?_) #[true, true, true, false, true, false, false, true, true, false, false, false, false, false, false, false, false, false, false, false, false, false, false, false, false] rfl rfl (any_of HT_.out (by kernel_rfl)) (fun _ _ _ h => h) (Or.inl ⟨by rfl, ?_⟩) ?_ ?_
                                          rotate_left
                                          · intro w'
                                            go_simp
                                            with_reducible rfl
                                          rotate_left
                                          · simp only [Act.put, List.setIfInBounds_toArray, List.set_cons_zero, List.set_cons_succ, i64_w, i32_w]
                                            rfl
                                          refine pure_ (i := 9) (N := some 41) (v := ?_) (a' := ?_) #[true, true, true, false, true, false, false, true, true, true, false, false, false, false, false, false, false, false, false, false, false, false, false, false, false] rfl rfl (any_of HT_.out (by kernel_rfl)) (fun _ _ _ h => h) (Or.inl ⟨by rfl, ?_⟩) ?_ ?_
                                          rotate_left
                                          · intro w'
                                            go_simp
                                            with_reducible rfl
                                          rotate_left
                                          · simp only [Act.put, List.setIfInBounds_toArray, List.set_cons_zero, List.set_cons_succ, i64_w, i32_w]
                                            rfl
                                          refine pure_ (i := 11) (N := some 43) (v := ?_) (a' := ?_) #[true, true, true, false, true, false, false, true, true, true, false, true, false, false, false, false, false, false, false, false, false, false, false, false, false] rfl rfl (any_of HT_.out (by kernel_rfl)) (fun _ _ _ h => h) (Or.inl ⟨by rfl, ?_⟩) ?_ ?_
                                          rotate_left
                                          · intro w'
                                            go_simp
                                            with_reducible rfl
                                          rotate_left
                                          · simp only [Act.put, List.setIfInBounds_toArray, List.set_cons_zero, List.set_cons_succ, i64_w, i32_w]
                                            rfl
                                          refine pure_ (i := 14) (N := some 46) (v := ?_) (a' := ?_) #[true, true, true, false, true, false, false, true, true, true, false, true, false, false, true, false, false, false, false, false, false, false, false, false, false] rfl rfl (any_of HT_.out (by kernel_rfl)) (fun _ _ _ h => h) (Or.inl ⟨by rfl, ?_⟩) ?_ ?_
                                          rotate_left
                                          · intro w'
                                            go_simp
                                            with_reducible rfl
                                          rotate_left
                                          · simp only [Act.put, List.setIfInBounds_toArray, List.set_cons_zero, List.set_cons_succ, i64_w, i32_w]
                                            rfl
                                          refine pure_ (i := 15) (N := some 47) (v := ?_) (a' := ?_) #[true, true, true, false, true, false, false, true, true, true, false, true, false, false, true, true, false, false, false, false, false, false, false, false, false] rfl rfl (any_of HT_.out (by kernel_rfl)) (fun _ _ _ h => h) (Or.inl ⟨by rfl, ?_⟩) ?_ ?_
                                          rotate_left
                                          · intro w'
                                            go_simp
                                            with_reducible rfl
                                          rotate_left
                                          · simp only [Act.put, List.setIfInBounds_toArray, List.set_cons_zero, List.set_cons_succ, i64_w, i32_w]
                                            rfl
                                          refine pure_ (i := 16) (N := some 48) (v := ?_) (a' := ?_) #[true, true, true, false, true, false, false, true, true, true, false, true, false, false, true, true, true, false, false, false, false, false, false, false, false] rfl rfl (any_of HT_.out (by kernel_rfl)) (fun _ _ _ h => h) (Or.inl ⟨by rfl, ?_⟩) ?_ ?_
                                          rotate_left
                                          · intro w'
                                            go_simp
                                            with_reducible rfl
                                          rotate_left
                                          · simp only [Act.put, List.setIfInBounds_toArray, List.set_cons_zero, List.set_cons_succ, i64_w, i32_w]
                                            rfl
                                          refine pure_ (i := 18) (N := some 50) (v := ?_) (a' := ?_) #[true, true, true, false, true, false, false, true, true, true, false, true, false, false, true, true, true, false, true, false, false, false, false, false, false] rfl rfl (any_of HT_.out (by kernel_rfl)) (fun _ _ _ h => h) (Or.inl ⟨by rfl, ?_⟩) ?_ ?_
                                          rotate_left
                                          · intro w'
                                            go_simp
                                            with_reducible rfl
                                          rotate_left
                                          · simp only [Act.put, List.setIfInBounds_toArray, List.set_cons_zero, List.set_cons_succ, i64_w, i32_w]
                                            rfl
                                          refine take_ (i := 3) (N := some 35) (v := ?_) (a' := ?_) #[true, true, true, true, true, false, false, true, true, true, false, true, false, false, true, true, true, false, true, false, false, false, false, false, false] rfl rfl (take_ofW HT_.out HW_.out (by kernel_rfl)) (fun _ _ _ h => h) (Or.inl ⟨by rfl, ?_⟩) hHeld ?_ ?_
                                          rotate_left
                                          · rintro w' ⟨s0, s1, s2, s3, s4, s5⟩
                                            go_simp
                                            with_reducible rfl
                                          rotate_left
                                          · simp only [Act.put, List.setIfInBounds_toArray, List.set_cons_zero, List.set_cons_succ, i64_w, i32_w]
                                            rfl
                                          refine pure_ (i := 5) (N := some 37) (v := ?_) (a' := ?_) #[true, true, true, true, true, true, false, true, true, true, false, true, false, false, true, true, true, false, true, false, false, false, false, false, false] rfl rfl (any_of HT_.out (by kernel_rfl)) (fun _ _ _ h => h) (Or.inl ⟨by rfl, ?_⟩) ?_ ?_
                                          rotate_left
                                          · intro w'
                                            go_simp
                                            with_reducible rfl
                                          rotate_left
                                          · simp only [Act.put, List.setIfInBounds_toArray, List.set_cons_zero, List.set_cons_succ, i64_w, i32_w]
                                            rfl
                                          refine take_ (i := 6) (N := some 38) (v := ?_) (a' := ?_) #[true, true, true, true, true, true, true, true, true, true, false, true, false, false, true, true, true, false, true, false, false, false, false, false, false] rfl rfl (take_ofW HT_.out HW_.out (by kernel_rfl)) (fun _ _ _ h => h) (Or.inl ⟨by rfl, ?_⟩) hHeld ?_ ?_
                                          rotate_left
                                          · rintro w' ⟨s0, s1, s2, s3, s4, s5⟩
                                            go_simp
                                            with_reducible rfl
                                          rotate_left
                                          · simp only [Act.put, List.setIfInBounds_toArray, List.set_cons_zero, List.set_cons_succ, i64_w, i32_w]
                                            rfl
                                          refine take_ (i := 10) (N := some 42) (v := ?_) (a' := ?_) #[true, true, true, true, true, true, true, true, true, true, true, true, false, false, true, true, true, false, true, false, false, false, false, false, false] rfl rfl (take_ofW HT_.out HW_.out (by kernel_rfl)) (fun _ _ _ h => h) (Or.inl ⟨by rfl, ?_⟩) hHeld ?_ ?_
                                          rotate_left
                                          · rintro w' ⟨s0, s1, s2, s3, s4, s5⟩
                                            go_simp
                                            with_reducible rfl
                                          rotate_left
                                          · simp only [Act.put, List.setIfInBounds_toArray, List.set_cons_zero, List.set_cons_succ, i64_w, i32_w]
                                            rfl
                                          refine pure_ (i := 12) (N := some 44) (v := ?_) (a' := ?_) #[true, true, true, true, true, true, true, true, true, true, true, true, true, false, true, true, true, false, true, false, false, false, false, false, false] rfl rfl (any_of HT_.out (by kernel_rfl)) (fun _ _ _ h => h) (Or.inl ⟨by rfl, ?_⟩) ?_ ?_
                                          rotate_left
                                          · intro w'
                                            go_simp
                                            with_reducible rfl
                                          rotate_left
                                          · simp only [Act.put, List.setIfInBounds_toArray, List.set_cons_zero, List.set_cons_succ, i64_w, i32_w]
                                            rfl
                                          refine take_ (i := 13) (N := some 45) (v := ?_) (a' := ?_) #[true, true, true, true, true, true, true, true, true, true, true, true, true, true, true, true, true, false, true, false, false, false, false, false, false] rfl rfl (take_ofW HT_.out HW_.out (by kernel_rfl)) (fun _ _ _ h => h) (Or.inl ⟨by rfl, ?_⟩) hHeld ?_ ?_
                                          rotate_left
                                          · rintro w' ⟨s0, s1, s2, s3, s4, s5⟩
                                            go_simp
                                            with_reducible rfl
                                          rotate_left
                                          · simp only [Act.put, List.setIfInBounds_toArray, List.set_cons_zero, List.set_cons_succ, i64_w, i32_w]
                                            rfl
                                          refine take_ (i := 17) (N := some 49) (v := ?_) (a' := ?_) #[true, true, true, true, true, true, true, true, true, true, true, true, true, true, true, true, true, true, true, false, false, false, false, false, false] rfl rfl (take_ofW HT_.out HW_.out (by kernel_rfl)) (fun _ _ _ h => h) (Or.inl ⟨by rfl, ?_⟩) hHeld ?_ ?_
                                          rotate_left
                                          · rintro w' ⟨s0, s1, s2, s3, s4, s5⟩
                                            go_simp
                                            with_reducible rfl
                                          rotate_left
                                          · simp only [Act.put, List.setIfInBounds_toArray, List.set_cons_zero, List.set_cons_succ, i64_w, i32_w]
                                            rfl
                                          refine pure_ (i := 19) (N := some 51) (v := ?_) (a' := ?_) #[true, true, true, true, true, true, true, true, true, true, true, true, true, true, true, true, true, true, true, true, false, false, false, false, false] rfl rfl (any_of HT_.out (by kernel_rfl)) (fun _ _ _ h => h) (Or.inl ⟨by rfl, ?_⟩) ?_ ?_
                                          rotate_left
                                          · intro w'
                                            go_simp
                                            with_reducible rfl
                                          rotate_left
                                          · simp only [Act.put, List.setIfInBounds_toArray, List.set_cons_zero, List.set_cons_succ, i64_w, i32_w]
                                            rfl
                                          refine take_ (i := 20) (N := some 52) (v := ?_) (a' := ?_) #[true, true, true, true, true, true, true, true, true, true, true, true, true, true, true, true, true, true, true, true, true, false, false, false, false] rfl rfl (take_ofW HT_.out HW_.out (by kernel_rfl)) (fun _ _ _ h => h) (Or.inl ⟨by rfl, ?_⟩) hHeld ?_ ?_
                                          rotate_left
                                          · rintro w' ⟨s0, s1, s2, s3, s4, s5⟩
                                            go_simp
                                            with_reducible rfl
                                          rotate_left
                                          · simp only [Act.put, List.setIfInBounds_toArray, List.set_cons_zero, List.set_cons_succ, i64_w, i32_w]
                                            rfl
                                          refine one_ (i := 21) (N := some 53) #[true, true, true, true, true, true, true, true, true, true, true, true, true, true, true, true, true, true, true, true, true, true, false, false, false] rfl rfl (one_of HT_.out (by kernel_rfl)) (by decide) (fun K hK => ?_)
                                          refine goes_ Tryd.func39 (by kernel_rfl) rfl #[.int .u8 (rd (rd_L1 l0 x16_1) x29_3), .int .u8 (rd (rd_L1 l1 x29_3) x24_2)] (by rfl) rfl rfl (by (try simp only [List.map_toArray, List.map_cons, List.map_nil]); first | done | rfl | (simp only [List.length_drop, List.length_take]; rfl)) ?_
                                          with_reducible refine (spec_Mul.calls k3 (rd (rd_L1 l0 x16_1) x29_3) (rd (rd_L1 l1 x29_3) x24_2) t246 _ A21.out).mono ?_
                                          rintro e w' ⟨rfl, ⟨nd, rfl⟩⟩
                                          refine ⟨_, rfl, ?_⟩
                                          have p22 : 0 ≤ (x24_2 : Int) := of_decide_eq_true (by first | (with_reducible assumption) | assumption)
                                          have q22 : (x24_2 : Int) < (((rd_L1 x5_3 x16_1).length : Int) : Int) := of_decide_eq_true (by first | (with_reducible assumption) | assumption)
                                          obtain ⟨go22, co22, eo22, gb22, gl22, cl22, HG22⟩ := Kd.R_form HL240_0.out (by omega)
                                          (first | cases eo22 | (injection eo22 with ea_ en_ ec_; (first | subst ea_ | (injection ea_ with ea_; subst ea_)); subst ec_; clear en_))
                                          have GB22 := Aside0.mk gb22
                                          have GG22 := Aside0.mk HG22
                                          clear gb22 gl22 HG22
                                          (first | simp only [add_plain] at hx241_0 | skip)
                                          obtain ⟨hx22_0, hf22_0⟩ := Kd.R_celln 0 HL240_0.out (x24_2 : Int) p22 q22
                                          replace p22 := eq_true p22
                                          replace q22 := eq_true q22
                                          have hq24 : (x16_1 : Int) < (x5_3.length : Int) := (by have h_ : (x16_1 : Int) < ((x5_3.length : Int) : Int) := of_decide_eq_true (by first | (with_reducible assumption) | assumption); first | exact h_ | (have e_ := (Kd.S_reads' HO_5.out).1; omega) | simpa only [List.length_set, List.length_set] using h_)
                                          obtain ⟨oki24, ce24, hcl24, hM24, hcc24, hok24, hbk24⟩ := Kd.S_borrow HO_5.out [] (x16_1 : Int) (of_decide_eq_true (by first | (with_reducible assumption) | assumption)) hq24
                                          obtain ⟨ve24_0, rfl, ge24_0⟩ := hM24
                                          have hv24 := hcc24 0 _ rfl
                                          rw [Nat.add_zero, show ((Kd.slice 5 (Kd.int .u8))).sz = 1 from rfl, Nat.mul_one] at hv24
                                          replace hv24 := Option.some.inj (hv24.symm.trans HX240_0.out)
                                          subst hv24
                                          clear hcc24 hcl24
                                          replace ge24_0 := (show Kd.R (Kd.int .u8) 5 _ _ _ _ (rd_L1 x5_3 x16_1) from ge24_0)
                                          have HP24 := Kd.R_putg ge24_0 (x24_2 : Int) (Go.bits .xor .u8 (rd (rd_L1 x5_3 x16_1) x24_2) t246)
                                          rw [← Ny247.out] at HP24
                                          have HS24 := hbk24 HP24.2 (fun k_ e_ => by injection e_ with e_; subst e_; exact ge24_0.1 _ rfl) (x' := y247) (Kd.M_row HP24.1)
                                          rw [← Ny249.out] at HS24
                                          have HQ24 := Aside0.mk HS24
                                          clear HP24 HS24 hbk24 hok24
                                          refine hK.out _ _ ⟨hHeld.1, hHeld.2.1, ((HB.out.cell (World.block_lt_of_cell? w _ hw242_0)).trans hw242_0), ((HB.out.cell (World.block_lt_of_cell? w _ hw243_0)).trans hw243_0), ((HB.out.cell (World.block_lt_of_cell? w _ hw244_0)).trans hw244_0), ((HB.out.cell (World.block_lt_of_cell? w _ hw245_0)).trans hw245_0)⟩ (fun hHeld => ?_)
                                          clear hK K
                                          refine norm_ (a' := ?_) ?_ ?_
                                          rotate_left
                                          · show Act.put _ (some 53) _ = _
                                            simp only [Act.put, List.setIfInBounds_toArray, List.set_cons_zero, List.set_cons_succ, i64_w, i32_w]
                                            rfl
                                          refine pure_ (i := 22) (N := some 54) (v := ?_) (a' := ?_) #[true, true, true, true, true, true, true, true, true, true, true, true, true, true, true, true, true, true, true, true, true, true, true, false, false] rfl rfl (any_of HT_.out (by kernel_rfl)) (fun _ _ _ h => h) (Or.inl ⟨by rfl, ?_⟩) ?_ ?_
                                          rotate_left
                                          · intro w'
                                            go_simp
                                            with_reducible rfl
                                          rotate_left
                                          · simp only [Act.put, List.setIfInBounds_toArray, List.set_cons_zero, List.set_cons_succ, i64_w, i32_w]
                                            rfl
                                          refine pure_ (i := 23) (N := some 55) (v := ?_) (a' := ?_) #[true, true, true, true, true, true, true, true, true, true, true, true, true, true, true, true, true, true, true, true, true, true, true, true, false] rfl rfl (any_of HT_.out (by kernel_rfl)) (fun _ _ _ h => h) (Or.inl ⟨by rfl, ?_⟩) ?_ ?_
                                          rotate_left
                                          · intro w'
                                            go_simp
                                            with_reducible rfl
                                          rotate_left
                                          · simp only [Act.put, List.setIfInBounds_toArray, List.set_cons_zero, List.set_cons_succ, i64_w, i32_w]
                                            rfl
                                          refine last_ (i := 24) (N := none) #[true, true, true, true, true, true, true, true, true, true, true, true, true, true, true, true, true, true, true, true, true, true, true, true, true] rfl rfl (one_of HT_.out (by kernel_rfl)) (by decide) (fun K hK => ?_)
                                          refine skip_ (w1 := ?_) (by rfl) rfl ?_ ?_
                                          rotate_left
                                          · go_simp
                                            rfl
                                          refine hK.out _ _ ?_
                                          clear hK K
                                          refine done_ (done_of HT_.out (by kernel_rfl)) ?_
                                          try go_wp2
                                          (try simp only [← hl5_3])
                                          go_roundg k3
                                          case measure => have := HK1.out; have := HK2.out; have := HK3.out; omega
                                          case rel => exact ⟨(y249), (wrap64 (x29_3 + 1)), (by first | rfl | (simp; done) | (simp [*]; done)), H', ⟨by have := HK1.out; have := HK2.out; have := HK3.out; omega⟩, ⟨by (try simp only [hl5_2]); (try simp only [hl5_3]); (with_reducible repeat (first | apply Kd.S_alloc | apply Kd.S_drewN | apply Kd.S_drew)); exact HQ24.out⟩, ⟨by repeat (first | (with_reducible first | exact HB.out | apply below_alloc | apply pw_below_drewN | apply below_drew1 | refine below_set ?_ GB22.out) | exact HB.out)⟩⟩
                                        · rw [if_neg c20] at H
                                          exact absurd H (by simp)
                                      · rw [if_neg c19] at H
                                        exact absurd H (by simp)
                                    · rw [if_neg c18] at H
                                      exact absurd H (by simp)
                                  · rw [if_neg c17] at H
                                    exact absurd H (by simp)
                                · rw [if_neg c16] at H
                                  exact absurd H (by simp)
                              · rw [if_neg c15] at H
                                exact absurd H (by simp)
                            · rw [if_neg c14] at H
                              exact absurd H (by simp)
                          · rw [if_neg c13] at H
                            exact absurd H (by simp)
                        · rw [if_neg c12] at H
                          exact absurd H (by simp)
                      · rw [if_neg c11] at H
                        have c11b0 : decide (x29_3 < (l1.length : Int)) = false := decide_eq_false c11
                        (try rw [hl5_3] at c11b0)
                        clear c11
                        have H' := Aside0.mk H
                        clear H
                        go_wp2
                        (try simp only [← hl5_2, ← hl5_3])
                        go_roundg k3
                        case measure => have := HK1.out; have := HK2.out; have := HK3.out; omega
                        case rel => exact ⟨(x5_3), (wrap64 (x24_2 + 1)), (by first | rfl | (simp; done) | (simp [*]; done)), H', ⟨by have := HK1.out; have := HK2.out; have := HK3.out; omega⟩, ⟨by (try simp only [hl5_2]); (try simp only [hl5_3]); (with_reducible repeat (first | apply Kd.S_alloc | apply Kd.S_drewN | apply Kd.S_drew)); exact HO_5.out⟩, ⟨by repeat (first | (with_reducible first | exact HB.out | apply below_alloc | apply pw_below_drewN | apply below_drew1) | exact HB.out)⟩⟩
                · rw [if_neg c10] at H
                  have c10b0 : decide (x24_2 < ((rd_L1 x5_1 x16_1).length : Int)) = false := decide_eq_false c10
                  clear c10
                  have H' := Aside0.mk H
                  clear H
                  go_wp2
                  (try simp only [← hl5_2])
                  go_roundg k2
                  case measure => have := HK1.out; have := HK2.out; omega
                  case rel => exact ⟨(x5_2), (wrap64 (x16_1 + 1)), (by first | rfl | (simp; done) | (simp [*]; done)), H', ⟨by have := HK1.out; have := HK2.out; omega⟩, ⟨by (try simp only [hl5_2]); (with_reducible repeat (first | apply Kd.S_alloc | apply Kd.S_drewN | apply Kd.S_drew)); exact HO_5.out⟩, ⟨by repeat (first | (with_reducible first | exact HB.out | apply below_alloc | apply pw_below_drewN | apply below_drew1) | exact HB.out)⟩⟩
          · rw [if_neg c8] at H
            exact absurd H (by simp)
        · rw [if_neg c7] at H
          exact absurd H (by simp)
      · rw [if_neg c6] at H
        have c6b0 : decide (x16_1 < (l0.length : Int)) = false := decide_eq_false c6
        (try rw [hl5_3] at c6b0)
        clear c6
        obtain rfl := Option.some.inj H
        go_wp2
        go_ret
        exact ⟨_, by first | rfl | (simp [errW_none, errW_some] <;> rfl) | (simp [*, errW_none, errW_some] <;> rfl), by (with_reducible repeat (first | apply Kd.S_alloc | apply Kd.S_drewN | apply Kd.S_drew)); exact HO_5.out, by repeat (first | (with_reducible first | exact HB.out | apply below_alloc | apply pw_below_drewN | apply below_drew1) | exact HB.out)⟩
def spec_Unit.l0 : Nat → List (List Int) → Int → Int → Option ((List (List Int)))
  | 0, _, _, _ => none
  | k + 1, x3, x9, x10 => if x10 < x9 then (if 0 ≤ x10 then (if x10 < (x3.length : Int) then (if x10 < ((rd_L1 x3 x10).length : Int) then (spec_Unit.l0 k (x3.set (x10 : Int).toNat ((rd_L1 x3 x10).set (x10 : Int).toNat 1)) x9 (wrap64 (x10 + 1))) else (none)) else (none)) else (none)) else (some x3)
def spec_Unit.f (k : Nat) (a0 : Int) : Option ((List (List Int))) := (spec_Zeros.f k a0 a0).bind fun t250 => (spec_Unit.l0 k t250 (t250.length : Int) 0)
theorem spec_Unit.mono_l : ∀ k, (∀ y0 y1 y2, LeO (spec_Unit.l0 k y0 y1 y2) (spec_Unit.l0 (k + 1) y0 y1 y2))
  | 0 => fun _ _ _ r h => by simp [spec_Unit.l0] at h
  | k + 1 => by
    have ih0 := spec_Unit.mono_l k
    · intro y0 y1 y2
      unfold spec_Unit.l0
      repeat' first
      | (with_reducible exact ih0 _ _ _)
      | (with_reducible exact spec_Zeros.mono _ _ _)
      | (with_reducible exact LeO.refl _)
      | (with_reducible exact LeO.none _)
      | (with_reducible refine LeO.ite ?_ ?_)
      | (with_reducible refine LeO.bind ?_ (fun _ => ?_))
      | exact ih0 _ _ _
      | exact spec_Zeros.mono _ _ _
      | exact LeO.none _
      | refine LeO.ite ?_ ?_
      | refine LeO.bind ?_ (fun _ => ?_)
theorem spec_Unit.mono : ∀ a0 k, LeO (spec_Unit.f k a0) (spec_Unit.f (k + 1) a0) := by
  intro a0 k
  have ih0 := spec_Unit.mono_l k
  unfold spec_Unit.f
  repeat' first
      | (with_reducible exact ih0 _ _ _)
      | (with_reducible exact spec_Zeros.mono _ _ _)
      | (with_reducible exact LeO.refl _)
      | (with_reducible exact LeO.none _)
      | (with_reducible refine LeO.ite ?_ ?_)
      | (with_reducible refine LeO.bind ?_ (fun _ => ?_))
      | exact ih0 _ _ _
      | exact spec_Zeros.mono _ _ _
      | exact LeO.none _
      | refine LeO.ite ?_ ?_
      | refine LeO.bind ?_ (fun _ => ?_)
set_option maxHeartbeats 8000000 in
set_option maxRecDepth 100000 in
theorem spec_Unit.calls (k : Nat) (a0 : Int) (r : List (List Int)) (w : World) (h : spec_Unit.f k a0 = some r) :
    Calls Tryd.prog 25 #[.int .i64 a0] w fun e w' => ∃ v0_ : Value, e = .returned (v0_) ∧ Kd.S (Kd.slice 5 (Kd.int .u8)) 22 w' w.heap.size (fun _ => True) v0_ r ∧ Below w.heap.size w w' := by
  have HB := Aside0.mk (Below.refl w.heap.size w)
  have H : ((spec_Zeros.f k a0 a0).bind fun t250 => (spec_Unit.l0 k t250 (t250.length : Int) 0)) = some r := h
  clear h
  replace H := Option.bind_eq_some_iff.mp H
  obtain ⟨t250, A20, H⟩ := H
  replace H : (spec_Unit.l0 k t250 (t250.length : Int) 0) = some r := H
  have A2 := Aside0.mk A20
  clear A20
  have H' := Aside0.mk H
  clear H
  go_enter Tryd.func25, Tryd.ntmps25
  go_wp2_with (first | ((with_reducible refine gate_callee (f := 40) rfl ?_); refine goesL_ (some 7) rfl rfl Tryd.func40 (by kernel_rfl) rfl #[.int .i64 a0, .int .i64 a0] rfl (by (try simp only [List.map_toArray, List.map_cons, List.map_nil]); first | done | rfl | (simp only [List.length_drop, List.length_take]; rfl)) ?_; (with_reducible refine (spec_Zeros.calls k a0 a0 t250 _ A2.out).mono ?_); rintro e w3 ⟨v251, rfl, ho0, hb⟩; refine ⟨_, rfl, ?_⟩; have n0_ := Aside0.mk (Kd.S_lower ho0 (below_size (by repeat (first | (with_reducible first | exact HB.out | apply below_alloc | apply pw_below_drewN | apply below_drew1) | exact HB.out)))); have n1_ := Aside0.mk (below_step (by repeat (first | (with_reducible first | exact HB.out | apply below_alloc | apply pw_below_drewN | apply below_drew1) | exact HB.out)) hb); clear HB; have HO252 := n0_; have HB := n1_; clear n0_ n1_; (try clear hb); (try clear hb2); (try clear hk); (try clear hi); (try clear ho0); obtain ⟨Ao4, co4, eo4⟩ := Kd.S_slice HO252.out; subst eo4))
  try simp only [Act.put, List.setIfInBounds_toArray, List.set_cons_zero, List.set_cons_succ]
  go_loopg [10] k (fun kq v10 w' => ∃ (x3_1 : List (List Int)) (x10_1 : Int), v10 = .int .i64 x10_1 ∧ Aside0 (spec_Unit.l0 kq x3_1 (t250.length : Int) x10_1 = some r) ∧ Aside0 (kq ≤ k) ∧ Aside0 (Kd.S (Kd.slice 5 (Kd.int .u8)) 22 w' w.heap.size (fun _ => True) (.slice Ao4 t250.length co4) x3_1) ∧ Aside0 (Below w.heap.size w w'))
  case atStart => exact ⟨(t250), (0), (by first | rfl | (simp; done) | (simp [*]; done)), H', ⟨Nat.le_refl _⟩, ⟨by (with_reducible repeat (first | apply Kd.S_alloc | apply Kd.S_drewN | apply Kd.S_drew)); exact HO252.out⟩, ⟨by repeat (first | (with_reducible first | exact HB.out | apply below_alloc | apply pw_below_drewN | apply below_drew1) | exact HB.out)⟩⟩
  case round =>
    clear H'
    try clear c2
    try clear p2
    try clear c4
    obtain ⟨x3_1, x10_1, rfl, HA, HK1, HO_3, HB⟩ := hrel
    have hl3_1 := (Kd.S_reads' HO_3.out).1
    rw [hl3_1] at HO_3
    (try simp only [hl3_1])
    cases gk with
    | zero => exact absurd HA.out (by simp [spec_Unit.l0])
    | succ k1 =>
      have H := HA.out
      clear HA
      simp only [spec_Unit.l0] at H
      by_cases c5 : x10_1 < (t250.length : Int)
      · rw [if_pos c5] at H
        have c5b0 : decide (x10_1 < (t250.length : Int)) = true := decide_eq_true c5
        clear c5
        by_cases c6 : 0 ≤ x10_1
        · rw [if_pos c6] at H
          have c6b0 : decide (0 ≤ x10_1) = true := decide_eq_true c6
          clear c6
          by_cases c7 : x10_1 < (x3_1.length : Int)
          · rw [if_pos c7] at H
            have c7b0 : decide (x10_1 < (x3_1.length : Int)) = true := decide_eq_true c7
            clear c7
            by_cases c8 : x10_1 < ((rd_L1 x3_1 x10_1).length : Int)
            · rw [if_pos c8] at H
              have c8b0 : decide (x10_1 < ((rd_L1 x3_1 x10_1).length : Int)) = true := decide_eq_true c8
              clear c8
              obtain ⟨y254, hy254⟩ : ∃ y_ : List Int, y_ = ((rd_L1 x3_1 x10_1).set (x10_1 : Int).toNat 1) := ⟨_, rfl⟩
              replace H : (spec_Unit.l0 k1 (x3_1.set (x10_1 : Int).toNat y254) (t250.length : Int) (wrap64 (x10_1 + 1))) = some r := by first | (rw [hy254]; with_reducible exact H) | (have H2_ := (Option.bind_some _ _).symm.trans H; rw [hy254]; with_reducible exact H2_) | (have H2_ := (Option.bind_some _ _).symm.trans H; with_reducible exact H2_) | with_reducible exact H | (rw [hy254]; exact H) | exact H
              have Ny254 := Aside0.mk hy254
              clear hy254
              obtain ⟨y256, hy256⟩ : ∃ y_ : List (List Int), y_ = (x3_1.set (x10_1 : Int).toNat y254) := ⟨_, rfl⟩
              replace H : (spec_Unit.l0 k1 y256 (t250.length : Int) (wrap64 (x10_1 + 1))) = some r := by first | (rw [hy256]; with_reducible exact H) | (have H2_ := (Option.bind_some _ _).symm.trans H; rw [hy256]; with_reducible exact H2_) | (have H2_ := (Option.bind_some _ _).symm.trans H; with_reducible exact H2_) | with_reducible exact H | (rw [hy256]; exact H) | exact H
              have Ny256 := Aside0.mk hy256
              clear hy256
              have H' := Aside0.mk H
              clear H
              have p253 : 0 ≤ (x10_1 : Int) := of_decide_eq_true (by first | (with_reducible assumption) | assumption)
              have q253 : x10_1 < (x3_1.length : Int) := of_decide_eq_true (by first | (with_reducible assumption) | assumption)
              obtain ⟨ad253, A253_0, c253_0, e253, hx253_0, hl253_0, hi253_0⟩ := at_L1 (Kd.S_reads' HO_3.out).2.2 x10_1 p253 q253
              cases e253
              obtain ⟨ce253, hce253, hMe253, hcc253⟩ := Kd.S_get HO_3.out [] x10_1 p253 (by first | exact q253 | exact of_decide_eq_true (by first | (with_reducible assumption) | assumption) | (have e_ := (Kd.S_reads' HO_3.out).1; omega))
              obtain ⟨ve253_0, rfl, ge253_0⟩ := hMe253
              have hv253_0 := hcc253 0 _ rfl
              rw [Nat.add_zero, show ((Kd.slice 5 (Kd.int .u8))).sz = 1 from rfl, Nat.mul_one] at hv253_0
              replace hv253_0 := Option.some.inj (hv253_0.symm.trans hx253_0)
              rw [hv253_0] at ge253_0
              have HL253_0 := Aside0.mk (show Kd.R (Kd.int .u8) 5 _ _ _ _ (rd_L1 x3_1 x10_1) from ge253_0)
              clear hv253_0 ge253_0
              have HX253_0 := Aside0.mk hx253_0
              clear hcc253 hce253
              have HR253_0 := Aside0.mk hi253_0
              have HC253_0 := Aside0.mk hl253_0
              clear hi253_0 hl253_0
              replace p253 := eq_true p253
              replace q253 := eq_true q253
              have p9 : 0 ≤ (x10_1 : Int) := of_decide_eq_true (by first | (with_reducible assumption) | assumption)
              have q9 : (x10_1 : Int) < (((rd_L1 x3_1 x10_1).length : Int) : Int) := of_decide_eq_true (by first | (with_reducible assumption) | assumption)
              obtain ⟨go9, co9, eo9, gb9, gl9, cl9, HG9⟩ := Kd.R_form HL253_0.out (by omega)
              (first | cases eo9 | (injection eo9 with ea_ en_ ec_; (first | subst ea_ | (injection ea_ with ea_; subst ea_)); subst ec_; clear en_))
              have GB9 := Aside0.mk gb9
              have GG9 := Aside0.mk HG9
              clear gb9 gl9 HG9
              obtain ⟨hx9_0, hf9_0⟩ := Kd.R_celln 0 HL253_0.out (x10_1 : Int) p9 q9
              replace p9 := eq_true p9
              replace q9 := eq_true q9
              have hq10 : (x10_1 : Int) < (x3_1.length : Int) := (by have h_ : (x10_1 : Int) < ((x3_1.length : Int) : Int) := of_decide_eq_true (by first | (with_reducible assumption) | assumption); first | exact h_ | (have e_ := (Kd.S_reads' HO_3.out).1; omega) | simpa only [List.length_set, List.length_set] using h_)
              obtain ⟨oki10, ce10, hcl10, hM10, hcc10, hok10, hbk10⟩ := Kd.S_borrow HO_3.out [] (x10_1 : Int) (of_decide_eq_true (by first | (with_reducible assumption) | assumption)) hq10
              obtain ⟨ve10_0, rfl, ge10_0⟩ := hM10
              have hv10 := hcc10 0 _ rfl
              rw [Nat.add_zero, show ((Kd.slice 5 (Kd.int .u8))).sz = 1 from rfl, Nat.mul_one] at hv10
              replace hv10 := Option.some.inj (hv10.symm.trans HX253_0.out)
              subst hv10
              clear hcc10 hcl10
              replace ge10_0 := (show Kd.R (Kd.int .u8) 5 _ _ _ _ (rd_L1 x3_1 x10_1) from ge10_0)
              have HP10 := Kd.R_putg ge10_0 (x10_1 : Int) 1
              go_wp2_with (first | ((with_reducible refine gate_store (t := 5) (p := 18) rfl ?_); refine store_event (t := 5) (p := 18) (v := ?vo_w11) (w1 := (wr.setCell ⟨go9, (x10_1 : Int).toNat, none⟩ (.int .u8 1))) ?hg ?ho ?hn ?hr ?_; (case ho => rfl); (case hg => rfl); (case hn => rfl); (case hr => first | (go_simp; done) | (go_simp; rfl)); intro w11 hw; have hg : wr.grownBy w11 (some go9) := (by rw [hw]; exact HP10.2); have hz_ : Kd.R (Kd.int .u8) 5 w11 w.heap.size oki10 (.slice (some ⟨go9, 0, none⟩) (rd_L1 x3_1 x10_1).length c253_0) y254 := (by rw [hw, Ny254.out]; exact HP10.1); have hp_ : Kd.S (Kd.slice 5 (Kd.int .u8)) 22 w11 w.heap.size (fun _ => True) (.slice (some ad253) x3_1.length co4) y256 := (by rw [Ny256.out]; exact hbk10 hg (fun k_ e_ => by injection e_ with e_; subst e_; exact ge10_0.1 _ rfl) (Kd.M_row hz_)); have hm_ := Kd.R_mono hz_ hok10; clear HP10 hbk10; have n0_ := Aside0.mk (hp_); have n1_ := Aside0.mk ((by rw [hw]; exact below_set (HB.out) GB9.out : Below w.heap.size w w11)); have n2_ := Aside0.mk (hm_); have n3_ := Aside0.mk ((Kd.R_reads' hm_).2.1); clear HO_3; clear HB; clear HL253_0; have HO_3 := n0_; have HB := n1_; have HL257 := n2_; have HC255 := n3_; clear n0_ n1_ n2_ n3_; clear hg hw hp_ hz_ hm_ hok10))
              (try simp only [← hl3_1])
              go_roundg k1
              case measure => have := HK1.out; omega
              case rel => exact ⟨(y256), (wrap64 (x10_1 + 1)), (by first | rfl | (simp; done) | (simp [*]; done)), H', ⟨by have := HK1.out; omega⟩, ⟨by (try simp only [hl3_1]); (with_reducible repeat (first | apply Kd.S_alloc | apply Kd.S_drewN | apply Kd.S_drew)); exact HO_3.out⟩, ⟨by repeat (first | (with_reducible first | exact HB.out | apply below_alloc | apply pw_below_drewN | apply below_drew1) | exact HB.out)⟩⟩
            · rw [if_neg c8] at H
              exact absurd H (by simp)
          · rw [if_neg c7] at H
            exact absurd H (by simp)
        · rw [if_neg c6] at H
          exact absurd H (by simp)
      · rw [if_neg c5] at H
        have c5b0 : decide (x10_1 < (t250.length : Int)) = false := decide_eq_false c5
        (try rw [hl3_1] at c5b0)
        clear c5
        obtain rfl := Option.some.inj H
        go_wp2
        go_ret
        exact ⟨_, by first | rfl | (simp [errW_none, errW_some] <;> rfl) | (simp [*, errW_none, errW_some] <;> rfl), by (with_reducible repeat (first | apply Kd.S_alloc | apply Kd.S_drewN | apply Kd.S_drew)); exact HO_3.out, by repeat (first | (with_reducible first | exact HB.out | apply below_alloc | apply pw_below_drewN | apply below_drew1) | exact HB.out)⟩
end Go.Proofs.YtpeikjnkbjabpaaDoor.P
