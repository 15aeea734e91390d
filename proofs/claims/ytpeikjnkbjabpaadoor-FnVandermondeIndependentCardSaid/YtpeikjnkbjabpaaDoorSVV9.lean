import Derived.Test.YtpeikjnkbjabpaaDoorSVV0
import Derived.Test.YtpeikjnkbjabpaaDoorSVV8
namespace Go.Proofs.YtpeikjnkbjabpaaDoor.V
open Go.RowKit Go.Proofs.YtpeikjnkbjabpaaDoorW.PrintWords Go.Proofs.YtpeikjnkbjabpaaDoorW.PrintLast Go.Proofs.YtpeikjnkbjabpaaDoorW.PrintMore
attribute [local go_sem] max2_int min2_int max_two min_two max_three min_three max_four min_four   -- for this text's walks alone
set_option linter.unusedVariables false
set_option linter.unusedSimpArgs false
mutual
def spec_Interpolate.l0 : Nat → List Int → List Int → List Int → Int → Int → Option (List Int)
  | 0, _, _, _, _, _ => none
  | k + 1, x0, x1, x5, x19, x20 => if x20 < x19 then (if 0 ≤ x20 then (if x20 < (x1.length : Int) then (spec_Interpolate.l1 k x0 x1 x5 x20 (([1] : List Int)) (rd x1 x20) x19 x20 (x0.length : Int) 0) else (none)) else (none)) else (some x5)
def spec_Interpolate.l1 : Nat → List Int → List Int → List Int → Int → List Int → Int → Int → Int → Int → Int → Option (List Int)
  | 0, _, _, _, _, _, _, _, _, _, _ => none
  | k + 1, x0, x1, x5, x6, x7, x8, x19, x20, x29, x30 => if x30 < x29 then (if x30 = x6 then (spec_Interpolate.l1 k x0 x1 x5 x6 x7 x8 x19 x20 x29 (wrap64 (x30 + 1))) else (if 0 ≤ (wrap64 ((x7.length : Int) + 1)) then (if (wrap64 ((x7.length : Int) + 1) : Int).toNat ≤ 281474976710656 then (spec_Interpolate.l2 k x0 x1 x5 x6 x8 x30 (List.replicate (wrap64 ((x7.length : Int) + 1) : Int).toNat 0) x19 x20 x29 x30 x7 (x7.length : Int) 0) else (none)) else (none))) else (spec_Interpolate.l3 k x0 x1 x5 x8 x19 x20 x7 (x7.length : Int) 0)
def spec_Interpolate.l2 : Nat → List Int → List Int → List Int → Int → Int → Int → List Int → Int → Int → Int → Int → List Int → Int → Int → Option (List Int)
  | 0, _, _, _, _, _, _, _, _, _, _, _, _, _, _ => none
  | k + 1, x0, x1, x5, x6, x8, x9, x10, x19, x20, x29, x30, x40, x41, x42 => if x42 < x41 then (if 0 ≤ x42 then (if x42 < (x40.length : Int) then (if 0 ≤ (wrap64 (x42 + 1)) then (if (wrap64 (x42 + 1)) < (x10.length : Int) then ((some (x10.set ((wrap64 (x42 + 1)) : Int).toNat (Go.bits .xor .u8 (rd x10 (wrap64 (x42 + 1))) (rd x40 x42)) : List Int)).bind fun y224 => (if x42 < (x10.length : Int) then (if 0 ≤ x9 then (if x9 < (x0.length : Int) then ((spec_Mul.f k (rd x40 x42) (rd x0 x9)).bind fun t227 => (spec_Interpolate.l2 k x0 x1 x5 x6 x8 x9 (y224.set (x42 : Int).toNat (Go.bits .xor .u8 (rd y224 x42) t227)) x19 x20 x29 x30 x40 x41 (wrap64 (x42 + 1)))) else (none)) else (none)) else (none))) else (none)) else (none)) else (none)) else (none)) else (if 0 ≤ x6 then (if x6 < (x0.length : Int) then (if 0 ≤ x9 then (if x9 < (x0.length : Int) then ((spec_Div.f k x8 (Go.bits .xor .u8 (rd x0 x6) (rd x0 x9))).bind fun t231 => (spec_Interpolate.l1 k x0 x1 x5 x6 x10 t231 x19 x20 x29 (wrap64 (x30 + 1)))) else (none)) else (none)) else (none)) else (none))
def spec_Interpolate.l3 : Nat → List Int → List Int → List Int → Int → Int → Int → List Int → Int → Int → Option (List Int)
  | 0, _, _, _, _, _, _, _, _, _ => none
  | k + 1, x0, x1, x5, x8, x19, x20, x81, x82, x83 => if x83 < x82 then (if 0 ≤ x83 then (if x83 < (x81.length : Int) then (if x83 < (x5.length : Int) then ((spec_Mul.f k (rd x81 x83) x8).bind fun t234 => (spec_Interpolate.l3 k x0 x1 (x5.set (x83 : Int).toNat (Go.bits .xor .u8 (rd x5 x83) t234)) x8 x19 x20 x81 x82 (wrap64 (x83 + 1)))) else (none)) else (none)) else (none)) else (spec_Interpolate.l0 k x0 x1 x5 x19 (wrap64 (x20 + 1)))
end
def spec_Interpolate.f (k : Nat) (l0 : List Int) (l1 : List Int) : Option (List Int) := if 0 ≤ (l0.length : Int) then (if ((l0.length : Int) : Int).toNat ≤ 281474976710656 then (spec_Interpolate.l0 k l0 l1 (List.replicate ((l0.length : Int) : Int).toNat 0) (l0.length : Int) 0) else (none)) else (none)
theorem spec_Interpolate.mono_l : ∀ k, (∀ y0 y1 y2 y3 y4, LeO (spec_Interpolate.l0 k y0 y1 y2 y3 y4) (spec_Interpolate.l0 (k + 1) y0 y1 y2 y3 y4)) ∧ (∀ y0 y1 y2 y3 y4 y5 y6 y7 y8 y9, LeO (spec_Interpolate.l1 k y0 y1 y2 y3 y4 y5 y6 y7 y8 y9) (spec_Interpolate.l1 (k + 1) y0 y1 y2 y3 y4 y5 y6 y7 y8 y9)) ∧ (∀ y0 y1 y2 y3 y4 y5 y6 y7 y8 y9 y10 y11 y12 y13, LeO (spec_Interpolate.l2 k y0 y1 y2 y3 y4 y5 y6 y7 y8 y9 y10 y11 y12 y13) (spec_Interpolate.l2 (k + 1) y0 y1 y2 y3 y4 y5 y6 y7 y8 y9 y10 y11 y12 y13)) ∧ (∀ y0 y1 y2 y3 y4 y5 y6 y7 y8, LeO (spec_Interpolate.l3 k y0 y1 y2 y3 y4 y5 y6 y7 y8) (spec_Interpolate.l3 (k + 1) y0 y1 y2 y3 y4 y5 y6 y7 y8))
  | 0 => ⟨fun _ _ _ _ _ r h => by simp [spec_Interpolate.l0] at h, fun _ _ _ _ _ _ _ _ _ _ r h => by simp [spec_Interpolate.l1] at h, fun _ _ _ _ _ _ _ _ _ _ _ _ _ _ r h => by simp [spec_Interpolate.l2] at h, fun _ _ _ _ _ _ _ _ _ r h => by simp [spec_Interpolate.l3] at h⟩
  | k + 1 => by
    obtain ⟨ih0, ih1, ih2, ih3⟩ := spec_Interpolate.mono_l k
    refine ⟨?_, ?_, ?_, ?_⟩
    · intro y0 y1 y2 y3 y4
      unfold spec_Interpolate.l0
      repeat' first
      | (with_reducible exact ih0 _ _ _ _ _)
      | (with_reducible exact ih1 _ _ _ _ _ _ _ _ _ _)
      | (with_reducible exact ih2 _ _ _ _ _ _ _ _ _ _ _ _ _ _)
      | (with_reducible exact ih3 _ _ _ _ _ _ _ _ _)
      | (with_reducible exact spec_Div.mono _ _ _)
      | (with_reducible exact spec_Mul.mono _ _ _)
      | (with_reducible exact LeO.refl _)
      | (with_reducible exact LeO.none _)
      | (with_reducible refine LeO.ite ?_ ?_)
      | (with_reducible refine LeO.bind ?_ (fun _ => ?_))
      | exact ih0 _ _ _ _ _
      | exact ih1 _ _ _ _ _ _ _ _ _ _
      | exact ih2 _ _ _ _ _ _ _ _ _ _ _ _ _ _
      | exact ih3 _ _ _ _ _ _ _ _ _
      | exact spec_Div.mono _ _ _
      | exact spec_Mul.mono _ _ _
      | exact LeO.none _
      | refine LeO.ite ?_ ?_
      | refine LeO.bind ?_ (fun _ => ?_)
    · intro y0 y1 y2 y3 y4 y5 y6 y7 y8 y9
      unfold spec_Interpolate.l1
      repeat' first
      | (with_reducible exact ih0 _ _ _ _ _)
      | (with_reducible exact ih1 _ _ _ _ _ _ _ _ _ _)
      | (with_reducible exact ih2 _ _ _ _ _ _ _ _ _ _ _ _ _ _)
      | (with_reducible exact ih3 _ _ _ _ _ _ _ _ _)
      | (with_reducible exact spec_Div.mono _ _ _)
      | (with_reducible exact spec_Mul.mono _ _ _)
      | (with_reducible exact LeO.refl _)
      | (with_reducible exact LeO.none _)
      | (with_reducible refine LeO.ite ?_ ?_)
      | (with_reducible refine LeO.bind ?_ (fun _ => ?_))
      | exact ih0 _ _ _ _ _
      | exact ih1 _ _ _ _ _ _ _ _ _ _
      | exact ih2 _ _ _ _ _ _ _ _ _ _ _ _ _ _
      | exact ih3 _ _ _ _ _ _ _ _ _
      | exact spec_Div.mono _ _ _
      | exact spec_Mul.mono _ _ _
      | exact LeO.none _
      | refine LeO.ite ?_ ?_
      | refine LeO.bind ?_ (fun _ => ?_)
    · intro y0 y1 y2 y3 y4 y5 y6 y7 y8 y9 y10 y11 y12 y13
      unfold spec_Interpolate.l2
      repeat' first
      | (with_reducible exact ih0 _ _ _ _ _)
      | (with_reducible exact ih1 _ _ _ _ _ _ _ _ _ _)
      | (with_reducible exact ih2 _ _ _ _ _ _ _ _ _ _ _ _ _ _)
      | (with_reducible exact ih3 _ _ _ _ _ _ _ _ _)
      | (with_reducible exact spec_Div.mono _ _ _)
      | (with_reducible exact spec_Mul.mono _ _ _)
      | (with_reducible exact LeO.refl _)
      | (with_reducible exact LeO.none _)
      | (with_reducible refine LeO.ite ?_ ?_)
      | (with_reducible refine LeO.bind ?_ (fun _ => ?_))
      | exact ih0 _ _ _ _ _
      | exact ih1 _ _ _ _ _ _ _ _ _ _
      | exact ih2 _ _ _ _ _ _ _ _ _ _ _ _ _ _
      | exact ih3 _ _ _ _ _ _ _ _ _
      | exact spec_Div.mono _ _ _
      | exact spec_Mul.mono _ _ _
      | exact LeO.none _
      | refine LeO.ite ?_ ?_
      | refine LeO.bind ?_ (fun _ => ?_)
    · intro y0 y1 y2 y3 y4 y5 y6 y7 y8
      unfold spec_Interpolate.l3
      repeat' first
      | (with_reducible exact ih0 _ _ _ _ _)
      | (with_reducible exact ih1 _ _ _ _ _ _ _ _ _ _)
      | (with_reducible exact ih2 _ _ _ _ _ _ _ _ _ _ _ _ _ _)
      | (with_reducible exact ih3 _ _ _ _ _ _ _ _ _)
      | (with_reducible exact spec_Div.mono _ _ _)
      | (with_reducible exact spec_Mul.mono _ _ _)
      | (with_reducible exact LeO.refl _)
      | (with_reducible exact LeO.none _)
      | (with_reducible refine LeO.ite ?_ ?_)
      | (with_reducible refine LeO.bind ?_ (fun _ => ?_))
      | exact ih0 _ _ _ _ _
      | exact ih1 _ _ _ _ _ _ _ _ _ _
      | exact ih2 _ _ _ _ _ _ _ _ _ _ _ _ _ _
      | exact ih3 _ _ _ _ _ _ _ _ _
      | exact spec_Div.mono _ _ _
      | exact spec_Mul.mono _ _ _
      | exact LeO.none _
      | refine LeO.ite ?_ ?_
      | refine LeO.bind ?_ (fun _ => ?_)
theorem spec_Interpolate.mono : ∀ a0 a1 k, LeO (spec_Interpolate.f k a0 a1) (spec_Interpolate.f (k + 1) a0 a1) := by
  intro a0 a1 k
  obtain ⟨ih0, ih1, ih2, ih3⟩ := spec_Interpolate.mono_l k
  unfold spec_Interpolate.f
  repeat' first
      | (with_reducible exact ih0 _ _ _ _ _)
      | (with_reducible exact ih1 _ _ _ _ _ _ _ _ _ _)
      | (with_reducible exact ih2 _ _ _ _ _ _ _ _ _ _ _ _ _ _)
      | (with_reducible exact ih3 _ _ _ _ _ _ _ _ _)
      | (with_reducible exact spec_Div.mono _ _ _)
      | (with_reducible exact spec_Mul.mono _ _ _)
      | (with_reducible exact LeO.refl _)
      | (with_reducible exact LeO.none _)
      | (with_reducible refine LeO.ite ?_ ?_)
      | (with_reducible refine LeO.bind ?_ (fun _ => ?_))
      | exact ih0 _ _ _ _ _
      | exact ih1 _ _ _ _ _ _ _ _ _ _
      | exact ih2 _ _ _ _ _ _ _ _ _ _ _ _ _ _
      | exact ih3 _ _ _ _ _ _ _ _ _
      | exact spec_Div.mono _ _ _
      | exact spec_Mul.mono _ _ _
      | exact LeO.none _
      | refine LeO.ite ?_ ?_
      | refine LeO.bind ?_ (fun _ => ?_)
def spec_Interpolate.T15 : Bool × List (List Nat × List Nat) := (true, [([], []), ([], []), ([0, 1], [0, 1]), ([2], [2]), ([], []), ([], []), ([], []), ([5, 6], [5, 6]), ([7], [7]), ([4, 8], [4, 8]), ([3, 9], [3, 9]), ([0, 1, 0, 1, 2, 3, 4, 5, 6, 7, 8, 9, 10], [0, 1]), ([11, 10, 9, 0, 1, 2, 3, 4, 5, 6, 7, 8, 9, 10], [10, 11])])
def spec_Interpolate.B15 : List Nat := [0, 0, 3, 7, 0, 0, 0, 96, 224, 496, 1023, 2047, 4095]
theorem spec_Interpolate.tab15 : rtab .any (opsOf Tryd.f29 15) = spec_Interpolate.T15 := by kernel_rfl
theorem spec_Interpolate.bits15 : waitsOk spec_Interpolate.T15.2 spec_Interpolate.B15 = true := by kernel_rfl
def spec_Interpolate.T17 : Bool × List (List Nat × List Nat) := (true, [([], []), ([], []), ([], []), ([], []), ([2, 3], [2, 3]), ([4], [4]), ([], []), ([], []), ([6, 7], [6, 7]), ([8], [8]), ([5, 9], [5, 9]), ([1, 10], [1, 10]), ([0, 11, 0], [0]), ([11, 12, 0, 1, 2, 3, 4, 5, 6, 7, 8, 9, 10, 11, 12], [1, 11])])
def spec_Interpolate.B17 : List Nat := [0, 0, 0, 0, 12, 28, 0, 0, 192, 448, 1020, 2046, 4095, 8191]
theorem spec_Interpolate.tab17 : rtab .any (opsOf Tryd.f29 17) = spec_Interpolate.T17 := by kernel_rfl
theorem spec_Interpolate.bits17 : waitsOk spec_Interpolate.T17.2 spec_Interpolate.B17 = true := by kernel_rfl
def spec_Interpolate.T22 : Bool × List (List Nat × List Nat) := (true, [([], []), ([], []), ([0, 1], [0, 1]), ([2], [2]), ([], []), ([], []), ([4, 5], [4, 5]), ([3, 6], [3, 6]), ([0, 1, 0, 1, 2, 3, 4, 5, 6, 7], [0, 1]), ([8, 7, 6, 0, 1, 2, 3, 4, 5, 6, 7], [7, 8])])
def spec_Interpolate.B22 : List Nat := [0, 0, 3, 7, 0, 0, 48, 127, 255, 511]
theorem spec_Interpolate.tab22 : rtab .any (opsOf Tryd.f29 22) = spec_Interpolate.T22 := by kernel_rfl
theorem spec_Interpolate.bits22 : waitsOk spec_Interpolate.T22.2 spec_Interpolate.B22 = true := by kernel_rfl
set_option maxHeartbeats 8000000 in
set_option maxRecDepth 100000 in
theorem spec_Interpolate.calls (k : Nat) (A0 : Option Addr) (c0 : Nat) (l0 : List Int) (A1 : Option Addr) (c1 : Nat) (l1 : List Int) (r : List Int) (w : World) (hr0 : Kd.C (Kd.int .u8) w A0 l0.length l0) (hc0 : l0.length ≤ c0) (hr1 : Kd.C (Kd.int .u8) w A1 l1.length l1) (hc1 : l1.length ≤ c1) (h : spec_Interpolate.f k l0 l1 = some r) :
    Calls Tryd.prog 29 #[.slice A0 l0.length c0, .slice A1 l1.length c1] w fun e w' => ∃ v0_ : Value, e = .returned (v0_) ∧ Kd.R (Kd.int .u8) 5 w' w.heap.size (fun _ => True) v0_ r ∧ Below w.heap.size w w' := by
  have HR0 := Aside0.mk hr0
  have HC0 := Aside0.mk hc0
  clear hr0 hc0
  have HR1 := Aside0.mk hr1
  have HC1 := Aside0.mk hc1
  clear hr1 hc1
  have HB := Aside0.mk (Below.refl w.heap.size w)
  have H : (if 0 ≤ (l0.length : Int) then (if ((l0.length : Int) : Int).toNat ≤ 281474976710656 then (spec_Interpolate.l0 k l0 l1 (List.replicate ((l0.length : Int) : Int).toNat 0) (l0.length : Int) 0) else (none)) else (none)) = some r := h
  clear h
  by_cases c3 : 0 ≤ (l0.length : Int)
  · rw [if_pos c3] at H
    have c3b0 := eq_true c3
    have c3b1 : decide (0 ≤ (l0.length : Int)) = true := decide_eq_true c3
    clear c3
    by_cases c4 : ((l0.length : Int) : Int).toNat ≤ 281474976710656
    · rw [if_pos c4] at H
      have c4b0 := eq_true c4
      have c4b1 : decide (((l0.length : Int) : Int).toNat ≤ 281474976710656) = true := decide_eq_true c4
      clear c4
      obtain ⟨y212, hy212⟩ : ∃ y_ : List Int, y_ = (List.replicate ((l0.length : Int) : Int).toNat 0) := ⟨_, rfl⟩
      replace H : (spec_Interpolate.l0 k l0 l1 y212 (l0.length : Int) 0) = some r := by first | (rw [hy212]; with_reducible exact H) | (have H2_ := (Option.bind_some _ _).symm.trans H; rw [hy212]; with_reducible exact H2_) | (have H2_ := (Option.bind_some _ _).symm.trans H; with_reducible exact H2_) | with_reducible exact H | (rw [hy212]; exact H) | exact H
      have Ny212 := Aside0.mk hy212
      clear hy212
      have H' := Aside0.mk H
      clear H
      go_enter Tryd.func29, Tryd.ntmps29
      go_wp2_with (first | ((with_reducible refine gate_dst (N := 17) rfl ?_); refine Kd.R_make (Kd.int .u8) _ 5 rfl (N := 17) rfl 22 _ _ rfl (l0.length : Int) rfl rfl Tryd.underlying22 (.int .u8 0) 1 info5 rfl (by decide) (by omega) 0 (ok := fun _ => True) (okp := fun _ => True) rfl (fun _ hk => hk) trivial (of_decide_eq_true (by first | (with_reducible assumption) | assumption)) (Nat.le_trans (Nat.mul_le_mul_right _ (of_decide_eq_true (by first | (with_reducible assumption) | assumption) : (l0.length : Int).toNat ≤ 281474976710656)) (by omega)) (Below.refl _ _) (Nat.le_refl _) ?_; intro v213 w5 ho6 hb hg_ hnew_; clear hg_ hnew_; (first | rw [← Ny212.out] at ho6 | (simp only [Int.reduceToNat] at ho6; rw [← Ny212.out] at ho6)); have n0_ := Aside0.mk (Kd.R_lower ho6 (below_size (by repeat (first | (with_reducible first | exact HB.out | apply below_alloc | apply pw_below_drewN | apply below_drew1) | exact HB.out)))); have n1_ := Aside0.mk (below_step (by repeat (first | (with_reducible first | exact HB.out | apply below_alloc | apply pw_below_drewN | apply below_drew1) | exact HB.out)) hb); clear HB; have HO214 := n0_; have HB := n1_; clear n0_ n1_; clear hb ho6))
      try simp only [Act.put, List.setIfInBounds_toArray, List.set_cons_zero, List.set_cons_succ]
      go_loopg [20] k (fun kq v20 w' => ∃ (x5_1 : List Int) (x20_1 : Int), v20 = .int .i64 x20_1 ∧ Aside0 (spec_Interpolate.l0 kq l0 l1 x5_1 (l0.length : Int) x20_1 = some r) ∧ Aside0 (kq ≤ k) ∧ Aside0 (Kd.R (Kd.int .u8) 5 w' w.heap.size (fun _ => True) v213 x5_1) ∧ Aside0 (Below w.heap.size w w'))
      case atStart => exact ⟨(y212), (0), (by first | rfl | (simp; done) | (simp [*]; done)), H', ⟨Nat.le_refl _⟩, ⟨by (with_reducible repeat (first | apply Kd.R_alloc | apply Kd.R_drewN | apply Kd.R_drew)); exact HO214.out⟩, ⟨by repeat (first | (with_reducible first | exact HB.out | apply below_alloc | apply pw_below_drewN | apply below_drew1) | exact HB.out)⟩⟩
      case round =>
        clear H'
        try clear c1
        try clear c2
        try clear p2
        try clear c3
        try clear c3b0
        try clear c3b1
        try clear c4
        try clear c4b0
        try clear c4b1
        obtain ⟨x5_1, x20_1, rfl, HA, HK1, HO_5, HB⟩ := hrel
        cases gk with
        | zero => exact absurd HA.out (by simp [spec_Interpolate.l0])
        | succ k1 =>
          have H := HA.out
          clear HA
          simp only [spec_Interpolate.l0] at H
          by_cases c7 : x20_1 < (l0.length : Int)
          · rw [if_pos c7] at H
            have c7b0 : decide (x20_1 < (l0.length : Int)) = true := decide_eq_true c7
            clear c7
            obtain ⟨y215, hy215⟩ : ∃ y_ : List Int, y_ = (([1] : List Int)) := ⟨_, rfl⟩
            replace H : (if 0 ≤ x20_1 then (if x20_1 < (l1.length : Int) then (spec_Interpolate.l1 k1 l0 l1 x5_1 x20_1 y215 (rd l1 x20_1) (l0.length : Int) x20_1 (l0.length : Int) 0) else (none)) else (none)) = some r := by first | (rw [hy215]; with_reducible exact H) | (have H2_ := (Option.bind_some _ _).symm.trans H; rw [hy215]; with_reducible exact H2_) | (have H2_ := (Option.bind_some _ _).symm.trans H; with_reducible exact H2_) | with_reducible exact H | (rw [hy215]; exact H) | exact H
            have Ny215 := Aside0.mk hy215
            clear hy215
            by_cases c8 : 0 ≤ x20_1
            · rw [if_pos c8] at H
              have c8b0 : decide (0 ≤ x20_1) = true := decide_eq_true c8
              clear c8
              by_cases c9 : x20_1 < (l1.length : Int)
              · rw [if_pos c9] at H
                have c9b0 : decide (x20_1 < (l1.length : Int)) = true := decide_eq_true c9
                clear c9
                have H' := Aside0.mk H
                clear H
                try go_wp2
                have n0_ := Aside0.mk (Kd.R_drew HO_5.out)
                have n1_ := Aside0.mk (below_drew1 HB.out)
                clear HO_5
                clear HB
                have HO_5 := n0_
                have HB := n1_
                clear n0_ n1_
                have p218 : 0 ≤ (x20_1 : Int) := of_decide_eq_true (by first | (with_reducible assumption) | assumption)
                have q218 : x20_1 < (l1.length : Int) := of_decide_eq_true (by first | (with_reducible assumption) | assumption)
                obtain ⟨ad218, e218, hx218_0⟩ := Kd.at_int HR1.out x20_1 p218 q218
                have hw218_0 := hx218_0
                cases e218
                (try replace hx218_0 := (HB.out.cell (World.block_lt_of_cell? w _ hx218_0)).trans hx218_0)
                replace p218 := eq_true p218
                replace q218 := eq_true q218
                refine start_ (n := 7) (S := fun w' => w'.cell? (ad218.add (x20_1).toNat) = some (.int .u8 (rd l1 x20_1))) (ds := []) #[false, false, false, false, false, false, false] (by kernel_rfl) rfl rfl (((HB.out.cell (World.block_lt_of_cell? w _ hw218_0)).trans hw218_0)) (fun hHeld => ?_)
                generalize wr.drew = w10 at HO_5 HB hx218_0 hHeld ⊢
                refine pure_ (i := 1) (N := some 24) (v := ?_) (a' := ?_) #[false, true, false, false, false, false, false] rfl rfl (by kernel_rfl) (fun _ _ _ h => h) (Or.inl ⟨by rfl, ?_⟩) ?_ ?_
                rotate_left
                · intro w'
                  go_simp
                  with_reducible rfl
                rotate_left
                · simp only [Act.put, List.setIfInBounds_toArray, List.set_cons_zero, List.set_cons_succ, i64_w, i32_w]
                  rfl
                refine pure_ (i := 2) (N := some 25) (v := ?_) (a' := ?_) #[false, true, true, false, false, false, false] rfl rfl (by kernel_rfl) (fun _ _ _ h => h) (Or.inl ⟨by rfl, ?_⟩) ?_ ?_
                rotate_left
                · intro w'
                  go_simp
                  with_reducible rfl
                rotate_left
                · simp only [Act.put, List.setIfInBounds_toArray, List.set_cons_zero, List.set_cons_succ, i64_w, i32_w]
                  rfl
                refine pure_ (i := 3) (N := some 26) (v := ?_) (a' := ?_) #[false, true, true, true, false, false, false] rfl rfl (by kernel_rfl) (fun _ _ _ h => h) (Or.inl ⟨by rfl, ?_⟩) ?_ ?_
                rotate_left
                · intro w'
                  go_simp
                  with_reducible rfl
                rotate_left
                · simp only [Act.put, List.setIfInBounds_toArray, List.set_cons_zero, List.set_cons_succ, i64_w, i32_w]
                  rfl
                refine take_ (i := 4) (N := some 27) (v := ?_) (a' := ?_) #[false, true, true, true, true, false, false] rfl rfl (by kernel_rfl) (fun _ _ _ h => h) (Or.inl ⟨by rfl, ?_⟩) hHeld ?_ ?_
                rotate_left
                · intro w' s0
                  go_simp
                  with_reducible rfl
                rotate_left
                · simp only [Act.put, List.setIfInBounds_toArray, List.set_cons_zero, List.set_cons_succ, i64_w, i32_w]
                  rfl
                refine one_ (i := 0) (N := some 23) #[true, true, true, true, true, false, false] rfl rfl (by kernel_rfl) (by decide) (fun K hK => ?_)
                refine Kd.R_lit_step (Kd.int .u8) _ 5 ?hg (N := 23) ?hd (xs := ([1] : List Int)) (inner := [.int .u8 1]) (ok := fun _ => True) (okp := fun _ => True) ?hr ?hp (fun _ hk => hk) trivial (Below.refl _ _) (Nat.le_refl _) (by simp) ?_; (case hd => rfl); (case hg => rfl); (case hr => first | (go_simp; done) | (go_simp; rfl)); (case hp => exact (Reps.one (show Kd.M (Kd.int .u8) _ _ _ 1 [.int .u8 1] from rfl) (Reps.none _ _)))
                intro v216 w11 ho12 hb hg_ hnew_
                clear hg_ hnew_
                (first | rw [← Ny215.out] at ho12 | (simp only [Int.reduceToNat] at ho12; rw [← Ny215.out] at ho12))
                have n0_ := Aside0.mk (Kd.R_elder' (by (with_reducible repeat (first | apply Kd.R_alloc | apply Kd.R_drewN | apply Kd.R_drew)); exact HO_5.out) (Kd.R_base ho12) hb)
                have n1_ := Aside0.mk (Kd.R_lower (Kd.R_new' ho12 (Kd.R_lt (by (with_reducible repeat (first | apply Kd.R_alloc | apply Kd.R_drewN | apply Kd.R_drew)); exact HO_5.out))) (below_size (by repeat (first | (with_reducible first | exact HB.out | apply below_alloc | apply pw_below_drewN | apply below_drew1) | exact HB.out))))
                have n2_ := Aside0.mk (below_step (by repeat (first | (with_reducible first | exact HB.out | apply below_alloc | apply pw_below_drewN | apply below_drew1) | exact HB.out)) hb)
                clear HO_5
                clear HB
                have HO_5 := n0_
                have HO217 := n1_
                have HB := n2_
                clear n0_ n1_ n2_
                clear hb ho12
                refine hK.out _ _ (((HB.out.cell (World.block_lt_of_cell? w _ hw218_0)).trans hw218_0)) (fun hHeld => ?_)
                clear hK K
                refine norm_ (a' := ?_) ?_ ?_
                rotate_left
                · show Act.put _ (some 23) _ = _
                  simp only [Act.put, List.setIfInBounds_toArray, List.set_cons_zero, List.set_cons_succ, i64_w, i32_w]
                  rfl
                refine pure_ (i := 5) (N := some 7) (v := ?_) (a' := ?_) #[true, true, true, true, true, true, false] rfl rfl (by kernel_rfl) (fun _ _ _ h => h) (Or.inl ⟨by rfl, ?_⟩) ?_ ?_
                rotate_left
                · intro w'
                  go_simp
                  with_reducible rfl
                rotate_left
                · simp only [Act.put, List.setIfInBounds_toArray, List.set_cons_zero, List.set_cons_succ, i64_w, i32_w]
                  rfl
                refine pure_ (i := 6) (N := some 8) (v := ?_) (a' := ?_) #[true, true, true, true, true, true, true] rfl rfl (by kernel_rfl) (fun _ _ _ h => h) (Or.inl ⟨by rfl, ?_⟩) ?_ ?_
                rotate_left
                · intro w'
                  go_simp
                  with_reducible rfl
                rotate_left
                · simp only [Act.put, List.setIfInBounds_toArray, List.set_cons_zero, List.set_cons_succ, i64_w, i32_w]
                  rfl
                refine done_ (by kernel_rfl) ?_
                try go_wp2
                try simp only [Act.put, List.setIfInBounds_toArray, List.set_cons_zero, List.set_cons_succ]
                go_loopg [7, 8, 30] k1 (fun kq v7 v8 v30 w' => ∃ (x5_2 : List Int) (x7_2 : List Int) (x8_2 : Int) (x30_2 : Int), v8 = .int .u8 x8_2 ∧ v30 = .int .i64 x30_2 ∧ Aside0 (spec_Interpolate.l1 kq l0 l1 x5_2 x20_1 x7_2 x8_2 (l0.length : Int) x20_1 (l0.length : Int) x30_2 = some r) ∧ Aside0 (kq ≤ k1) ∧ Aside0 (Kd.R (Kd.int .u8) 5 w' w.heap.size (fun k_ => some k_ ≠ (v7 : Value).ownBlock) v213 x5_2) ∧ Aside0 (Kd.R (Kd.int .u8) 5 w' w.heap.size (fun k_ => some k_ ≠ (v213 : Value).ownBlock) v7 x7_2) ∧ Aside0 (Below w.heap.size w w'))
                case atStart => exact ⟨(x5_1), (y215), (rd l1 x20_1), (0), (by first | rfl | (simp; done) | (simp [*]; done)), (by first | rfl | (simp; done) | (simp [*]; done)), H', ⟨Nat.le_refl _⟩, ⟨by (with_reducible repeat (first | apply Kd.R_alloc | apply Kd.R_drewN | apply Kd.R_drew)); exact Kd.R_mono HO_5.out (fun _ hk => hk.2)⟩, ⟨by (with_reducible repeat (first | apply Kd.R_alloc | apply Kd.R_drewN | apply Kd.R_drew)); exact Kd.R_mono HO217.out (fun _ hk => hk.2)⟩, ⟨by repeat (first | (with_reducible first | exact HB.out | apply below_alloc | apply pw_below_drewN | apply below_drew1) | exact HB.out)⟩⟩
                case round =>
                  clear H'
                  try clear c1
                  try clear c2
                  try clear p2
                  try clear q2
                  try clear hx2
                  try clear c3
                  try clear c3b0
                  try clear c3b1
                  try clear c4
                  try clear c4b0
                  try clear c4b1
                  try clear c7
                  try clear c7b0
                  try clear c8
                  try clear c8b0
                  try clear c9
                  try clear c9b0
                  try clear hx218_0
                  try clear p2
                  try clear p218
                  try clear q218
                  obtain ⟨x5_2, x7_2, x8_2, x30_2, rfl, rfl, HA, HK2, HO_5, HO_7, HB⟩ := hrel
                  cases gk with
                  | zero => exact absurd HA.out (by simp [spec_Interpolate.l1])
                  | succ k2 =>
                    have H := HA.out
                    clear HA
                    simp only [spec_Interpolate.l1] at H
                    by_cases c13 : x30_2 < (l0.length : Int)
                    · rw [if_pos c13] at H
                      have c13b0 : decide (x30_2 < (l0.length : Int)) = true := decide_eq_true c13
                      clear c13
                      by_cases c14 : x30_2 = x20_1
                      · rw [if_pos c14] at H
                        have c14b0 : (x30_2 == x20_1) = true := beq_iff_eq.mpr c14
                        have c14b1 : (x30_2 != x20_1) = false := bne_eq_false_iff_eq.mpr c14
                        clear c14
                        have H' := Aside0.mk H
                        clear H
                        go_wp2
                        go_roundg k2
                        case measure => have := HK1.out; have := HK2.out; omega
                        case rel => exact ⟨(x5_2), (x7_2), (x8_2), (wrap64 (x30_2 + 1)), (by first | rfl | (simp; done) | (simp [*]; done)), (by first | rfl | (simp; done) | (simp [*]; done)), H', ⟨by have := HK1.out; have := HK2.out; omega⟩, ⟨by (with_reducible repeat (first | apply Kd.R_alloc | apply Kd.R_drewN | apply Kd.R_drew)); exact HO_5.out⟩, ⟨by (with_reducible repeat (first | apply Kd.R_alloc | apply Kd.R_drewN | apply Kd.R_drew)); exact HO_7.out⟩, ⟨by repeat (first | (with_reducible first | exact HB.out | apply below_alloc | apply pw_below_drewN | apply below_drew1) | exact HB.out)⟩⟩
                      · rw [if_neg c14] at H
                        have c14b0 : (x30_2 == x20_1) = false := beq_eq_false_iff_ne.mpr c14
                        have c14b1 : (x30_2 != x20_1) = true := bne_iff_ne.mpr c14
                        obtain ⟨ji15, hji15⟩ : ∃ j_ : Int, (wrap64 ((x7_2.length : Int) + 1)) = j_ := ⟨_, rfl⟩
                        replace H : (if 0 ≤ (ji15) then (if (ji15 : Int).toNat ≤ 281474976710656 then (spec_Interpolate.l2 k2 l0 l1 x5_2 x20_1 x8_2 x30_2 (List.replicate (ji15 : Int).toNat 0) (l0.length : Int) x20_1 (l0.length : Int) x30_2 x7_2 (x7_2.length : Int) 0) else (none)) else (none)) = some r := by first | (rw [hji15] at H; exact H) | (simp only [hji15] at H ⊢; exact H)
                        have hji15w : (IntKind.i64.wrap ((x7_2.length : Int) + 1)) = ji15 := (i64_w _).trans hji15
                        by_cases c16 : 0 ≤ (ji15)
                        · rw [if_pos c16] at H
                          have c16b0 := eq_true c16
                          have c16b1 : decide (0 ≤ (ji15)) = true := decide_eq_true c16
                          clear c16
                          by_cases c17 : (ji15 : Int).toNat ≤ 281474976710656
                          · rw [if_pos c17] at H
                            have c17b0 := eq_true c17
                            have c17b1 : decide ((ji15 : Int).toNat ≤ 281474976710656) = true := decide_eq_true c17
                            clear c17
                            obtain ⟨y219, hy219⟩ : ∃ y_ : List Int, y_ = (List.replicate (ji15 : Int).toNat 0) := ⟨_, rfl⟩
                            replace H : (spec_Interpolate.l2 k2 l0 l1 x5_2 x20_1 x8_2 x30_2 y219 (l0.length : Int) x20_1 (l0.length : Int) x30_2 x7_2 (x7_2.length : Int) 0) = some r := by first | (rw [hy219]; with_reducible exact H) | (have H2_ := (Option.bind_some _ _).symm.trans H; rw [hy219]; with_reducible exact H2_) | (have H2_ := (Option.bind_some _ _).symm.trans H; with_reducible exact H2_) | with_reducible exact H | (rw [hy219]; exact H) | exact H
                            have Ny219 := Aside0.mk hy219
                            clear hy219
                            have H' := Aside0.mk H
                            clear H
                            obtain ⟨Ao18, co18, eo18⟩ := Kd.R_slice HO_7.out
                            subst eo18
                            go_wp2_with (first | ((with_reducible refine gate_dst (N := 39) rfl ?_); refine Kd.R_make (Kd.int .u8) _ 5 rfl (N := 39) rfl 22 _ _ rfl ji15 rfl rfl Tryd.underlying22 (.int .u8 0) 1 info5 rfl (by decide) (by omega) 0 (ok := fun _ => True) (okp := fun _ => True) rfl (fun _ hk => hk) trivial (of_decide_eq_true (by first | (with_reducible assumption) | assumption)) (Nat.le_trans (Nat.mul_le_mul_right _ (of_decide_eq_true (by first | (with_reducible assumption) | assumption) : ji15.toNat ≤ 281474976710656)) (by omega)) (Below.refl _ _) (Nat.le_refl _) ?_; intro v220 w19 ho20 hb hg_ hnew_; clear hg_ hnew_; (first | rw [← Ny219.out] at ho20 | (simp only [Int.reduceToNat] at ho20; rw [← Ny219.out] at ho20)); have n0_ := Aside0.mk (Kd.R_elder' (by (with_reducible repeat (first | apply Kd.R_alloc | apply Kd.R_drewN | apply Kd.R_drew)); exact HO_5.out) (Kd.R_base ho20) hb); have n1_ := Aside0.mk (Kd.R_elder' (by (with_reducible repeat (first | apply Kd.R_alloc | apply Kd.R_drewN | apply Kd.R_drew)); exact HO_7.out) (Kd.R_base ho20) hb); have n2_ := Aside0.mk (Kd.R_lower (Kd.R_new' (Kd.R_new' ho20 (Kd.R_lt (by (with_reducible repeat (first | apply Kd.R_alloc | apply Kd.R_drewN | apply Kd.R_drew)); exact HO_5.out))) (Kd.R_lt (by (with_reducible repeat (first | apply Kd.R_alloc | apply Kd.R_drewN | apply Kd.R_drew)); exact HO_7.out))) (below_size (by repeat (first | (with_reducible first | exact HB.out | apply below_alloc | apply pw_below_drewN | apply below_drew1) | exact HB.out)))); have n3_ := Aside0.mk (below_step (by repeat (first | (with_reducible first | exact HB.out | apply below_alloc | apply pw_below_drewN | apply below_drew1) | exact HB.out)) hb); clear HO_5; clear HO_7; clear HB; have HO_5 := n0_; have HO_7 := n1_; have HO221 := n2_; have HB := n3_; clear n0_ n1_ n2_ n3_; clear hb ho20))
                            try simp only [Act.put, List.setIfInBounds_toArray, List.set_cons_zero, List.set_cons_succ]
                            go_loopg [42] k2 (fun kq v42 w' => ∃ (x10_3 : List Int) (x42_3 : Int), v42 = .int .i64 x42_3 ∧ Aside0 (spec_Interpolate.l2 kq l0 l1 x5_2 x20_1 x8_2 x30_2 x10_3 (l0.length : Int) x20_1 (l0.length : Int) x30_2 x7_2 (x7_2.length : Int) x42_3 = some r) ∧ Aside0 (kq ≤ k2) ∧ Aside0 (Kd.R (Kd.int .u8) 5 w' w.heap.size (fun k_ => some k_ ≠ (v220 : Value).ownBlock ∧ some k_ ≠ ((.slice Ao18 x7_2.length co18) : Value).ownBlock) v213 x5_2) ∧ Aside0 (Kd.R (Kd.int .u8) 5 w' w.heap.size (fun k_ => some k_ ≠ (v213 : Value).ownBlock ∧ some k_ ≠ ((.slice Ao18 x7_2.length co18) : Value).ownBlock) v220 x10_3) ∧ Aside0 (Kd.R (Kd.int .u8) 5 w' w.heap.size (fun k_ => some k_ ≠ (v213 : Value).ownBlock ∧ some k_ ≠ (v220 : Value).ownBlock) (.slice Ao18 x7_2.length co18) x7_2) ∧ Aside0 (Below w.heap.size w w'))
                            case atStart => exact ⟨(y219), (0), (by first | rfl | (simp; done) | (simp [*]; done)), H', ⟨Nat.le_refl _⟩, ⟨by (with_reducible repeat (first | apply Kd.R_alloc | apply Kd.R_drewN | apply Kd.R_drew)); exact Kd.R_mono HO_5.out (fun _ hk => ⟨hk.2, hk.1⟩)⟩, ⟨by (with_reducible repeat (first | apply Kd.R_alloc | apply Kd.R_drewN | apply Kd.R_drew)); exact Kd.R_mono HO221.out (fun _ hk => ⟨hk.1.2, hk.2⟩)⟩, ⟨by (with_reducible repeat (first | apply Kd.R_alloc | apply Kd.R_drewN | apply Kd.R_drew)); exact HO_7.out⟩, ⟨by repeat (first | (with_reducible first | exact HB.out | apply below_alloc | apply pw_below_drewN | apply below_drew1) | exact HB.out)⟩⟩
                            case round =>
                              clear H'
                              try clear c1
                              try clear c2
                              try clear p2
                              try clear q2
                              try clear hx2
                              try clear c3
                              try clear c3b0
                              try clear c3b1
                              try clear c4
                              try clear c4b0
                              try clear c4b1
                              try clear p6
                              try clear c7
                              try clear c7b0
                              try clear c8
                              try clear c8b0
                              try clear c9
                              try clear c9b0
                              try clear c13
                              try clear c13b0
                              try clear c14
                              try clear c14b0
                              try clear c14b1
                              try clear c16
                              try clear c16b0
                              try clear c16b1
                              try clear c17
                              try clear c17b0
                              try clear c17b1
                              try clear hx218_0
                              try clear p2
                              try clear p218
                              try clear q2
                              try clear q218
                              obtain ⟨x10_3, x42_3, rfl, HA, HK3, HO_5, HO_10, HO_40, HB⟩ := hrel
                              cases gk with
                              | zero => exact absurd HA.out (by simp [spec_Interpolate.l2])
                              | succ k3 =>
                                have H := HA.out
                                clear HA
                                simp only [spec_Interpolate.l2] at H
                                by_cases c21 : x42_3 < (x7_2.length : Int)
                                · rw [if_pos c21] at H
                                  have c21b0 : decide (x42_3 < (x7_2.length : Int)) = true := decide_eq_true c21
                                  clear c21
                                  by_cases c22 : 0 ≤ x42_3
                                  · rw [if_pos c22] at H
                                    have c22b0 : decide (0 ≤ x42_3) = true := decide_eq_true c22
                                    clear c22
                                    by_cases c23 : x42_3 < (x7_2.length : Int)
                                    · rw [if_pos c23] at H
                                      have c23b0 : decide (x42_3 < (x7_2.length : Int)) = true := decide_eq_true c23
                                      clear c23
                                      obtain ⟨ji24, hji24⟩ : ∃ j_ : Int, (wrap64 (x42_3 + 1)) = j_ := ⟨_, rfl⟩
                                      replace H : (if 0 ≤ (ji24) then (if (ji24) < (x10_3.length : Int) then ((some (x10_3.set ((ji24) : Int).toNat (Go.bits .xor .u8 (rd x10_3 (ji24)) (rd x7_2 x42_3)) : List Int)).bind fun y224 => (if x42_3 < (x10_3.length : Int) then (if 0 ≤ x30_2 then (if x30_2 < (l0.length : Int) then ((spec_Mul.f k3 (rd x7_2 x42_3) (rd l0 x30_2)).bind fun t227 => (spec_Interpolate.l2 k3 l0 l1 x5_2 x20_1 x8_2 x30_2 (y224.set (x42_3 : Int).toNat (Go.bits .xor .u8 (rd y224 x42_3) t227)) (l0.length : Int) x20_1 (l0.length : Int) x30_2 x7_2 (x7_2.length : Int) ji24)) else (none)) else (none)) else (none))) else (none)) else (none)) = some r := by first | (rw [hji24] at H; exact H) | (simp only [hji24] at H ⊢; exact H)
                                      have hji24w : (IntKind.i64.wrap (x42_3 + 1)) = ji24 := (i64_w _).trans hji24
                                      by_cases c25 : 0 ≤ (ji24)
                                      · rw [if_pos c25] at H
                                        have c25b0 : decide (0 ≤ (ji24)) = true := decide_eq_true c25
                                        clear c25
                                        by_cases c26 : (ji24) < (x10_3.length : Int)
                                        · rw [if_pos c26] at H
                                          have c26b0 : decide ((ji24) < (x10_3.length : Int)) = true := decide_eq_true c26
                                          clear c26
                                          obtain ⟨y224, hy224⟩ : ∃ y_ : List Int, y_ = (x10_3.set ((ji24) : Int).toNat (Go.bits .xor .u8 (rd x10_3 (ji24)) (rd x7_2 x42_3))) := ⟨_, rfl⟩
                                          replace H : (if x42_3 < (x10_3.length : Int) then (if 0 ≤ x30_2 then (if x30_2 < (l0.length : Int) then ((spec_Mul.f k3 (rd x7_2 x42_3) (rd l0 x30_2)).bind fun t227 => (spec_Interpolate.l2 k3 l0 l1 x5_2 x20_1 x8_2 x30_2 (y224.set (x42_3 : Int).toNat (Go.bits .xor .u8 (rd y224 x42_3) t227)) (l0.length : Int) x20_1 (l0.length : Int) x30_2 x7_2 (x7_2.length : Int) ji24)) else (none)) else (none)) else (none)) = some r := by first | (rw [hy224]; with_reducible exact H) | (have H2_ := (Option.bind_some _ _).symm.trans H; rw [hy224]; with_reducible exact H2_) | (have H2_ := (Option.bind_some _ _).symm.trans H; with_reducible exact H2_) | with_reducible exact H | (rw [hy224]; exact H) | exact H
                                          have Ny224 := Aside0.mk hy224
                                          clear hy224
                                          by_cases c28 : x42_3 < (x10_3.length : Int)
                                          · rw [if_pos c28] at H
                                            have c28b0 : decide (x42_3 < (x10_3.length : Int)) = true := decide_eq_true c28
                                            clear c28
                                            by_cases c29 : 0 ≤ x30_2
                                            · rw [if_pos c29] at H
                                              have c29b0 : decide (0 ≤ x30_2) = true := decide_eq_true c29
                                              clear c29
                                              by_cases c30 : x30_2 < (l0.length : Int)
                                              · rw [if_pos c30] at H
                                                have c30b0 : decide (x30_2 < (l0.length : Int)) = true := decide_eq_true c30
                                                clear c30
                                                replace H := Option.bind_eq_some_iff.mp H
                                                obtain ⟨t227, A310, H⟩ := H
                                                replace H : (spec_Interpolate.l2 k3 l0 l1 x5_2 x20_1 x8_2 x30_2 (y224.set (x42_3 : Int).toNat (Go.bits .xor .u8 (rd y224 x42_3) t227)) (l0.length : Int) x20_1 (l0.length : Int) x30_2 x7_2 (x7_2.length : Int) ji24) = some r := H
                                                have A31 := Aside0.mk A310
                                                clear A310
                                                obtain ⟨y228, hy228⟩ : ∃ y_ : List Int, y_ = (y224.set (x42_3 : Int).toNat (Go.bits .xor .u8 (rd y224 x42_3) t227)) := ⟨_, rfl⟩
                                                replace H : (spec_Interpolate.l2 k3 l0 l1 x5_2 x20_1 x8_2 x30_2 y228 (l0.length : Int) x20_1 (l0.length : Int) x30_2 x7_2 (x7_2.length : Int) ji24) = some r := by first | (rw [hy228]; with_reducible exact H) | (have H2_ := (Option.bind_some _ _).symm.trans H; rw [hy228]; with_reducible exact H2_) | (have H2_ := (Option.bind_some _ _).symm.trans H; with_reducible exact H2_) | with_reducible exact H | (rw [hy228]; exact H) | exact H
                                                have Ny228 := Aside0.mk hy228
                                                clear hy228
                                                have H' := Aside0.mk H
                                                clear H
                                                have p222 : 0 ≤ (x42_3 : Int) := of_decide_eq_true (by first | (with_reducible assumption) | assumption)
                                                have q222 : x42_3 < (x7_2.length : Int) := of_decide_eq_true (by first | (with_reducible assumption) | assumption)
                                                obtain ⟨ad222, e222, hx222_0⟩ := Kd.at_int (Kd.R_reads' HO_40.out).2.2 x42_3 p222 q222
                                                cases e222
                                                replace p222 := eq_true p222
                                                replace q222 := eq_true q222
                                                obtain ⟨Ao33, co33, eo33⟩ := Kd.R_slice HO_10.out
                                                subst eo33
                                                have p223 : 0 ≤ ((ji24) : Int) := of_decide_eq_true (by first | (with_reducible assumption) | assumption)
                                                have q223 : (ji24) < (x10_3.length : Int) := of_decide_eq_true (by first | (with_reducible assumption) | assumption)
                                                obtain ⟨ad223, e223, hx223_0⟩ := Kd.at_int (Kd.R_reads' HO_10.out).2.2 (ji24) p223 q223
                                                cases e223
                                                replace p223 := eq_true p223
                                                replace q223 := eq_true q223
                                                have p27 : 0 ≤ ((ji24) : Int) := of_decide_eq_true (by first | (with_reducible assumption) | assumption)
                                                have q27 : ((ji24) : Int) < ((x10_3.length : Int) : Int) := of_decide_eq_true (by first | (with_reducible assumption) | assumption)
                                                obtain ⟨go27, co27, eo27, gb27, gl27, cl27, HG27⟩ := Kd.R_form HO_10.out (by omega)
                                                (first | cases eo27 | (injection eo27 with ea_ en_ ec_; (first | subst ea_ | (injection ea_ with ea_; subst ea_)); subst ec_; clear en_))
                                                have GB27 := Aside0.mk gb27
                                                have GG27 := Aside0.mk HG27
                                                clear gb27 gl27 HG27
                                                (first | simp only [add_plain] at hx223_0 | skip)
                                                obtain ⟨hx27_0, hf27_0⟩ := Kd.R_celln 0 HO_10.out ((ji24) : Int) p27 q27
                                                replace p27 := eq_true p27
                                                replace q27 := eq_true q27
                                                have HP34 := Kd.R_putg HO_10.out ((ji24) : Int) (Go.bits .xor .u8 (rd x10_3 (ji24)) (rd x7_2 x42_3))
                                                try go_wp2_with (first | ((with_reducible refine gate_store (t := 5) (p := 54) rfl ?_); refine store_event (t := 5) (p := 54) (v := ?vo_w35) (w1 := (wr.setCell ⟨go27, ((ji24) : Int).toNat, none⟩ (.int .u8 (Go.bits .xor .u8 (rd x10_3 (ji24)) (rd x7_2 x42_3))))) ?hg ?ho ?hn ?hr ?_; (case ho => rfl); (case hg => rfl); (case hn => rfl); (case hr => first | (go_simp; done) | (go_simp; rfl)); intro w35 hw; have hg : wr.grownBy w35 (some go27) := (by rw [hw]; exact HP34.2); have hp_ : Kd.R (Kd.int .u8) 5 w35 w.heap.size (fun k_ => some k_ ≠ (v213 : Value).ownBlock ∧ some k_ ≠ (.slice (some ad222) x7_2.length co18 : Value).ownBlock) (.slice (some ⟨go27, 0, none⟩) x10_3.length co33) y224 := (by rw [hw, Ny224.out]; exact HP34.1); clear HP34; have n0_ := Aside0.mk (Kd.R_after (v := (.slice (some ⟨go27, 0, none⟩) x10_3.length co33)) (v1 := (.slice (some ⟨go27, 0, none⟩) x10_3.length co33)) (ok := (fun k_ => some k_ ≠ (.slice (some ad222) x7_2.length co18 : Value).ownBlock)) (by (with_reducible repeat (first | apply Kd.R_alloc | apply Kd.R_drewN | apply Kd.R_drew)); exact Kd.R_mono HO_5.out (fun _ hk => ⟨hk.2, hk.1⟩)) hg (.inl rfl)); have n1_ := Aside0.mk (hp_); have n2_ := Aside0.mk (Kd.R_after (v := (.slice (some ⟨go27, 0, none⟩) x10_3.length co33)) (v1 := (.slice (some ⟨go27, 0, none⟩) x10_3.length co33)) (ok := (fun k_ => some k_ ≠ (v213 : Value).ownBlock)) (by (with_reducible repeat (first | apply Kd.R_alloc | apply Kd.R_drewN | apply Kd.R_drew)); exact HO_40.out) hg (.inl rfl)); have n3_ := Aside0.mk ((by rw [hw]; exact below_set (HB.out) GB27.out : Below w.heap.size w w35)); clear HO_5; clear HO_10; clear HO_40; clear HB; have HO_5 := n0_; have HO_10 := n1_; have HO_40 := n2_; have HB := n3_; clear n0_ n1_ n2_ n3_; clear hg hw hp_))
                                                have n0_ := Aside0.mk (Kd.R_drew HO_5.out)
                                                have n1_ := Aside0.mk (Kd.R_drew HO_10.out)
                                                have n2_ := Aside0.mk (Kd.R_drew HO_40.out)
                                                have n3_ := Aside0.mk (below_drew1 HB.out)
                                                clear HO_5
                                                clear HO_10
                                                clear HO_40
                                                clear HB
                                                have HO_5 := n0_
                                                have HO_10 := n1_
                                                have HO_40 := n2_
                                                have HB := n3_
                                                clear n0_ n1_ n2_ n3_
                                                have p225 : 0 ≤ (x42_3 : Int) := of_decide_eq_true (by first | (with_reducible assumption) | assumption)
                                                have q225 : x42_3 < (y224.length : Int) := (by have h_ : (x42_3 : Int) < ((x10_3.length : Int) : Int) := of_decide_eq_true (by first | (with_reducible assumption) | assumption); first | (have e_ := (Kd.R_reads' HO_10.out).1; omega) | simpa only [Ny224.out, List.length_set] using h_)
                                                have ql225 : ((x42_3 : Int) < ((x10_3.length : Int) : Int)) = True := eq_true (of_decide_eq_true (by first | (with_reducible assumption) | assumption))
                                                obtain ⟨ad225, e225, hx225_0⟩ := Kd.at_int (Kd.R_reads' HO_10.out).2.2 x42_3 p225 q225
                                                obtain rfl : (⟨go27, 0, none⟩ : Addr) = ad225 := (by injection e225)
                                                (first | simp only [add_plain] at hx225_0 | simp only [add_at] at hx225_0 | simp only [Addr.add, Nat.zero_add] at hx225_0 | skip)
                                                replace p225 := eq_true p225
                                                replace q225 := eq_true q225
                                                have p226 : 0 ≤ (x30_2 : Int) := of_decide_eq_true (by first | (with_reducible assumption) | assumption)
                                                have q226 : x30_2 < (l0.length : Int) := of_decide_eq_true (by first | (with_reducible assumption) | assumption)
                                                obtain ⟨ad226, e226, hx226_0⟩ := Kd.at_int HR0.out x30_2 p226 q226
                                                have hw226_0 := hx226_0
                                                cases e226
                                                (try replace hx226_0 := (HB.out.cell (World.block_lt_of_cell? w _ hx226_0)).trans hx226_0)
                                                replace p226 := eq_true p226
                                                replace q226 := eq_true q226
                                                refine start_ (n := 13) (S := fun w' => w'.cell? ⟨go27, (x42_3).toNat, none⟩ = some (.int .u8 (rd y224 x42_3)) ∧ w'.cell? (ad226.add (x30_2).toNat) = some (.int .u8 (rd l0 x30_2))) (ds := [12]) #[false, false, false, false, false, false, false, false, false, false, false, false, false] (by kernel_rfl) rfl rfl ⟨hx225_0, ((HB.out.cell (World.block_lt_of_cell? w _ hw226_0)).trans hw226_0)⟩ (fun hHeld => ?_); refine with_tabW spec_Interpolate.tab15 spec_Interpolate.bits15 (fun HT_ HW_ => ?_)
                                                generalize w35.drew = w36 at HO_5 HO_10 HO_40 HB hx225_0 hx226_0 hHeld ⊢
                                                refine pure_ (i := 0) (N := some 55) (v := ?_) (a' := ?_) #[true, false, false, false, false, false, false, false, false, false, false, false, false] rfl rfl (any_of HT_.out (by kernel_rfl)) (fun _ _ _ h => h) (Or.inl ⟨by rfl, ?_⟩) ?_ ?_
                                                rotate_left
                                                · intro w'
                                                  go_simp
                                                  with_reducible rfl
                                                rotate_left
                                                · simp only [Act.put, List.setIfInBounds_toArray, List.set_cons_zero, List.set_cons_succ, i64_w, i32_w]
                                                  rfl
                                                refine pure_ (i := 1) (N := some 56) (v := ?_) (a' := ?_) #[true, true, false, false, false, false, false, false, false, false, false, false, false] rfl rfl (any_of HT_.out (by kernel_rfl)) (fun _ _ _ h => h) (Or.inl ⟨by rfl, ?_⟩) ?_ ?_
                                                rotate_left
                                                · intro w'
                                                  go_simp
                                                  with_reducible rfl
                                                rotate_left
                                                · simp only [Act.put, List.setIfInBounds_toArray, List.set_cons_zero, List.set_cons_succ, i64_w, i32_w]
                                                  rfl
                                                refine pure_ (i := 2) (N := some 57) (v := ?_) (a' := ?_) #[true, true, true, false, false, false, false, false, false, false, false, false, false] rfl rfl (any_of HT_.out (by kernel_rfl)) (fun _ _ _ h => h) (Or.inl ⟨by rfl, ?_⟩) ?_ ?_
                                                rotate_left
                                                · intro w'
                                                  go_simp
                                                  with_reducible rfl
                                                rotate_left
                                                · simp only [Act.put, List.setIfInBounds_toArray, List.set_cons_zero, List.set_cons_succ, i64_w, i32_w]
                                                  rfl
                                                refine pure_ (i := 4) (N := some 59) (v := ?_) (a' := ?_) #[true, true, true, false, true, false, false, false, false, false, false, false, false] rfl rfl (any_of HT_.out (by kernel_rfl)) (fun _ _ _ h => h) (Or.inl ⟨by rfl, ?_⟩) ?_ ?_
                                                rotate_left
                                                · intro w'
                                                  go_simp
                                                  with_reducible rfl
                                                rotate_left
                                                · simp only [Act.put, List.setIfInBounds_toArray, List.set_cons_zero, List.set_cons_succ, i64_w, i32_w]
                                                  rfl
                                                refine pure_ (i := 5) (N := some 60) (v := ?_) (a' := ?_) #[true, true, true, false, true, true, false, false, false, false, false, false, false] rfl rfl (any_of HT_.out (by kernel_rfl)) (fun _ _ _ h => h) (Or.inl ⟨by rfl, ?_⟩) ?_ ?_
                                                rotate_left
                                                · intro w'
                                                  go_simp
                                                  with_reducible rfl
                                                rotate_left
                                                · simp only [Act.put, List.setIfInBounds_toArray, List.set_cons_zero, List.set_cons_succ, i64_w, i32_w]
                                                  rfl
                                                refine pure_ (i := 6) (N := some 61) (v := ?_) (a' := ?_) #[true, true, true, false, true, true, true, false, false, false, false, false, false] rfl rfl (any_of HT_.out (by kernel_rfl)) (fun _ _ _ h => h) (Or.inl ⟨by rfl, ?_⟩) ?_ ?_
                                                rotate_left
                                                · intro w'
                                                  go_simp
                                                  with_reducible rfl
                                                rotate_left
                                                · simp only [Act.put, List.setIfInBounds_toArray, List.set_cons_zero, List.set_cons_succ, i64_w, i32_w]
                                                  rfl
                                                refine pure_ (i := 7) (N := some 62) (v := ?_) (a' := ?_) #[true, true, true, false, true, true, true, true, false, false, false, false, false] rfl rfl (any_of HT_.out (by kernel_rfl)) (fun _ _ _ h => h) (Or.inl ⟨by rfl, ?_⟩) ?_ ?_
                                                rotate_left
                                                · intro w'
                                                  go_simp
                                                  with_reducible rfl
                                                rotate_left
                                                · simp only [Act.put, List.setIfInBounds_toArray, List.set_cons_zero, List.set_cons_succ, i64_w, i32_w]
                                                  rfl
                                                refine take_ (i := 3) (N := some 58) (v := ?_) (a' := ?_) #[true, true, true, true, true, true, true, true, false, false, false, false, false] rfl rfl (take_ofW HT_.out HW_.out (by kernel_rfl)) (fun _ _ _ h => h) (Or.inl ⟨by rfl, ?_⟩) hHeld ?_ ?_
                                                rotate_left
                                                · rintro w' ⟨s0, s1⟩
                                                  go_simp
                                                  with_reducible rfl
                                                rotate_left
                                                · simp only [Act.put, List.setIfInBounds_toArray, List.set_cons_zero, List.set_cons_succ, i64_w, i32_w]
                                                  rfl
                                                refine take_ (i := 8) (N := some 63) (v := ?_) (a' := ?_) #[true, true, true, true, true, true, true, true, true, false, false, false, false] rfl rfl (take_ofW HT_.out HW_.out (by kernel_rfl)) (fun _ _ _ h => h) (Or.inl ⟨by rfl, ?_⟩) hHeld ?_ ?_
                                                rotate_left
                                                · rintro w' ⟨s0, s1⟩
                                                  go_simp
                                                  with_reducible rfl
                                                rotate_left
                                                · simp only [Act.put, List.setIfInBounds_toArray, List.set_cons_zero, List.set_cons_succ, i64_w, i32_w]
                                                  rfl
                                                refine one_ (i := 9) (N := some 64) #[true, true, true, true, true, true, true, true, true, true, false, false, false] rfl rfl (one_of HT_.out (by kernel_rfl)) (by decide) (fun K hK => ?_)
                                                refine goes_ Tryd.func39 (by kernel_rfl) rfl #[.int .u8 (rd x7_2 x42_3), .int .u8 (rd l0 x30_2)] (by rfl) rfl rfl (by (try simp only [List.map_toArray, List.map_cons, List.map_nil]); first | done | rfl | (simp only [List.length_drop, List.length_take]; rfl)) ?_
                                                with_reducible refine (spec_Mul.calls k3 (rd x7_2 x42_3) (rd l0 x30_2) t227 _ A31.out).mono ?_
                                                rintro e w' ⟨rfl, ⟨nd, rfl⟩⟩
                                                refine ⟨_, rfl, ?_⟩
                                                have p32 : 0 ≤ (x42_3 : Int) := of_decide_eq_true (by first | (with_reducible assumption) | assumption)
                                                have q32 : (x42_3 : Int) < ((x10_3.length : Int) : Int) := of_decide_eq_true (by first | (with_reducible assumption) | assumption)
                                                obtain ⟨hx32_0, hf32_0⟩ := Kd.R_celln 0 HO_10.out (x42_3 : Int) p32 q32
                                                replace p32 := eq_true p32
                                                replace q32 := eq_true q32
                                                have HP37 := Kd.R_putn HO_10.out (x42_3 : Int) (Go.bits .xor .u8 (rd y224 x42_3) t227)
                                                rw [← Ny228.out] at HP37
                                                have HQ37 := Aside0.mk HP37
                                                clear HP37
                                                refine hK.out _ _ ⟨hHeld.1, ((HB.out.cell (World.block_lt_of_cell? w _ hw226_0)).trans hw226_0)⟩ (fun hHeld => ?_)
                                                clear hK K
                                                refine norm_ (a' := ?_) ?_ ?_
                                                rotate_left
                                                · show Act.put _ (some 64) _ = _
                                                  simp only [Act.put, List.setIfInBounds_toArray, List.set_cons_zero, List.set_cons_succ, i64_w, i32_w]
                                                  rfl
                                                refine pure_ (i := 10) (N := some 65) (v := ?_) (a' := ?_) #[true, true, true, true, true, true, true, true, true, true, true, false, false] rfl rfl (any_of HT_.out (by kernel_rfl)) (fun _ _ _ h => h) (Or.inl ⟨by rfl, ?_⟩) ?_ ?_
                                                rotate_left
                                                · intro w'
                                                  go_simp
                                                  with_reducible rfl
                                                rotate_left
                                                · simp only [Act.put, List.setIfInBounds_toArray, List.set_cons_zero, List.set_cons_succ, i64_w, i32_w]
                                                  rfl
                                                refine pure_ (i := 11) (N := some 66) (v := ?_) (a' := ?_) #[true, true, true, true, true, true, true, true, true, true, true, true, false] rfl rfl (any_of HT_.out (by kernel_rfl)) (fun _ _ _ h => h) (Or.inl ⟨by rfl, ?_⟩) ?_ ?_
                                                rotate_left
                                                · intro w'
                                                  go_simp
                                                  with_reducible rfl
                                                rotate_left
                                                · simp only [Act.put, List.setIfInBounds_toArray, List.set_cons_zero, List.set_cons_succ, i64_w, i32_w]
                                                  rfl
                                                refine last_ (i := 12) (N := none) #[true, true, true, true, true, true, true, true, true, true, true, true, true] rfl rfl (one_of HT_.out (by kernel_rfl)) (by decide) (fun K hK => ?_)
                                                refine skip_ (w1 := ?_) (by rfl) rfl ?_ ?_
                                                rotate_left
                                                · go_simp
                                                  rfl
                                                refine hK.out _ _ ?_
                                                clear hK K
                                                refine done_ (done_of HT_.out (by kernel_rfl)) ?_
                                                try go_wp2
                                                go_roundg k3
                                                case measure => have := HK1.out; have := HK2.out; have := HK3.out; omega
                                                case rel => exact ⟨(y228), (ji24), (by first | rfl | (simp; done) | (simp only [← hji24] <;> (first | rfl | simp)) | (simp [*]; done)), H', ⟨by have := HK1.out; have := HK2.out; have := HK3.out; omega⟩, ⟨by (with_reducible repeat (first | apply Kd.R_alloc | apply Kd.R_drewN | apply Kd.R_drew)); exact Kd.R_mono (Kd.R_far (p := ⟨go27, (x42_3 : Int).toNat, none⟩) (Kd.R_mono HO_5.out (fun k_ hk => (⟨hk, fun e_ => hk.2 (by rw [e_]; rfl)⟩ : _ ∧ k_ ≠ go27))) (fun _ hk => hk.2) (.int .u8 (Go.bits .xor .u8 (rd y224 x42_3) t227))) (fun _ hk => ⟨hk.1.2, hk.1.1⟩)⟩, ⟨by (with_reducible repeat (first | apply Kd.R_alloc | apply Kd.R_drewN | apply Kd.R_drew)); exact HQ37.out⟩, ⟨by (with_reducible repeat (first | apply Kd.R_alloc | apply Kd.R_drewN | apply Kd.R_drew)); exact Kd.R_mono (Kd.R_far (p := ⟨go27, (x42_3 : Int).toNat, none⟩) (Kd.R_mono HO_40.out (fun k_ hk => (⟨hk, fun e_ => hk.2 (by rw [e_]; rfl)⟩ : _ ∧ k_ ≠ go27))) (fun _ hk => hk.2) (.int .u8 (Go.bits .xor .u8 (rd y224 x42_3) t227))) (fun _ hk => ⟨hk.1.1, hk.1.2⟩)⟩, ⟨by repeat (first | (with_reducible first | exact HB.out | apply below_alloc | apply pw_below_drewN | apply below_drew1 | refine below_set ?_ GB27.out) | exact HB.out)⟩⟩
                                              · rw [if_neg c30] at H
                                                exact absurd H (by simp)
                                            · rw [if_neg c29] at H
                                              exact absurd H (by simp)
                                          · rw [if_neg c28] at H
                                            exact absurd H (by simp)
                                        · rw [if_neg c26] at H
                                          exact absurd H (by simp)
                                      · rw [if_neg c25] at H
                                        exact absurd H (by simp)
                                    · rw [if_neg c23] at H
                                      exact absurd H (by simp)
                                  · rw [if_neg c22] at H
                                    exact absurd H (by simp)
                                · rw [if_neg c21] at H
                                  have c21b0 : decide (x42_3 < (x7_2.length : Int)) = false := decide_eq_false c21
                                  clear c21
                                  by_cases c38 : 0 ≤ x20_1
                                  · rw [if_pos c38] at H
                                    have c38b0 : decide (0 ≤ x20_1) = true := decide_eq_true c38
                                    clear c38
                                    by_cases c39 : x20_1 < (l0.length : Int)
                                    · rw [if_pos c39] at H
                                      have c39b0 : decide (x20_1 < (l0.length : Int)) = true := decide_eq_true c39
                                      clear c39
                                      by_cases c40 : 0 ≤ x30_2
                                      · rw [if_pos c40] at H
                                        have c40b0 : decide (0 ≤ x30_2) = true := decide_eq_true c40
                                        clear c40
                                        by_cases c41 : x30_2 < (l0.length : Int)
                                        · rw [if_pos c41] at H
                                          have c41b0 : decide (x30_2 < (l0.length : Int)) = true := decide_eq_true c41
                                          clear c41
                                          replace H := Option.bind_eq_some_iff.mp H
                                          obtain ⟨t231, A420, H⟩ := H
                                          replace H : (spec_Interpolate.l1 k3 l0 l1 x5_2 x20_1 x10_3 t231 (l0.length : Int) x20_1 (l0.length : Int) (wrap64 (x30_2 + 1))) = some r := H
                                          have A42 := Aside0.mk A420
                                          clear A420
                                          have H' := Aside0.mk H
                                          clear H
                                          try go_wp2
                                          have n0_ := Aside0.mk (Kd.R_drew HO_5.out)
                                          have n1_ := Aside0.mk (Kd.R_drew HO_10.out)
                                          have n2_ := Aside0.mk (Kd.R_drew HO_40.out)
                                          have n3_ := Aside0.mk (below_drew1 HB.out)
                                          clear HO_5
                                          clear HO_10
                                          clear HO_40
                                          clear HB
                                          have HO_5 := n0_
                                          have HO_10 := n1_
                                          have HO_40 := n2_
                                          have HB := n3_
                                          clear n0_ n1_ n2_ n3_
                                          have p229 : 0 ≤ (x20_1 : Int) := of_decide_eq_true (by first | (with_reducible assumption) | assumption)
                                          have q229 : x20_1 < (l0.length : Int) := of_decide_eq_true (by first | (with_reducible assumption) | assumption)
                                          obtain ⟨ad229, e229, hx229_0⟩ := Kd.at_int HR0.out x20_1 p229 q229
                                          have hw229_0 := hx229_0
                                          cases e229
                                          (try replace hx229_0 := (HB.out.cell (World.block_lt_of_cell? w _ hx229_0)).trans hx229_0)
                                          replace p229 := eq_true p229
                                          replace q229 := eq_true q229
                                          have p230 : 0 ≤ (x30_2 : Int) := of_decide_eq_true (by first | (with_reducible assumption) | assumption)
                                          have q230 : x30_2 < (l0.length : Int) := of_decide_eq_true (by first | (with_reducible assumption) | assumption)
                                          obtain ⟨ad230, e230, hx230_0⟩ := Kd.at_int HR0.out x30_2 p230 q230
                                          have hw230_0 := hx230_0
                                          obtain rfl : ad229 = ad230 := (by injection e230)
                                          (try replace hx230_0 := (HB.out.cell (World.block_lt_of_cell? w _ hx230_0)).trans hx230_0)
                                          replace p230 := eq_true p230
                                          replace q230 := eq_true q230
                                          refine start_ (n := 14) (S := fun w' => w'.cell? (ad229.add (x20_1).toNat) = some (.int .u8 (rd l0 x20_1)) ∧ w'.cell? (ad229.add (x30_2).toNat) = some (.int .u8 (rd l0 x30_2))) (ds := []) #[false, false, false, false, false, false, false, false, false, false, false, false, false, false] (by kernel_rfl) rfl rfl ⟨((HB.out.cell (World.block_lt_of_cell? w _ hw229_0)).trans hw229_0), ((HB.out.cell (World.block_lt_of_cell? w _ hw230_0)).trans hw230_0)⟩ (fun hHeld => ?_); refine with_tabW spec_Interpolate.tab17 spec_Interpolate.bits17 (fun HT_ HW_ => ?_)
                                          generalize wr.drew = w43 at HO_5 HO_10 HO_40 HB hx229_0 hx230_0 hHeld ⊢
                                          refine pure_ (i := 0) (N := some 68) (v := ?_) (a' := ?_) #[true, false, false, false, false, false, false, false, false, false, false, false, false, false] rfl rfl (any_of HT_.out (by kernel_rfl)) (fun _ _ _ h => h) (Or.inl ⟨by rfl, ?_⟩) ?_ ?_
                                          rotate_left
                                          · intro w'
                                            go_simp
                                            with_reducible rfl
                                          rotate_left
                                          · simp only [Act.put, List.setIfInBounds_toArray, List.set_cons_zero, List.set_cons_succ, i64_w, i32_w]
                                            rfl
                                          refine pure_ (i := 1) (N := some 69) (v := ?_) (a' := ?_) #[true, true, false, false, false, false, false, false, false, false, false, false, false, false] rfl rfl (any_of HT_.out (by kernel_rfl)) (fun _ _ _ h => h) (Or.inl ⟨by rfl, ?_⟩) ?_ ?_
                                          rotate_left
                                          · intro w'
                                            go_simp
                                            with_reducible rfl
                                          rotate_left
                                          · simp only [Act.put, List.setIfInBounds_toArray, List.set_cons_zero, List.set_cons_succ, i64_w, i32_w]
                                            rfl
                                          refine pure_ (i := 2) (N := some 70) (v := ?_) (a' := ?_) #[true, true, true, false, false, false, false, false, false, false, false, false, false, false] rfl rfl (any_of HT_.out (by kernel_rfl)) (fun _ _ _ h => h) (Or.inl ⟨by rfl, ?_⟩) ?_ ?_
                                          rotate_left
                                          · intro w'
                                            go_simp
                                            with_reducible rfl
                                          rotate_left
                                          · simp only [Act.put, List.setIfInBounds_toArray, List.set_cons_zero, List.set_cons_succ, i64_w, i32_w]
                                            rfl
                                          refine pure_ (i := 3) (N := some 71) (v := ?_) (a' := ?_) #[true, true, true, true, false, false, false, false, false, false, false, false, false, false] rfl rfl (any_of HT_.out (by kernel_rfl)) (fun _ _ _ h => h) (Or.inl ⟨by rfl, ?_⟩) ?_ ?_
                                          rotate_left
                                          · intro w'
                                            go_simp
                                            with_reducible rfl
                                          rotate_left
                                          · simp only [Act.put, List.setIfInBounds_toArray, List.set_cons_zero, List.set_cons_succ, i64_w, i32_w]
                                            rfl
                                          refine pure_ (i := 4) (N := some 72) (v := ?_) (a' := ?_) #[true, true, true, true, true, false, false, false, false, false, false, false, false, false] rfl rfl (any_of HT_.out (by kernel_rfl)) (fun _ _ _ h => h) (Or.inl ⟨by rfl, ?_⟩) ?_ ?_
                                          rotate_left
                                          · intro w'
                                            go_simp
                                            with_reducible rfl
                                          rotate_left
                                          · simp only [Act.put, List.setIfInBounds_toArray, List.set_cons_zero, List.set_cons_succ, i64_w, i32_w]
                                            rfl
                                          refine pure_ (i := 6) (N := some 74) (v := ?_) (a' := ?_) #[true, true, true, true, true, false, true, false, false, false, false, false, false, false] rfl rfl (any_of HT_.out (by kernel_rfl)) (fun _ _ _ h => h) (Or.inl ⟨by rfl, ?_⟩) ?_ ?_
                                          rotate_left
                                          · intro w'
                                            go_simp
                                            with_reducible rfl
                                          rotate_left
                                          · simp only [Act.put, List.setIfInBounds_toArray, List.set_cons_zero, List.set_cons_succ, i64_w, i32_w]
                                            rfl
                                          refine pure_ (i := 7) (N := some 75) (v := ?_) (a' := ?_) #[true, true, true, true, true, false, true, true, false, false, false, false, false, false] rfl rfl (any_of HT_.out (by kernel_rfl)) (fun _ _ _ h => h) (Or.inl ⟨by rfl, ?_⟩) ?_ ?_
                                          rotate_left
                                          · intro w'
                                            go_simp
                                            with_reducible rfl
                                          rotate_left
                                          · simp only [Act.put, List.setIfInBounds_toArray, List.set_cons_zero, List.set_cons_succ, i64_w, i32_w]
                                            rfl
                                          refine pure_ (i := 8) (N := some 76) (v := ?_) (a' := ?_) #[true, true, true, true, true, false, true, true, true, false, false, false, false, false] rfl rfl (any_of HT_.out (by kernel_rfl)) (fun _ _ _ h => h) (Or.inl ⟨by rfl, ?_⟩) ?_ ?_
                                          rotate_left
                                          · intro w'
                                            go_simp
                                            with_reducible rfl
                                          rotate_left
                                          · simp only [Act.put, List.setIfInBounds_toArray, List.set_cons_zero, List.set_cons_succ, i64_w, i32_w]
                                            rfl
                                          refine take_ (i := 5) (N := some 73) (v := ?_) (a' := ?_) #[true, true, true, true, true, true, true, true, true, false, false, false, false, false] rfl rfl (take_ofW HT_.out HW_.out (by kernel_rfl)) (fun _ _ _ h => h) (Or.inl ⟨by rfl, ?_⟩) hHeld ?_ ?_
                                          rotate_left
                                          · rintro w' ⟨s0, s1⟩
                                            go_simp
                                            with_reducible rfl
                                          rotate_left
                                          · simp only [Act.put, List.setIfInBounds_toArray, List.set_cons_zero, List.set_cons_succ, i64_w, i32_w]
                                            rfl
                                          refine take_ (i := 9) (N := some 77) (v := ?_) (a' := ?_) #[true, true, true, true, true, true, true, true, true, true, false, false, false, false] rfl rfl (take_ofW HT_.out HW_.out (by kernel_rfl)) (fun _ _ _ h => h) (Or.inl ⟨by rfl, ?_⟩) hHeld ?_ ?_
                                          rotate_left
                                          · rintro w' ⟨s0, s1⟩
                                            go_simp
                                            with_reducible rfl
                                          rotate_left
                                          · simp only [Act.put, List.setIfInBounds_toArray, List.set_cons_zero, List.set_cons_succ, i64_w, i32_w]
                                            rfl
                                          refine pure_ (i := 10) (N := some 78) (v := ?_) (a' := ?_) #[true, true, true, true, true, true, true, true, true, true, true, false, false, false] rfl rfl (any_of HT_.out (by kernel_rfl)) (fun _ _ _ h => h) (Or.inl ⟨by rfl, ?_⟩) ?_ ?_
                                          rotate_left
                                          · intro w'
                                            go_simp
                                            with_reducible rfl
                                          rotate_left
                                          · simp only [Act.put, List.setIfInBounds_toArray, List.set_cons_zero, List.set_cons_succ, i64_w, i32_w]
                                            rfl
                                          refine one_ (i := 11) (N := some 79) #[true, true, true, true, true, true, true, true, true, true, true, true, false, false] rfl rfl (one_of HT_.out (by kernel_rfl)) (by decide) (fun K hK => ?_)
                                          refine goes_ Tryd.func42 (by kernel_rfl) rfl #[.int .u8 x8_2, .int .u8 (Go.bits .xor .u8 (rd l0 x20_1) (rd l0 x30_2))] (by rfl) rfl rfl (by (try simp only [List.map_toArray, List.map_cons, List.map_nil]); first | done | rfl | (simp only [List.length_drop, List.length_take]; rfl)) ?_
                                          with_reducible refine (spec_Div.calls k3 x8_2 (Go.bits .xor .u8 (rd l0 x20_1) (rd l0 x30_2)) t231 _ A42.out).mono ?_
                                          rintro e w' ⟨rfl, ⟨nd, rfl⟩⟩
                                          refine ⟨_, rfl, ?_⟩
                                          refine hK.out _ _ ⟨((HB.out.cell (World.block_lt_of_cell? w _ hw229_0)).trans hw229_0), ((HB.out.cell (World.block_lt_of_cell? w _ hw230_0)).trans hw230_0)⟩ (fun hHeld => ?_)
                                          clear hK K
                                          refine norm_ (a' := ?_) ?_ ?_
                                          rotate_left
                                          · show Act.put _ (some 79) _ = _
                                            simp only [Act.put, List.setIfInBounds_toArray, List.set_cons_zero, List.set_cons_succ, i64_w, i32_w]
                                            rfl
                                          refine pure_ (i := 12) (N := some 7) (v := ?_) (a' := ?_) #[true, true, true, true, true, true, true, true, true, true, true, true, true, false] rfl rfl (any_of HT_.out (by kernel_rfl)) (fun _ _ _ h => h) (Or.inl ⟨by rfl, ?_⟩) ?_ ?_
                                          rotate_left
                                          · intro w'
                                            go_simp
                                            with_reducible rfl
                                          rotate_left
                                          · simp only [Act.put, List.setIfInBounds_toArray, List.set_cons_zero, List.set_cons_succ, i64_w, i32_w]
                                            rfl
                                          refine pure_ (i := 13) (N := some 8) (v := ?_) (a' := ?_) #[true, true, true, true, true, true, true, true, true, true, true, true, true, true] rfl rfl (any_of HT_.out (by kernel_rfl)) (fun _ _ _ h => h) (Or.inl ⟨by rfl, ?_⟩) ?_ ?_
                                          rotate_left
                                          · intro w'
                                            go_simp
                                            with_reducible rfl
                                          rotate_left
                                          · simp only [Act.put, List.setIfInBounds_toArray, List.set_cons_zero, List.set_cons_succ, i64_w, i32_w]
                                            rfl
                                          refine done_ (done_of HT_.out (by kernel_rfl)) ?_
                                          try go_wp2
                                          go_roundg k3
                                          case measure => have := HK1.out; have := HK2.out; have := HK3.out; omega
                                          case rel => exact ⟨(x5_2), (x10_3), (t231), (wrap64 (x30_2 + 1)), (by first | rfl | (simp; done) | (simp [*]; done)), (by first | rfl | (simp; done) | (simp [*]; done)), H', ⟨by have := HK1.out; have := HK2.out; have := HK3.out; omega⟩, ⟨by (with_reducible repeat (first | apply Kd.R_alloc | apply Kd.R_drewN | apply Kd.R_drew)); exact Kd.R_mono HO_5.out (fun _ hk => hk.1)⟩, ⟨by (with_reducible repeat (first | apply Kd.R_alloc | apply Kd.R_drewN | apply Kd.R_drew)); exact Kd.R_mono HO_10.out (fun _ hk => hk.1)⟩, ⟨by repeat (first | (with_reducible first | exact HB.out | apply below_alloc | apply pw_below_drewN | apply below_drew1) | exact HB.out)⟩⟩
                                        · rw [if_neg c41] at H
                                          exact absurd H (by simp)
                                      · rw [if_neg c40] at H
                                        exact absurd H (by simp)
                                    · rw [if_neg c39] at H
                                      exact absurd H (by simp)
                                  · rw [if_neg c38] at H
                                    exact absurd H (by simp)
                          · rw [if_neg c17] at H
                            exact absurd H (by simp)
                        · rw [if_neg c16] at H
                          exact absurd H (by simp)
                    · rw [if_neg c13] at H
                      have c13b0 : decide (x30_2 < (l0.length : Int)) = false := decide_eq_false c13
                      clear c13
                      have H' := Aside0.mk H
                      clear H
                      obtain ⟨Ao44, co44, eo44⟩ := Kd.R_slice HO_7.out
                      subst eo44
                      go_wp2
                      try simp only [Act.put, List.setIfInBounds_toArray, List.set_cons_zero, List.set_cons_succ]
                      go_loopg [83] k2 (fun kq v83 w' => ∃ (x5_3 : List Int) (x83_3 : Int), v83 = .int .i64 x83_3 ∧ Aside0 (spec_Interpolate.l3 kq l0 l1 x5_3 x8_2 (l0.length : Int) x20_1 x7_2 (x7_2.length : Int) x83_3 = some r) ∧ Aside0 (kq ≤ k2) ∧ Aside0 (Kd.R (Kd.int .u8) 5 w' w.heap.size (fun k_ => some k_ ≠ ((.slice Ao44 x7_2.length co44) : Value).ownBlock) v213 x5_3) ∧ Aside0 (Kd.R (Kd.int .u8) 5 w' w.heap.size (fun k_ => some k_ ≠ (v213 : Value).ownBlock) (.slice Ao44 x7_2.length co44) x7_2) ∧ Aside0 (Below w.heap.size w w'))
                      case atStart => exact ⟨(x5_2), (0), (by first | rfl | (simp; done) | (simp [*]; done)), H', ⟨Nat.le_refl _⟩, ⟨by (with_reducible repeat (first | apply Kd.R_alloc | apply Kd.R_drewN | apply Kd.R_drew)); exact HO_5.out⟩, ⟨by (with_reducible repeat (first | apply Kd.R_alloc | apply Kd.R_drewN | apply Kd.R_drew)); exact HO_7.out⟩, ⟨by repeat (first | (with_reducible first | exact HB.out | apply below_alloc | apply pw_below_drewN | apply below_drew1) | exact HB.out)⟩⟩
                      case round =>
                        clear H'
                        try clear c1
                        try clear c2
                        try clear p2
                        try clear q2
                        try clear hx2
                        try clear hf2
                        try clear c3
                        try clear c3b0
                        try clear c3b1
                        try clear p3
                        try clear q3
                        try clear hx3
                        try clear hf3
                        try clear c4
                        try clear c4b0
                        try clear c4b1
                        try clear p6
                        try clear c7
                        try clear c7b0
                        try clear c8
                        try clear c8b0
                        try clear c9
                        try clear c9b0
                        try clear c13
                        try clear c13b0
                        try clear c14
                        try clear c14b0
                        try clear c14b1
                        try clear c16
                        try clear c16b0
                        try clear c16b1
                        try clear c17
                        try clear c17b0
                        try clear c17b1
                        try clear c21
                        try clear c21b0
                        try clear p21
                        try clear q21
                        try clear hx21
                        try clear c22
                        try clear c22b0
                        try clear p22
                        try clear q22
                        try clear hx22
                        try clear c23
                        try clear c23b0
                        try clear p23
                        try clear q23
                        try clear hx23
                        try clear c25
                        try clear c25b0
                        try clear c26
                        try clear c26b0
                        try clear p27
                        try clear q27
                        try clear hx27
                        try clear hf27
                        try clear c28
                        try clear c28b0
                        try clear c29
                        try clear c29b0
                        try clear c30
                        try clear c30b0
                        try clear p32
                        try clear q32
                        try clear hx32
                        try clear hf32
                        try clear c38
                        try clear c38b0
                        try clear c39
                        try clear c39b0
                        try clear c40
                        try clear c40b0
                        try clear c41
                        try clear c41b0
                        try clear c42
                        try clear hx218_0
                        try clear hx222_0
                        try clear hx223_0
                        try clear hx225_0
                        try clear hx226_0
                        try clear hx229_0
                        try clear hx230_0
                        try clear hx27_0
                        try clear hx32_0
                        try clear p2
                        try clear p218
                        try clear p222
                        try clear p223
                        try clear p225
                        try clear p226
                        try clear p229
                        try clear p230
                        try clear p27
                        try clear p32
                        try clear p6
                        try clear q2
                        try clear q218
                        try clear q222
                        try clear q223
                        try clear q225
                        try clear q226
                        try clear q229
                        try clear q230
                        try clear q27
                        try clear q32
                        obtain ⟨x5_3, x83_3, rfl, HA, HK3, HO_5, HO_81, HB⟩ := hrel
                        cases gk with
                        | zero => exact absurd HA.out (by simp [spec_Interpolate.l3])
                        | succ k3 =>
                          have H := HA.out
                          clear HA
                          simp only [spec_Interpolate.l3] at H
                          by_cases c45 : x83_3 < (x7_2.length : Int)
                          · rw [if_pos c45] at H
                            have c45b0 : decide (x83_3 < (x7_2.length : Int)) = true := decide_eq_true c45
                            clear c45
                            by_cases c46 : 0 ≤ x83_3
                            · rw [if_pos c46] at H
                              have c46b0 : decide (0 ≤ x83_3) = true := decide_eq_true c46
                              clear c46
                              by_cases c47 : x83_3 < (x7_2.length : Int)
                              · rw [if_pos c47] at H
                                have c47b0 : decide (x83_3 < (x7_2.length : Int)) = true := decide_eq_true c47
                                clear c47
                                by_cases c48 : x83_3 < (x5_3.length : Int)
                                · rw [if_pos c48] at H
                                  have c48b0 : decide (x83_3 < (x5_3.length : Int)) = true := decide_eq_true c48
                                  clear c48
                                  replace H := Option.bind_eq_some_iff.mp H
                                  obtain ⟨t234, A490, H⟩ := H
                                  replace H : (spec_Interpolate.l3 k3 l0 l1 (x5_3.set (x83_3 : Int).toNat (Go.bits .xor .u8 (rd x5_3 x83_3) t234)) x8_2 (l0.length : Int) x20_1 x7_2 (x7_2.length : Int) (wrap64 (x83_3 + 1))) = some r := H
                                  have A49 := Aside0.mk A490
                                  clear A490
                                  obtain ⟨y235, hy235⟩ : ∃ y_ : List Int, y_ = (x5_3.set (x83_3 : Int).toNat (Go.bits .xor .u8 (rd x5_3 x83_3) t234)) := ⟨_, rfl⟩
                                  replace H : (spec_Interpolate.l3 k3 l0 l1 y235 x8_2 (l0.length : Int) x20_1 x7_2 (x7_2.length : Int) (wrap64 (x83_3 + 1))) = some r := by first | (rw [hy235]; with_reducible exact H) | (have H2_ := (Option.bind_some _ _).symm.trans H; rw [hy235]; with_reducible exact H2_) | (have H2_ := (Option.bind_some _ _).symm.trans H; with_reducible exact H2_) | with_reducible exact H | (rw [hy235]; exact H) | exact H
                                  have Ny235 := Aside0.mk hy235
                                  clear hy235
                                  have H' := Aside0.mk H
                                  clear H
                                  have p232 : 0 ≤ (x83_3 : Int) := of_decide_eq_true (by first | (with_reducible assumption) | assumption)
                                  have q232 : x83_3 < (x7_2.length : Int) := of_decide_eq_true (by first | (with_reducible assumption) | assumption)
                                  obtain ⟨ad232, e232, hx232_0⟩ := Kd.at_int (Kd.R_reads' HO_81.out).2.2 x83_3 p232 q232
                                  cases e232
                                  replace p232 := eq_true p232
                                  replace q232 := eq_true q232
                                  try go_wp2
                                  have n0_ := Aside0.mk (Kd.R_drew HO_5.out)
                                  have n1_ := Aside0.mk (Kd.R_drew HO_81.out)
                                  have n2_ := Aside0.mk (below_drew1 HB.out)
                                  clear HO_5
                                  clear HO_81
                                  clear HB
                                  have HO_5 := n0_
                                  have HO_81 := n1_
                                  have HB := n2_
                                  clear n0_ n1_ n2_
                                  obtain ⟨Ao52, co52, eo52⟩ := Kd.R_slice HO_5.out
                                  (first | subst eo52 | (injection eo52 with f1_ f2_ f3_; have f4_ := f1_.symm; have f5_ := f3_.symm; clear f1_ f2_ f3_; subst f4_; subst f5_))
                                  have p233 : 0 ≤ (x83_3 : Int) := of_decide_eq_true (by first | (with_reducible assumption) | assumption)
                                  have q233 : x83_3 < (x5_3.length : Int) := of_decide_eq_true (by first | (with_reducible assumption) | assumption)
                                  obtain ⟨ad233, e233, hx233_0⟩ := Kd.at_int (Kd.R_reads' HO_5.out).2.2 x83_3 p233 q233
                                  cases e233
                                  replace p233 := eq_true p233
                                  replace q233 := eq_true q233
                                  refine start_ (n := 10) (S := fun w' => w'.cell? (ad233.add (x83_3).toNat) = some (.int .u8 (rd x5_3 x83_3))) (ds := [9]) #[false, false, false, false, false, false, false, false, false, false] (by kernel_rfl) rfl rfl (hx233_0) (fun hHeld => ?_); refine with_tabW spec_Interpolate.tab22 spec_Interpolate.bits22 (fun HT_ HW_ => ?_)
                                  generalize wr.drew = w51 at HO_5 HO_81 HB hx233_0 hHeld ⊢
                                  refine pure_ (i := 0) (N := some 88) (v := ?_) (a' := ?_) #[true, false, false, false, false, false, false, false, false, false] rfl rfl (any_of HT_.out (by kernel_rfl)) (fun _ _ _ h => h) (Or.inl ⟨by rfl, ?_⟩) ?_ ?_
                                  rotate_left
                                  · intro w'
                                    go_simp
                                    with_reducible rfl
                                  rotate_left
                                  · simp only [Act.put, List.setIfInBounds_toArray, List.set_cons_zero, List.set_cons_succ, i64_w, i32_w]
                                    rfl
                                  refine pure_ (i := 1) (N := some 89) (v := ?_) (a' := ?_) #[true, true, false, false, false, false, false, false, false, false] rfl rfl (any_of HT_.out (by kernel_rfl)) (fun _ _ _ h => h) (Or.inl ⟨by rfl, ?_⟩) ?_ ?_
                                  rotate_left
                                  · intro w'
                                    go_simp
                                    with_reducible rfl
                                  rotate_left
                                  · simp only [Act.put, List.setIfInBounds_toArray, List.set_cons_zero, List.set_cons_succ, i64_w, i32_w]
                                    rfl
                                  refine pure_ (i := 2) (N := some 90) (v := ?_) (a' := ?_) #[true, true, true, false, false, false, false, false, false, false] rfl rfl (any_of HT_.out (by kernel_rfl)) (fun _ _ _ h => h) (Or.inl ⟨by rfl, ?_⟩) ?_ ?_
                                  rotate_left
                                  · intro w'
                                    go_simp
                                    with_reducible rfl
                                  rotate_left
                                  · simp only [Act.put, List.setIfInBounds_toArray, List.set_cons_zero, List.set_cons_succ, i64_w, i32_w]
                                    rfl
                                  refine pure_ (i := 4) (N := some 92) (v := ?_) (a' := ?_) #[true, true, true, false, true, false, false, false, false, false] rfl rfl (any_of HT_.out (by kernel_rfl)) (fun _ _ _ h => h) (Or.inl ⟨by rfl, ?_⟩) ?_ ?_
                                  rotate_left
                                  · intro w'
                                    go_simp
                                    with_reducible rfl
                                  rotate_left
                                  · simp only [Act.put, List.setIfInBounds_toArray, List.set_cons_zero, List.set_cons_succ, i64_w, i32_w]
                                    rfl
                                  refine pure_ (i := 5) (N := some 93) (v := ?_) (a' := ?_) #[true, true, true, false, true, true, false, false, false, false] rfl rfl (any_of HT_.out (by kernel_rfl)) (fun _ _ _ h => h) (Or.inl ⟨by rfl, ?_⟩) ?_ ?_
                                  rotate_left
                                  · intro w'
                                    go_simp
                                    with_reducible rfl
                                  rotate_left
                                  · simp only [Act.put, List.setIfInBounds_toArray, List.set_cons_zero, List.set_cons_succ, i64_w, i32_w]
                                    rfl
                                  refine take_ (i := 3) (N := some 91) (v := ?_) (a' := ?_) #[true, true, true, true, true, true, false, false, false, false] rfl rfl (take_ofW HT_.out HW_.out (by kernel_rfl)) (fun _ _ _ h => h) (Or.inl ⟨by rfl, ?_⟩) hHeld ?_ ?_
                                  rotate_left
                                  · intro w' s0
                                    go_simp
                                    with_reducible rfl
                                  rotate_left
                                  · simp only [Act.put, List.setIfInBounds_toArray, List.set_cons_zero, List.set_cons_succ, i64_w, i32_w]
                                    rfl
                                  refine one_ (i := 6) (N := some 94) #[true, true, true, true, true, true, true, false, false, false] rfl rfl (one_of HT_.out (by kernel_rfl)) (by decide) (fun K hK => ?_)
                                  refine goes_ Tryd.func39 (by kernel_rfl) rfl #[.int .u8 (rd x7_2 x83_3), .int .u8 x8_2] (by rfl) rfl rfl (by (try simp only [List.map_toArray, List.map_cons, List.map_nil]); first | done | rfl | (simp only [List.length_drop, List.length_take]; rfl)) ?_
                                  with_reducible refine (spec_Mul.calls k3 (rd x7_2 x83_3) x8_2 t234 _ A49.out).mono ?_
                                  rintro e w' ⟨rfl, ⟨nd, rfl⟩⟩
                                  refine ⟨_, rfl, ?_⟩
                                  have p50 : 0 ≤ (x83_3 : Int) := of_decide_eq_true (by first | (with_reducible assumption) | assumption)
                                  have q50 : (x83_3 : Int) < ((x5_3.length : Int) : Int) := of_decide_eq_true (by first | (with_reducible assumption) | assumption)
                                  obtain ⟨go50, co50, eo50, gb50, gl50, cl50, HG50⟩ := Kd.R_form HO_5.out (by omega)
                                  (first | cases eo50 | (injection eo50 with ea_ en_ ec_; (first | subst ea_ | (injection ea_ with ea_; subst ea_)); subst ec_; clear en_))
                                  have GB50 := Aside0.mk gb50
                                  have GG50 := Aside0.mk HG50
                                  clear gb50 gl50 HG50
                                  (first | simp only [add_plain] at hx233_0 | skip)
                                  obtain ⟨hx50_0, hf50_0⟩ := Kd.R_celln 0 HO_5.out (x83_3 : Int) p50 q50
                                  replace p50 := eq_true p50
                                  replace q50 := eq_true q50
                                  have HP53 := Kd.R_putn HO_5.out (x83_3 : Int) (Go.bits .xor .u8 (rd x5_3 x83_3) t234)
                                  rw [← Ny235.out] at HP53
                                  have HQ53 := Aside0.mk HP53
                                  clear HP53
                                  refine hK.out _ _ (hHeld) (fun hHeld => ?_)
                                  clear hK K
                                  refine norm_ (a' := ?_) ?_ ?_
                                  rotate_left
                                  · show Act.put _ (some 94) _ = _
                                    simp only [Act.put, List.setIfInBounds_toArray, List.set_cons_zero, List.set_cons_succ, i64_w, i32_w]
                                    rfl
                                  refine pure_ (i := 7) (N := some 95) (v := ?_) (a' := ?_) #[true, true, true, true, true, true, true, true, false, false] rfl rfl (any_of HT_.out (by kernel_rfl)) (fun _ _ _ h => h) (Or.inl ⟨by rfl, ?_⟩) ?_ ?_
                                  rotate_left
                                  · intro w'
                                    go_simp
                                    with_reducible rfl
                                  rotate_left
                                  · simp only [Act.put, List.setIfInBounds_toArray, List.set_cons_zero, List.set_cons_succ, i64_w, i32_w]
                                    rfl
                                  refine pure_ (i := 8) (N := some 96) (v := ?_) (a' := ?_) #[true, true, true, true, true, true, true, true, true, false] rfl rfl (any_of HT_.out (by kernel_rfl)) (fun _ _ _ h => h) (Or.inl ⟨by rfl, ?_⟩) ?_ ?_
                                  rotate_left
                                  · intro w'
                                    go_simp
                                    with_reducible rfl
                                  rotate_left
                                  · simp only [Act.put, List.setIfInBounds_toArray, List.set_cons_zero, List.set_cons_succ, i64_w, i32_w]
                                    rfl
                                  refine last_ (i := 9) (N := none) #[true, true, true, true, true, true, true, true, true, true] rfl rfl (one_of HT_.out (by kernel_rfl)) (by decide) (fun K hK => ?_)
                                  refine skip_ (w1 := ?_) (by rfl) rfl ?_ ?_
                                  rotate_left
                                  · go_simp
                                    rfl
                                  refine hK.out _ _ ?_
                                  clear hK K
                                  refine done_ (done_of HT_.out (by kernel_rfl)) ?_
                                  try go_wp2
                                  go_roundg k3
                                  case measure => have := HK1.out; have := HK2.out; have := HK3.out; omega
                                  case rel => exact ⟨(y235), (wrap64 (x83_3 + 1)), (by first | rfl | (simp; done) | (simp [*]; done)), H', ⟨by have := HK1.out; have := HK2.out; have := HK3.out; omega⟩, ⟨by (with_reducible repeat (first | apply Kd.R_alloc | apply Kd.R_drewN | apply Kd.R_drew)); exact HQ53.out⟩, ⟨by (with_reducible repeat (first | apply Kd.R_alloc | apply Kd.R_drewN | apply Kd.R_drew)); exact Kd.R_mono (Kd.R_far (p := ⟨go50, (x83_3 : Int).toNat, none⟩) (Kd.R_mono HO_81.out (fun k_ hk => (⟨hk, fun e_ => hk (by rw [e_]; rfl)⟩ : _ ∧ k_ ≠ go50))) (fun _ hk => hk.2) (.int .u8 (Go.bits .xor .u8 (rd x5_3 x83_3) t234))) (fun _ hk => hk.1)⟩, ⟨by repeat (first | (with_reducible first | exact HB.out | apply below_alloc | apply pw_below_drewN | apply below_drew1 | refine below_set ?_ GB50.out) | exact HB.out)⟩⟩
                                · rw [if_neg c48] at H
                                  exact absurd H (by simp)
                              · rw [if_neg c47] at H
                                exact absurd H (by simp)
                            · rw [if_neg c46] at H
                              exact absurd H (by simp)
                          · rw [if_neg c45] at H
                            have c45b0 : decide (x83_3 < (x7_2.length : Int)) = false := decide_eq_false c45
                            clear c45
                            have H' := Aside0.mk H
                            clear H
                            go_wp2
                            go_roundg k3
                            case measure => have := HK1.out; have := HK2.out; have := HK3.out; omega
                            case rel => exact ⟨(x5_3), (wrap64 (x20_1 + 1)), (by first | rfl | (simp; done) | (simp [*]; done)), H', ⟨by have := HK1.out; have := HK2.out; have := HK3.out; omega⟩, ⟨by (with_reducible repeat (first | apply Kd.R_alloc | apply Kd.R_drewN | apply Kd.R_drew)); exact Kd.R_mono HO_5.out (fun _ hk => trivial)⟩, ⟨by repeat (first | (with_reducible first | exact HB.out | apply below_alloc | apply pw_below_drewN | apply below_drew1) | exact HB.out)⟩⟩
              · rw [if_neg c9] at H
                exact absurd H (by simp)
            · rw [if_neg c8] at H
              exact absurd H (by simp)
          · rw [if_neg c7] at H
            have c7b0 : decide (x20_1 < (l0.length : Int)) = false := decide_eq_false c7
            clear c7
            obtain rfl := Option.some.inj H
            go_wp2
            go_ret
            exact ⟨_, by first | rfl | (simp [errW_none, errW_some] <;> rfl) | (simp [*, errW_none, errW_some] <;> rfl), by (with_reducible repeat (first | apply Kd.R_alloc | apply Kd.R_drewN | apply Kd.R_drew)); exact HO_5.out, by repeat (first | (with_reducible first | exact HB.out | apply below_alloc | apply pw_below_drewN | apply below_drew1) | exact HB.out)⟩
    · rw [if_neg c4] at H
      exact absurd H (by simp)
  · rw [if_neg c3] at H
    exact absurd H (by simp)
end Go.Proofs.YtpeikjnkbjabpaaDoor.V
