import Derived.Test.YtpeikjnkbjabpaaDoorSVV0
import Derived.Test.YtpeikjnkbjabpaaDoorSVV1
namespace Go.Proofs.YtpeikjnkbjabpaaDoor.V
open Go.RowKit Go.Proofs.YtpeikjnkbjabpaaDoorW.PrintWords Go.Proofs.YtpeikjnkbjabpaaDoorW.PrintLast Go.Proofs.YtpeikjnkbjabpaaDoorW.PrintMore
attribute [local go_sem] max2_int min2_int max_two min_two max_three min_three max_four min_four   -- for this text's walks alone
set_option linter.unusedVariables false
set_option linter.unusedSimpArgs false
mutual
def reedsolomon_matrix_Augment.l0 : Nat → List (List Int) → List (List Int) → List (List Int) → List (List Int) → Int → Int → Option ((List (List Int)) × Option Int)
  | 0, _, _, _, _, _, _ => none
  | k + 1, x0, x1, x6, x34, x35, x36 => if x36 < x35 then (if 0 ≤ x36 then (if x36 < (x34.length : Int) then (reedsolomon_matrix_Augment.l1 k x0 x1 x6 x36 x34 x35 x36 ((rd_L1 x34 x36).length : Int) 0) else (none)) else (none)) else (some (x6, none))
def reedsolomon_matrix_Augment.l1 : Nat → List (List Int) → List (List Int) → List (List Int) → Int → List (List Int) → Int → Int → Int → Int → Option ((List (List Int)) × Option Int)
  | 0, _, _, _, _, _, _, _, _, _ => none
  | k + 1, x0, x1, x6, x8, x34, x35, x36, x42, x43 => if x43 < x42 then (if 0 ≤ x8 then (if x8 < (x6.length : Int) then (if x8 < (x0.length : Int) then (if 0 ≤ x43 then (if x43 < ((rd_L1 x0 x8).length : Int) then (if x43 < ((rd_L1 x6 x8).length : Int) then (reedsolomon_matrix_Augment.l1 k x0 x1 (x6.set (x8 : Int).toNat ((rd_L1 x6 x8).set (x43 : Int).toNat (rd (rd_L1 x0 x8) x43))) x8 x34 x35 x36 x42 (wrap64 (x43 + 1))) else (none)) else (none)) else (none)) else (none)) else (none)) else (none)) else (if 0 < (x0.length : Int) then (if 0 < (x1.length : Int) then (reedsolomon_matrix_Augment.l2 k x0 x1 x6 x8 ((rd_L1 x0 0).length : Int) x34 x35 x36 ((rd_L1 x1 0).length : Int) 0) else (none)) else (none))
def reedsolomon_matrix_Augment.l2 : Nat → List (List Int) → List (List Int) → List (List Int) → Int → Int → List (List Int) → Int → Int → Int → Int → Option ((List (List Int)) × Option Int)
  | 0, _, _, _, _, _, _, _, _, _, _ => none
  | k + 1, x0, x1, x6, x8, x11, x34, x35, x36, x67, x68 => if x68 < x67 then (if 0 ≤ x8 then (if x8 < (x6.length : Int) then (if x8 < (x1.length : Int) then (if 0 ≤ x68 then (if x68 < ((rd_L1 x1 x8).length : Int) then (if 0 ≤ (wrap64 (x11 + x68)) then (if (wrap64 (x11 + x68)) < ((rd_L1 x6 x8).length : Int) then (reedsolomon_matrix_Augment.l2 k x0 x1 (x6.set (x8 : Int).toNat ((rd_L1 x6 x8).set ((wrap64 (x11 + x68)) : Int).toNat (rd (rd_L1 x1 x8) x68))) x8 x11 x34 x35 x36 x67 (wrap64 (x68 + 1))) else (none)) else (none)) else (none)) else (none)) else (none)) else (none)) else (none)) else (reedsolomon_matrix_Augment.l0 k x0 x1 x6 x34 x35 (wrap64 (x36 + 1)))
end
def reedsolomon_matrix_Augment.f (k : Nat) (l0 : List (List Int)) (l1 : List (List Int)) : Option ((List (List Int)) × Option Int) := if (l0.length : Int) = (l1.length : Int) then (if 0 < (l0.length : Int) then (if 0 < (l1.length : Int) then ((reedsolomon_newMatrix.f k (l0.length : Int) (wrap64 (((rd_L1 l0 0).length : Int) + ((rd_L1 l1 0).length : Int)))).bind fun bt124 => (reedsolomon_matrix_Augment.l0 k l0 l1 bt124.1 l0 (l0.length : Int) 0)) else (none)) else (none)) else (some (([] : List (List Int)), some 0))
theorem reedsolomon_matrix_Augment.mono_l : ∀ k, (∀ y0 y1 y2 y3 y4 y5, LeO (reedsolomon_matrix_Augment.l0 k y0 y1 y2 y3 y4 y5) (reedsolomon_matrix_Augment.l0 (k + 1) y0 y1 y2 y3 y4 y5)) ∧ (∀ y0 y1 y2 y3 y4 y5 y6 y7 y8, LeO (reedsolomon_matrix_Augment.l1 k y0 y1 y2 y3 y4 y5 y6 y7 y8) (reedsolomon_matrix_Augment.l1 (k + 1) y0 y1 y2 y3 y4 y5 y6 y7 y8)) ∧ (∀ y0 y1 y2 y3 y4 y5 y6 y7 y8 y9, LeO (reedsolomon_matrix_Augment.l2 k y0 y1 y2 y3 y4 y5 y6 y7 y8 y9) (reedsolomon_matrix_Augment.l2 (k + 1) y0 y1 y2 y3 y4 y5 y6 y7 y8 y9))
  | 0 => ⟨fun _ _ _ _ _ _ r h => by simp [reedsolomon_matrix_Augment.l0] at h, fun _ _ _ _ _ _ _ _ _ r h => by simp [reedsolomon_matrix_Augment.l1] at h, fun _ _ _ _ _ _ _ _ _ _ r h => by simp [reedsolomon_matrix_Augment.l2] at h⟩
  | k + 1 => by
    obtain ⟨ih0, ih1, ih2⟩ := reedsolomon_matrix_Augment.mono_l k
    refine ⟨?_, ?_, ?_⟩
    · intro y0 y1 y2 y3 y4 y5
      unfold reedsolomon_matrix_Augment.l0
      repeat' first
      | (with_reducible exact ih0 _ _ _ _ _ _)
      | (with_reducible exact ih1 _ _ _ _ _ _ _ _ _)
      | (with_reducible exact ih2 _ _ _ _ _ _ _ _ _ _)
      | (with_reducible exact reedsolomon_newMatrix.mono _ _ _)
      | (with_reducible exact LeO.refl _)
      | (with_reducible exact LeO.none _)
      | (with_reducible refine LeO.ite ?_ ?_)
      | (with_reducible refine LeO.bind ?_ (fun _ => ?_))
      | exact ih0 _ _ _ _ _ _
      | exact ih1 _ _ _ _ _ _ _ _ _
      | exact ih2 _ _ _ _ _ _ _ _ _ _
      | exact reedsolomon_newMatrix.mono _ _ _
      | exact LeO.none _
      | refine LeO.ite ?_ ?_
      | refine LeO.bind ?_ (fun _ => ?_)
    · intro y0 y1 y2 y3 y4 y5 y6 y7 y8
      unfold reedsolomon_matrix_Augment.l1
      repeat' first
      | (with_reducible exact ih0 _ _ _ _ _ _)
      | (with_reducible exact ih1 _ _ _ _ _ _ _ _ _)
      | (with_reducible exact ih2 _ _ _ _ _ _ _ _ _ _)
      | (with_reducible exact reedsolomon_newMatrix.mono _ _ _)
      | (with_reducible exact LeO.refl _)
      | (with_reducible exact LeO.none _)
      | (with_reducible refine LeO.ite ?_ ?_)
      | (with_reducible refine LeO.bind ?_ (fun _ => ?_))
      | exact ih0 _ _ _ _ _ _
      | exact ih1 _ _ _ _ _ _ _ _ _
      | exact ih2 _ _ _ _ _ _ _ _ _ _
      | exact reedsolomon_newMatrix.mono _ _ _
      | exact LeO.none _
      | refine LeO.ite ?_ ?_
      | refine LeO.bind ?_ (fun _ => ?_)
    · intro y0 y1 y2 y3 y4 y5 y6 y7 y8 y9
      unfold reedsolomon_matrix_Augment.l2
      repeat' first
      | (with_reducible exact ih0 _ _ _ _ _ _)
      | (with_reducible exact ih1 _ _ _ _ _ _ _ _ _)
      | (with_reducible exact ih2 _ _ _ _ _ _ _ _ _ _)
      | (with_reducible exact reedsolomon_newMatrix.mono _ _ _)
      | (with_reducible exact LeO.refl _)
      | (with_reducible exact LeO.none _)
      | (with_reducible refine LeO.ite ?_ ?_)
      | (with_reducible refine LeO.bind ?_ (fun _ => ?_))
      | exact ih0 _ _ _ _ _ _
      | exact ih1 _ _ _ _ _ _ _ _ _
      | exact ih2 _ _ _ _ _ _ _ _ _ _
      | exact reedsolomon_newMatrix.mono _ _ _
      | exact LeO.none _
      | refine LeO.ite ?_ ?_
      | refine LeO.bind ?_ (fun _ => ?_)
theorem reedsolomon_matrix_Augment.mono : ∀ a0 a1 k, LeO (reedsolomon_matrix_Augment.f k a0 a1) (reedsolomon_matrix_Augment.f (k + 1) a0 a1) := by
  intro a0 a1 k
  obtain ⟨ih0, ih1, ih2⟩ := reedsolomon_matrix_Augment.mono_l k
  unfold reedsolomon_matrix_Augment.f
  repeat' first
      | (with_reducible exact ih0 _ _ _ _ _ _)
      | (with_reducible exact ih1 _ _ _ _ _ _ _ _ _)
      | (with_reducible exact ih2 _ _ _ _ _ _ _ _ _ _)
      | (with_reducible exact reedsolomon_newMatrix.mono _ _ _)
      | (with_reducible exact LeO.refl _)
      | (with_reducible exact LeO.none _)
      | (with_reducible refine LeO.ite ?_ ?_)
      | (with_reducible refine LeO.bind ?_ (fun _ => ?_))
      | exact ih0 _ _ _ _ _ _
      | exact ih1 _ _ _ _ _ _ _ _ _
      | exact ih2 _ _ _ _ _ _ _ _ _ _
      | exact reedsolomon_newMatrix.mono _ _ _
      | exact LeO.none _
      | refine LeO.ite ?_ ?_
      | refine LeO.bind ?_ (fun _ => ?_)
def reedsolomon_matrix_Augment.T3 : Bool × List (List Nat × List Nat) := (true, [([], []), ([0], [0]), ([], []), ([2], [2]), ([3], [3]), ([4], [4]), ([], []), ([6], [6]), ([7], [7]), ([8], [8]), ([5, 9], [5, 9]), ([1, 10], [1, 10]), ([11], [11]), ([12], [12]), ([12], [12]), ([13, 11, 0, 1, 2, 3, 4, 5, 6, 7, 8, 9, 10, 11, 12, 13], [13]), ([14, 15, 0, 1, 2, 3, 4, 5, 6, 7, 8, 9, 10, 11, 12, 13, 14, 15], [14])])
def reedsolomon_matrix_Augment.B3 : List Nat := [0, 1, 0, 4, 12, 28, 0, 64, 192, 448, 1020, 2047, 4095, 8191, 8191, 16383, 65535]
theorem reedsolomon_matrix_Augment.tab3 : rtab .any (opsOf Tryd.f50 3) = reedsolomon_matrix_Augment.T3 := by kernel_rfl
theorem reedsolomon_matrix_Augment.bits3 : waitsOk reedsolomon_matrix_Augment.T3.2 reedsolomon_matrix_Augment.B3 = true := by kernel_rfl
def reedsolomon_matrix_Augment.T10 : Bool × List (List Nat × List Nat) := (true, [([], []), ([], []), ([0, 1], [0, 1]), ([2], [2]), ([], []), ([], []), ([], []), ([5, 6], [5, 6]), ([7], [7]), ([], []), ([8, 9], [8, 9]), ([10], [10]), ([3, 4, 0, 1, 2, 3, 4, 5, 6, 7, 8, 9, 10, 11], [3, 4]), ([12, 11, 0, 1, 2, 3, 4, 5, 6, 7, 8, 9, 10, 11], [11, 12])])
def reedsolomon_matrix_Augment.B10 : List Nat := [0, 0, 3, 7, 0, 0, 0, 96, 224, 0, 992, 2016, 4095, 8191]
theorem reedsolomon_matrix_Augment.tab10 : rtab .any (opsOf Tryd.f50 10) = reedsolomon_matrix_Augment.T10 := by kernel_rfl
theorem reedsolomon_matrix_Augment.bits10 : waitsOk reedsolomon_matrix_Augment.T10.2 reedsolomon_matrix_Augment.B10 = true := by kernel_rfl
def reedsolomon_matrix_Augment.T16 : Bool × List (List Nat × List Nat) := (true, [([], []), ([], []), ([0, 1], [0, 1]), ([2], [2]), ([], []), ([], []), ([4, 5], [4, 5]), ([], []), ([], []), ([7, 8], [7, 8]), ([9], [9]), ([], []), ([10, 11], [10, 11]), ([12], [12]), ([3, 6, 0, 1, 2, 3, 4, 5, 6, 7, 8, 9, 10, 11, 12, 13], [3, 6]), ([14, 13, 0, 1, 2, 3, 4, 5, 6, 7, 8, 9, 10, 11, 12, 13], [13, 14])])
def reedsolomon_matrix_Augment.B16 : List Nat := [0, 0, 3, 7, 0, 0, 48, 0, 0, 384, 896, 0, 3968, 8064, 16383, 32767]
theorem reedsolomon_matrix_Augment.tab16 : rtab .any (opsOf Tryd.f50 16) = reedsolomon_matrix_Augment.T16 := by kernel_rfl
theorem reedsolomon_matrix_Augment.bits16 : waitsOk reedsolomon_matrix_Augment.T16.2 reedsolomon_matrix_Augment.B16 = true := by kernel_rfl
set_option maxHeartbeats 8000000 in
set_option maxRecDepth 100000 in
theorem reedsolomon_matrix_Augment.calls (k : Nat) (A0 : Option Addr) (c0 : Nat) (l0 : List (List Int)) (A1 : Option Addr) (c1 : Nat) (l1 : List (List Int)) (r1 : List (List Int)) (r2 : Option Int) (w : World) (hGE : GlobE w) (hr0 : Kd.C (Kd.slice 5 (Kd.int .u8)) w A0 l0.length l0) (hc0 : l0.length ≤ c0) (hr1 : Kd.C (Kd.slice 5 (Kd.int .u8)) w A1 l1.length l1) (hc1 : l1.length ≤ c1) (h : reedsolomon_matrix_Augment.f k l0 l1 = some (r1, r2)) :
    Calls Tryd.prog 50 #[.slice A0 l0.length c0, .slice A1 l1.length c1] w fun e w' => ∃ v0_ : Value, ∃ q1_ : Addr, e = .returned (.tuple #[v0_, errW q1_ r2]) ∧ Kd.S (Kd.slice 5 (Kd.int .u8)) 22 w' w.heap.size (fun _ => True) v0_ r1 ∧ Below w.heap.size w w' := by
  have HR0 := Aside0.mk hr0
  have HC0 := Aside0.mk hc0
  clear hr0 hc0
  have HR1 := Aside0.mk hr1
  have HC1 := Aside0.mk hc1
  clear hr1 hc1
  have HB := Aside0.mk (Below.refl w.heap.size w)
  have H : (if (l0.length : Int) = (l1.length : Int) then (if 0 < (l0.length : Int) then (if 0 < (l1.length : Int) then ((reedsolomon_newMatrix.f k (l0.length : Int) (wrap64 (((rd_L1 l0 0).length : Int) + ((rd_L1 l1 0).length : Int)))).bind fun bt124 => (reedsolomon_matrix_Augment.l0 k l0 l1 bt124.1 l0 (l0.length : Int) 0)) else (none)) else (none)) else (some (([] : List (List Int)), some 0))) = some (r1, r2) := h
  clear h
  by_cases c3 : (l0.length : Int) = (l1.length : Int)
  · rw [if_pos c3] at H
    have c3b0 : ((l0.length : Int) == (l1.length : Int)) = true := beq_iff_eq.mpr c3
    have c3b1 : ((l0.length : Int) != (l1.length : Int)) = false := bne_eq_false_iff_eq.mpr c3
    have c3b2 : (l0.length == l1.length) = true := by first | simpa using c3 | (simp at c3 ⊢; omega)
    clear c3
    by_cases c4 : 0 < (l0.length : Int)
    · rw [if_pos c4] at H
      have c4b0 : decide (0 < (l0.length : Int)) = true := decide_eq_true c4
      have c4b1 : decide (0 < l0.length) = true := decide_eq_true (by omega)
      clear c4
      by_cases c5 : 0 < (l1.length : Int)
      · rw [if_pos c5] at H
        have c5b0 : decide (0 < (l1.length : Int)) = true := decide_eq_true c5
        have c5b1 : decide (0 < l1.length) = true := decide_eq_true (by omega)
        clear c5
        replace H := Option.bind_eq_some_iff.mp H
        obtain ⟨⟨t124, t125⟩, A60, H⟩ := H
        replace H : (reedsolomon_matrix_Augment.l0 k l0 l1 t124 l0 (l0.length : Int) 0) = some (r1, r2) := H
        have A6 := Aside0.mk A60
        clear A60
        have H' := Aside0.mk H
        clear H
        go_enter Tryd.func50, Tryd.ntmps50
        try go_wp2
        have n0_ := Aside0.mk (below_drew1 HB.out)
        clear HB
        have HB := n0_
        clear n0_
        have p122 : 0 ≤ (0 : Int) := (by omega)
        have q122 : 0 < (l0.length : Int) := of_decide_eq_true (by first | (with_reducible assumption) | assumption)
        obtain ⟨ad122, A122_0, c122_0, e122, hx122_0, hl122_0, hi122_0⟩ := at_L1 HR0.out 0 p122 q122
        have hw122_0 := hx122_0
        (try rw [show ((0 : Int)).toNat = 0 from rfl] at hw122_0)
        (try rw [show 0 * 1 = 0 from rfl] at hw122_0)
        (try rw [Addr.add_zero'] at hw122_0)
        cases e122
        have qi122 : (0 < l0.length) = True := eq_true (by omega)
        (try rw [show ((0 : Int)).toNat = 0 from rfl] at hx122_0)
        (try rw [Addr.add_zero'] at hx122_0)
        (try replace hx122_0 := (HB.out.cell (World.block_lt_of_cell? w _ hx122_0)).trans hx122_0)
        have HR122_0 := Aside0.mk hi122_0
        have HC122_0 := Aside0.mk hl122_0
        clear hi122_0 hl122_0
        replace p122 := eq_true p122
        replace q122 := eq_true q122
        have p123 : 0 ≤ (0 : Int) := (by omega)
        have q123 : 0 < (l1.length : Int) := of_decide_eq_true (by first | (with_reducible assumption) | assumption)
        obtain ⟨ad123, A123_0, c123_0, e123, hx123_0, hl123_0, hi123_0⟩ := at_L1 HR1.out 0 p123 q123
        have hw123_0 := hx123_0
        (try rw [show ((0 : Int)).toNat = 0 from rfl] at hw123_0)
        (try rw [show 0 * 1 = 0 from rfl] at hw123_0)
        (try rw [Addr.add_zero'] at hw123_0)
        cases e123
        have qi123 : (0 < l1.length) = True := eq_true (by omega)
        (try rw [show ((0 : Int)).toNat = 0 from rfl] at hx123_0)
        (try rw [Addr.add_zero'] at hx123_0)
        (try replace hx123_0 := (HB.out.cell (World.block_lt_of_cell? w _ hx123_0)).trans hx123_0)
        have HR123_0 := Aside0.mk hi123_0
        have HC123_0 := Aside0.mk hl123_0
        clear hi123_0 hl123_0
        replace p123 := eq_true p123
        replace q123 := eq_true q123
        refine start_ (n := 17) (S := fun w' => w'.cell? ad122 = some (.slice A122_0 (rd_L1 l0 0).length c122_0) ∧ w'.cell? ad123 = some (.slice A123_0 (rd_L1 l1 0).length c123_0)) (ds := []) #[false, false, false, false, false, false, false, false, false, false, false, false, false, false, false, false, false] (by kernel_rfl) rfl rfl ⟨((HB.out.cell (World.block_lt_of_cell? w _ hw122_0)).trans hw122_0), ((HB.out.cell (World.block_lt_of_cell? w _ hw123_0)).trans hw123_0)⟩ (fun hHeld => ?_); refine with_tabW reedsolomon_matrix_Augment.tab3 reedsolomon_matrix_Augment.bits3 (fun HT_ HW_ => ?_)
        generalize w.drew = w7 at HB HR122_0 HR123_0 hx122_0 hx123_0 hHeld ⊢
        refine pure_ (i := 0) (N := some 20) (v := ?_) (a' := ?_) #[true, false, false, false, false, false, false, false, false, false, false, false, false, false, false, false, false] rfl rfl (any_of HT_.out (by kernel_rfl)) (fun _ _ _ h => h) (Or.inl ⟨by rfl, ?_⟩) ?_ ?_
        rotate_left
        · intro w'
          go_simp
          with_reducible rfl
        rotate_left
        · simp only [Act.put, List.setIfInBounds_toArray, List.set_cons_zero, List.set_cons_succ, i64_w, i32_w]
          rfl
        refine pure_ (i := 1) (N := some 21) (v := ?_) (a' := ?_) #[true, true, false, false, false, false, false, false, false, false, false, false, false, false, false, false, false] rfl rfl (any_of HT_.out (by kernel_rfl)) (fun _ _ _ h => h) (Or.inl ⟨by rfl, ?_⟩) ?_ ?_
        rotate_left
        · intro w'
          go_simp
          with_reducible rfl
        rotate_left
        · simp only [Act.put, List.setIfInBounds_toArray, List.set_cons_zero, List.set_cons_succ, i64_w, i32_w]
          rfl
        refine pure_ (i := 2) (N := some 22) (v := ?_) (a' := ?_) #[true, true, true, false, false, false, false, false, false, false, false, false, false, false, false, false, false] rfl rfl (any_of HT_.out (by kernel_rfl)) (fun _ _ _ h => h) (Or.inl ⟨by rfl, ?_⟩) ?_ ?_
        rotate_left
        · intro w'
          go_simp
          with_reducible rfl
        rotate_left
        · simp only [Act.put, List.setIfInBounds_toArray, List.set_cons_zero, List.set_cons_succ, i64_w, i32_w]
          rfl
        refine pure_ (i := 3) (N := some 23) (v := ?_) (a' := ?_) #[true, true, true, true, false, false, false, false, false, false, false, false, false, false, false, false, false] rfl rfl (any_of HT_.out (by kernel_rfl)) (fun _ _ _ h => h) (Or.inl ⟨by rfl, ?_⟩) ?_ ?_
        rotate_left
        · intro w'
          go_simp
          with_reducible rfl
        rotate_left
        · simp only [Act.put, List.setIfInBounds_toArray, List.set_cons_zero, List.set_cons_succ, i64_w, i32_w]
          rfl
        refine pure_ (i := 6) (N := some 26) (v := ?_) (a' := ?_) #[true, true, true, true, false, false, true, false, false, false, false, false, false, false, false, false, false] rfl rfl (any_of HT_.out (by kernel_rfl)) (fun _ _ _ h => h) (Or.inl ⟨by rfl, ?_⟩) ?_ ?_
        rotate_left
        · intro w'
          go_simp
          with_reducible rfl
        rotate_left
        · simp only [Act.put, List.setIfInBounds_toArray, List.set_cons_zero, List.set_cons_succ, i64_w, i32_w]
          rfl
        refine pure_ (i := 7) (N := some 27) (v := ?_) (a' := ?_) #[true, true, true, true, false, false, true, true, false, false, false, false, false, false, false, false, false] rfl rfl (any_of HT_.out (by kernel_rfl)) (fun _ _ _ h => h) (Or.inl ⟨by rfl, ?_⟩) ?_ ?_
        rotate_left
        · intro w'
          go_simp
          with_reducible rfl
        rotate_left
        · simp only [Act.put, List.setIfInBounds_toArray, List.set_cons_zero, List.set_cons_succ, i64_w, i32_w]
          rfl
        refine take_ (i := 4) (N := some 24) (v := ?_) (a' := ?_) #[true, true, true, true, true, false, true, true, false, false, false, false, false, false, false, false, false] rfl rfl (take_ofW HT_.out HW_.out (by kernel_rfl)) (fun _ _ _ h => h) (Or.inl ⟨by rfl, ?_⟩) hHeld ?_ ?_
        rotate_left
        · rintro w' ⟨s0, s1⟩
          go_simp
          with_reducible rfl
        rotate_left
        · simp only [Act.put, List.setIfInBounds_toArray, List.set_cons_zero, List.set_cons_succ, i64_w, i32_w]
          rfl
        refine pure_ (i := 5) (N := some 25) (v := ?_) (a' := ?_) #[true, true, true, true, true, true, true, true, false, false, false, false, false, false, false, false, false] rfl rfl (any_of HT_.out (by kernel_rfl)) (fun _ _ _ h => h) (Or.inl ⟨by rfl, ?_⟩) ?_ ?_
        rotate_left
        · intro w'
          go_simp
          with_reducible rfl
        rotate_left
        · simp only [Act.put, List.setIfInBounds_toArray, List.set_cons_zero, List.set_cons_succ, i64_w, i32_w]
          rfl
        refine take_ (i := 8) (N := some 28) (v := ?_) (a' := ?_) #[true, true, true, true, true, true, true, true, true, false, false, false, false, false, false, false, false] rfl rfl (take_ofW HT_.out HW_.out (by kernel_rfl)) (fun _ _ _ h => h) (Or.inl ⟨by rfl, ?_⟩) hHeld ?_ ?_
        rotate_left
        · rintro w' ⟨s0, s1⟩
          go_simp
          with_reducible rfl
        rotate_left
        · simp only [Act.put, List.setIfInBounds_toArray, List.set_cons_zero, List.set_cons_succ, i64_w, i32_w]
          rfl
        refine pure_ (i := 9) (N := some 29) (v := ?_) (a' := ?_) #[true, true, true, true, true, true, true, true, true, true, false, false, false, false, false, false, false] rfl rfl (any_of HT_.out (by kernel_rfl)) (fun _ _ _ h => h) (Or.inl ⟨by rfl, ?_⟩) ?_ ?_
        rotate_left
        · intro w'
          go_simp
          with_reducible rfl
        rotate_left
        · simp only [Act.put, List.setIfInBounds_toArray, List.set_cons_zero, List.set_cons_succ, i64_w, i32_w]
          rfl
        refine pure_ (i := 10) (N := some 30) (v := ?_) (a' := ?_) #[true, true, true, true, true, true, true, true, true, true, true, false, false, false, false, false, false] rfl rfl (any_of HT_.out (by kernel_rfl)) (fun _ _ _ h => h) (Or.inl ⟨by rfl, ?_⟩) ?_ ?_
        rotate_left
        · intro w'
          go_simp
          with_reducible rfl
        rotate_left
        · simp only [Act.put, List.setIfInBounds_toArray, List.set_cons_zero, List.set_cons_succ, i64_w, i32_w]
          rfl
        refine one_ (i := 11) (N := some 31) #[true, true, true, true, true, true, true, true, true, true, true, true, false, false, false, false, false] rfl rfl (one_of HT_.out (by kernel_rfl)) (by decide) (fun K hK => ?_)
        refine goes_ Tryd.func58 (by kernel_rfl) rfl #[.int .i64 (l0.length : Int), .int .i64 (wrap64 (((rd_L1 l0 0).length : Int) + ((rd_L1 l1 0).length : Int)))] (by rfl) rfl rfl (by (try simp only [List.map_toArray, List.map_cons, List.map_nil]); first | done | rfl | (simp only [List.length_drop, List.length_take]; rfl)) ?_
        with_reducible refine (reedsolomon_newMatrix.calls k (l0.length : Int) (wrap64 (((rd_L1 l0 0).length : Int) + ((rd_L1 l1 0).length : Int))) t124 t125 _ ?side1 A6.out).mono ?_
        (case side1 => exact GlobE.below hGE (by repeat (first | (with_reducible first | exact HB.out | apply below_alloc | apply pw_below_drewN | apply below_drew1) | exact HB.out)))
        rintro e w8 ⟨v126, qe128, rfl, ho0, hb⟩
        refine ⟨_, rfl, ?_⟩
        have n0_ := Aside0.mk (Kd.S_lower ho0 (below_size (by repeat (first | (with_reducible first | exact HB.out | apply below_alloc | apply pw_below_drewN | apply below_drew1) | exact HB.out))))
        have n1_ := Aside0.mk (below_step (by repeat (first | (with_reducible first | exact HB.out | apply below_alloc | apply pw_below_drewN | apply below_drew1) | exact HB.out)) hb)
        clear HB
        have HO127 := n0_
        have HB := n1_
        clear n0_ n1_
        (try clear hb)
        (try clear hb2)
        (try clear hk)
        (try clear hi)
        (try clear ho0)
        (try simp only [errW_none, errW_some])
        refine hK.out _ _ ⟨((HB.out.cell (World.block_lt_of_cell? w _ hw122_0)).trans hw122_0), ((HB.out.cell (World.block_lt_of_cell? w _ hw123_0)).trans hw123_0)⟩ (fun hHeld => ?_)
        clear hK K
        refine norm_ (a' := ?_) ?_ ?_
        rotate_left
        · show Act.put _ (some 31) _ = _
          simp only [Act.put, List.setIfInBounds_toArray, List.set_cons_zero, List.set_cons_succ, i64_w, i32_w]
          rfl
        refine pure_ (i := 12) (N := some 19) (v := ?_) (a' := ?_) #[true, true, true, true, true, true, true, true, true, true, true, true, true, false, false, false, false] rfl rfl (any_of HT_.out (by kernel_rfl)) (fun _ _ _ h => h) (Or.inl ⟨by rfl, ?_⟩) ?_ ?_
        rotate_left
        · intro w'
          go_simp
          with_reducible rfl
        rotate_left
        · simp only [Act.put, List.setIfInBounds_toArray, List.set_cons_zero, List.set_cons_succ, i64_w, i32_w]
          rfl
        refine pure_ (i := 13) (N := some 32) (v := ?_) (a' := ?_) #[true, true, true, true, true, true, true, true, true, true, true, true, true, true, false, false, false] rfl rfl (any_of HT_.out (by kernel_rfl)) (fun _ _ _ h => h) (Or.inl ⟨by rfl, ?_⟩) ?_ ?_
        rotate_left
        · intro w'
          go_simp
          with_reducible rfl
        rotate_left
        · simp only [Act.put, List.setIfInBounds_toArray, List.set_cons_zero, List.set_cons_succ, i64_w, i32_w]
          rfl
        refine pure_ (i := 14) (N := some 33) (v := ?_) (a' := ?_) #[true, true, true, true, true, true, true, true, true, true, true, true, true, true, true, false, false] rfl rfl (any_of HT_.out (by kernel_rfl)) (fun _ _ _ h => h) (Or.inl ⟨by rfl, ?_⟩) ?_ ?_
        rotate_left
        · intro w'
          go_simp
          with_reducible rfl
        rotate_left
        · simp only [Act.put, List.setIfInBounds_toArray, List.set_cons_zero, List.set_cons_succ, i64_w, i32_w]
          rfl
        refine pure_ (i := 15) (N := some 6) (v := ?_) (a' := ?_) #[true, true, true, true, true, true, true, true, true, true, true, true, true, true, true, true, false] rfl rfl (any_of HT_.out (by kernel_rfl)) (fun _ _ _ h => h) (Or.inl ⟨by rfl, ?_⟩) ?_ ?_
        rotate_left
        · intro w'
          go_simp
          with_reducible rfl
        rotate_left
        · simp only [Act.put, List.setIfInBounds_toArray, List.set_cons_zero, List.set_cons_succ, i64_w, i32_w]
          rfl
        refine pure_ (i := 16) (N := some 7) (v := ?_) (a' := ?_) #[true, true, true, true, true, true, true, true, true, true, true, true, true, true, true, true, true] rfl rfl (any_of HT_.out (by kernel_rfl)) (fun _ _ _ h => h) (Or.inl ⟨by rfl, ?_⟩) ?_ ?_
        rotate_left
        · intro w'
          go_simp
          with_reducible rfl
        rotate_left
        · simp only [Act.put, List.setIfInBounds_toArray, List.set_cons_zero, List.set_cons_succ, i64_w, i32_w]
          rfl
        refine done_ (done_of HT_.out (by kernel_rfl)) ?_
        try go_wp2
        try simp only [Act.put, List.setIfInBounds_toArray, List.set_cons_zero, List.set_cons_succ]
        go_loopg [36] k (fun kq v36 w' => ∃ (x6_1 : List (List Int)) (x36_1 : Int), v36 = .int .i64 x36_1 ∧ Aside0 (reedsolomon_matrix_Augment.l0 kq l0 l1 x6_1 l0 (l0.length : Int) x36_1 = some (r1, r2)) ∧ Aside0 (kq ≤ k) ∧ Aside0 (Kd.S (Kd.slice 5 (Kd.int .u8)) 22 w' w.heap.size (fun _ => True) v126 x6_1) ∧ Aside0 (Below w.heap.size w w'))
        case atStart => exact ⟨(t124), (0), (by first | rfl | (simp; done) | (simp [*]; done)), H', ⟨Nat.le_refl _⟩, ⟨by (with_reducible repeat (first | apply Kd.S_alloc | apply Kd.S_drewN | apply Kd.S_drew)); exact HO127.out⟩, ⟨by repeat (first | (with_reducible first | exact HB.out | apply below_alloc | apply pw_below_drewN | apply below_drew1) | exact HB.out)⟩⟩
        case round =>
          clear H'
          try clear c1
          try clear p1
          try clear q1
          try clear hx1
          try clear qi1
          try clear p2
          try clear c3
          try clear c3b0
          try clear c3b1
          try clear c3b2
          try clear c4
          try clear c4b0
          try clear c4b1
          try clear c5
          try clear c5b0
          try clear c5b1
          try clear p6
          try clear hx122_0
          try clear hx123_0
          try clear p122
          try clear p123
          try clear q122
          try clear q123
          obtain ⟨x6_1, x36_1, rfl, HA, HK1, HO_6, HB⟩ := hrel
          cases gk with
          | zero => exact absurd HA.out (by simp [reedsolomon_matrix_Augment.l0])
          | succ k1 =>
            have H := HA.out
            clear HA
            simp only [reedsolomon_matrix_Augment.l0] at H
            by_cases c9 : x36_1 < (l0.length : Int)
            · rw [if_pos c9] at H
              have c9b0 : decide (x36_1 < (l0.length : Int)) = true := decide_eq_true c9
              clear c9
              by_cases c10 : 0 ≤ x36_1
              · rw [if_pos c10] at H
                have c10b0 : decide (0 ≤ x36_1) = true := decide_eq_true c10
                clear c10
                by_cases c11 : x36_1 < (l0.length : Int)
                · rw [if_pos c11] at H
                  have c11b0 : decide (x36_1 < (l0.length : Int)) = true := decide_eq_true c11
                  clear c11
                  have H' := Aside0.mk H
                  clear H
                  have p129 : 0 ≤ (x36_1 : Int) := of_decide_eq_true (by first | (with_reducible assumption) | assumption)
                  have q129 : x36_1 < (l0.length : Int) := of_decide_eq_true (by first | (with_reducible assumption) | assumption)
                  obtain ⟨ad129, A129_0, c129_0, e129, hx129_0, hl129_0, hi129_0⟩ := at_L1 HR0.out x36_1 p129 q129
                  obtain rfl : ad122 = ad129 := (by injection e129)
                  (try replace hx129_0 := (HB.out.cell (World.block_lt_of_cell? w _ hx129_0)).trans hx129_0)
                  have HR129_0 := Aside0.mk hi129_0
                  have HC129_0 := Aside0.mk hl129_0
                  clear hi129_0 hl129_0
                  replace p129 := eq_true p129
                  replace q129 := eq_true q129
                  go_wp2
                  try simp only [Act.put, List.setIfInBounds_toArray, List.set_cons_zero, List.set_cons_succ]
                  go_loopg [43] k1 (fun kq v43 w' => ∃ (x6_2 : List (List Int)) (x43_2 : Int), v43 = .int .i64 x43_2 ∧ Aside0 (reedsolomon_matrix_Augment.l1 kq l0 l1 x6_2 x36_1 l0 (l0.length : Int) x36_1 ((rd_L1 l0 x36_1).length : Int) x43_2 = some (r1, r2)) ∧ Aside0 (kq ≤ k1) ∧ Aside0 (Kd.S (Kd.slice 5 (Kd.int .u8)) 22 w' w.heap.size (fun _ => True) v126 x6_2) ∧ Aside0 (Below w.heap.size w w'))
                  case atStart => exact ⟨(x6_1), (0), (by first | rfl | (simp; done) | (simp [*]; done)), H', ⟨Nat.le_refl _⟩, ⟨by (with_reducible repeat (first | apply Kd.S_alloc | apply Kd.S_drewN | apply Kd.S_drew)); exact HO_6.out⟩, ⟨by repeat (first | (with_reducible first | exact HB.out | apply below_alloc | apply pw_below_drewN | apply below_drew1) | exact HB.out)⟩⟩
                  case round =>
                    clear H'
                    try clear c1
                    try clear p1
                    try clear q1
                    try clear hx1
                    try clear qi1
                    try clear p2
                    try clear c3
                    try clear c3b0
                    try clear c3b1
                    try clear c3b2
                    try clear c4
                    try clear c4b0
                    try clear c4b1
                    try clear c5
                    try clear c5b0
                    try clear c5b1
                    try clear p6
                    try clear c9
                    try clear c9b0
                    try clear c10
                    try clear c10b0
                    try clear c11
                    try clear c11b0
                    try clear hx122_0
                    try clear hx123_0
                    try clear hx129_0
                    try clear p1
                    try clear p122
                    try clear p123
                    try clear p129
                    try clear p2
                    try clear p6
                    try clear q1
                    try clear q122
                    try clear q123
                    try clear q129
                    obtain ⟨x6_2, x43_2, rfl, HA, HK2, HO_6, HB⟩ := hrel
                    cases gk with
                    | zero => exact absurd HA.out (by simp [reedsolomon_matrix_Augment.l1])
                    | succ k2 =>
                      have H := HA.out
                      clear HA
                      simp only [reedsolomon_matrix_Augment.l1] at H
                      by_cases c12 : x43_2 < ((rd_L1 l0 x36_1).length : Int)
                      · rw [if_pos c12] at H
                        have c12b0 : decide (x43_2 < ((rd_L1 l0 x36_1).length : Int)) = true := decide_eq_true c12
                        clear c12
                        by_cases c13 : 0 ≤ x36_1
                        · rw [if_pos c13] at H
                          have c13b0 : decide (0 ≤ x36_1) = true := decide_eq_true c13
                          clear c13
                          by_cases c14 : x36_1 < (x6_2.length : Int)
                          · rw [if_pos c14] at H
                            have c14b0 : decide (x36_1 < (x6_2.length : Int)) = true := decide_eq_true c14
                            clear c14
                            by_cases c15 : x36_1 < (l0.length : Int)
                            · rw [if_pos c15] at H
                              have c15b0 : decide (x36_1 < (l0.length : Int)) = true := decide_eq_true c15
                              clear c15
                              by_cases c16 : 0 ≤ x43_2
                              · rw [if_pos c16] at H
                                have c16b0 : decide (0 ≤ x43_2) = true := decide_eq_true c16
                                clear c16
                                by_cases c17 : x43_2 < ((rd_L1 l0 x36_1).length : Int)
                                · rw [if_pos c17] at H
                                  have c17b0 : decide (x43_2 < ((rd_L1 l0 x36_1).length : Int)) = true := decide_eq_true c17
                                  clear c17
                                  by_cases c18 : x43_2 < ((rd_L1 x6_2 x36_1).length : Int)
                                  · rw [if_pos c18] at H
                                    have c18b0 : decide (x43_2 < ((rd_L1 x6_2 x36_1).length : Int)) = true := decide_eq_true c18
                                    clear c18
                                    obtain ⟨y133, hy133⟩ : ∃ y_ : List Int, y_ = ((rd_L1 x6_2 x36_1).set (x43_2 : Int).toNat (rd (rd_L1 l0 x36_1) x43_2)) := ⟨_, rfl⟩
                                    replace H : (reedsolomon_matrix_Augment.l1 k2 l0 l1 (x6_2.set (x36_1 : Int).toNat y133) x36_1 l0 (l0.length : Int) x36_1 ((rd_L1 l0 x36_1).length : Int) (wrap64 (x43_2 + 1))) = some (r1, r2) := by first | (rw [hy133]; with_reducible exact H) | (have H2_ := (Option.bind_some _ _).symm.trans H; rw [hy133]; with_reducible exact H2_) | (have H2_ := (Option.bind_some _ _).symm.trans H; with_reducible exact H2_) | with_reducible exact H | (rw [hy133]; exact H) | exact H
                                    have Ny133 := Aside0.mk hy133
                                    clear hy133
                                    obtain ⟨y135, hy135⟩ : ∃ y_ : List (List Int), y_ = (x6_2.set (x36_1 : Int).toNat y133) := ⟨_, rfl⟩
                                    replace H : (reedsolomon_matrix_Augment.l1 k2 l0 l1 y135 x36_1 l0 (l0.length : Int) x36_1 ((rd_L1 l0 x36_1).length : Int) (wrap64 (x43_2 + 1))) = some (r1, r2) := by first | (rw [hy135]; with_reducible exact H) | (have H2_ := (Option.bind_some _ _).symm.trans H; rw [hy135]; with_reducible exact H2_) | (have H2_ := (Option.bind_some _ _).symm.trans H; with_reducible exact H2_) | with_reducible exact H | (rw [hy135]; exact H) | exact H
                                    have Ny135 := Aside0.mk hy135
                                    clear hy135
                                    have H' := Aside0.mk H
                                    clear H
                                    try go_wp2
                                    have n0_ := Aside0.mk (Kd.S_drew HO_6.out)
                                    have n1_ := Aside0.mk (below_drew1 HB.out)
                                    clear HO_6
                                    clear HB
                                    have HO_6 := n0_
                                    have HB := n1_
                                    clear n0_ n1_
                                    obtain ⟨Ao21, co21, eo21⟩ := Kd.S_slice HO_6.out
                                    (first | subst eo21 | (injection eo21 with f1_ f2_ f3_; have f4_ := f1_.symm; have f5_ := f3_.symm; clear f1_ f2_ f3_; subst f4_; subst f5_))
                                    have p130 : 0 ≤ (x36_1 : Int) := of_decide_eq_true (by first | (with_reducible assumption) | assumption)
                                    have q130 : x36_1 < (x6_2.length : Int) := of_decide_eq_true (by first | (with_reducible assumption) | assumption)
                                    obtain ⟨ad130, A130_0, c130_0, e130, hx130_0, hl130_0, hi130_0⟩ := at_L1 (Kd.S_reads' HO_6.out).2.2 x36_1 p130 q130
                                    cases e130
                                    obtain ⟨ce130, hce130, hMe130, hcc130⟩ := Kd.S_get HO_6.out [] x36_1 p130 (by first | exact q130 | exact of_decide_eq_true (by first | (with_reducible assumption) | assumption) | (have e_ := (Kd.S_reads' HO_6.out).1; omega))
                                    obtain ⟨ve130_0, rfl, ge130_0⟩ := hMe130
                                    have hv130_0 := hcc130 0 _ rfl
                                    rw [Nat.add_zero, show ((Kd.slice 5 (Kd.int .u8))).sz = 1 from rfl, Nat.mul_one] at hv130_0
                                    replace hv130_0 := Option.some.inj (hv130_0.symm.trans hx130_0)
                                    rw [hv130_0] at ge130_0
                                    have HL130_0 := Aside0.mk (show Kd.R (Kd.int .u8) 5 _ _ _ _ (rd_L1 x6_2 x36_1) from ge130_0)
                                    clear hv130_0 ge130_0
                                    have HX130_0 := Aside0.mk hx130_0
                                    clear hcc130 hce130
                                    have HR130_0 := Aside0.mk hi130_0
                                    have HC130_0 := Aside0.mk hl130_0
                                    clear hi130_0 hl130_0
                                    replace p130 := eq_true p130
                                    replace q130 := eq_true q130
                                    have p131 : 0 ≤ (x36_1 : Int) := of_decide_eq_true (by first | (with_reducible assumption) | assumption)
                                    have q131 : x36_1 < (l0.length : Int) := of_decide_eq_true (by first | (with_reducible assumption) | assumption)
                                    obtain ⟨ad131, A131_0, c131_0, e131, hx131_0, hl131_0, hi131_0⟩ := at_L1 HR0.out x36_1 p131 q131
                                    have hw131_0 := hx131_0
                                    obtain rfl : ad122 = ad131 := (by injection e131)
                                    (try replace hx131_0 := (HB.out.cell (World.block_lt_of_cell? w _ hx131_0)).trans hx131_0)
                                    have HR131_0 := Aside0.mk hi131_0
                                    have HC131_0 := Aside0.mk hl131_0
                                    clear hi131_0 hl131_0
                                    replace p131 := eq_true p131
                                    replace q131 := eq_true q131
                                    have p132 : 0 ≤ (x43_2 : Int) := of_decide_eq_true (by first | (with_reducible assumption) | assumption)
                                    have q132 : x43_2 < ((rd_L1 l0 x36_1).length : Int) := of_decide_eq_true (by first | (with_reducible assumption) | assumption)
                                    obtain ⟨ad132, e132, hx132_0⟩ := Kd.at_int HR131_0.out x43_2 p132 q132
                                    have hw132_0 := hx132_0
                                    cases e132
                                    (try replace hx132_0 := (HB.out.cell (World.block_lt_of_cell? w _ hx132_0)).trans hx132_0)
                                    replace p132 := eq_true p132
                                    replace q132 := eq_true q132
                                    have p19 : 0 ≤ (x43_2 : Int) := of_decide_eq_true (by first | (with_reducible assumption) | assumption)
                                    have q19 : (x43_2 : Int) < (((rd_L1 x6_2 x36_1).length : Int) : Int) := of_decide_eq_true (by first | (with_reducible assumption) | assumption)
                                    obtain ⟨go19, co19, eo19, gb19, gl19, cl19, HG19⟩ := Kd.R_form HL130_0.out (by omega)
                                    (first | cases eo19 | (injection eo19 with ea_ en_ ec_; (first | subst ea_ | (injection ea_ with ea_; subst ea_)); subst ec_; clear en_))
                                    have GB19 := Aside0.mk gb19
                                    have GG19 := Aside0.mk HG19
                                    clear gb19 gl19 HG19
                                    obtain ⟨hx19_0, hf19_0⟩ := Kd.R_celln 0 HL130_0.out (x43_2 : Int) p19 q19
                                    replace p19 := eq_true p19
                                    replace q19 := eq_true q19
                                    have hq22 : (x36_1 : Int) < (x6_2.length : Int) := (by have h_ : (x36_1 : Int) < ((x6_2.length : Int) : Int) := of_decide_eq_true (by first | (with_reducible assumption) | assumption); first | exact h_ | (have e_ := (Kd.S_reads' HO_6.out).1; omega) | simpa only [List.length_set, List.length_set] using h_)
                                    obtain ⟨oki22, ce22, hcl22, hM22, hcc22, hok22, hbk22⟩ := Kd.S_borrow HO_6.out [] (x36_1 : Int) (of_decide_eq_true (by first | (with_reducible assumption) | assumption)) hq22
                                    obtain ⟨ve22_0, rfl, ge22_0⟩ := hM22
                                    have hv22 := hcc22 0 _ rfl
                                    rw [Nat.add_zero, show ((Kd.slice 5 (Kd.int .u8))).sz = 1 from rfl, Nat.mul_one] at hv22
                                    replace hv22 := Option.some.inj (hv22.symm.trans HX130_0.out)
                                    subst hv22
                                    clear hcc22 hcl22
                                    replace ge22_0 := (show Kd.R (Kd.int .u8) 5 _ _ _ _ (rd_L1 x6_2 x36_1) from ge22_0)
                                    have HP22 := Kd.R_putg ge22_0 (x43_2 : Int) (rd (rd_L1 l0 x36_1) x43_2)
                                    rw [← Ny133.out] at HP22
                                    have HS22 := hbk22 HP22.2 (fun k_ e_ => by injection e_ with e_; subst e_; exact ge22_0.1 _ rfl) (x' := y133) (Kd.M_row HP22.1)
                                    rw [← Ny135.out] at HS22
                                    have HQ22 := Aside0.mk HS22
                                    clear HP22 HS22 hbk22 hok22
                                    refine start_ (n := 14) (S := fun w' => w'.cell? (ad130.add (x36_1).toNat) = some (.slice (some ⟨go19, 0, none⟩) (rd_L1 x6_2 x36_1).length c130_0) ∧ w'.cell? (ad122.add (x36_1).toNat) = some (.slice (some ad132) (rd_L1 l0 x36_1).length c131_0) ∧ w'.cell? (ad132.add (x43_2).toNat) = some (.int .u8 (rd (rd_L1 l0 x36_1) x43_2))) (ds := [13]) #[false, false, false, false, false, false, false, false, false, false, false, false, false, false] (by kernel_rfl) rfl rfl ⟨hx130_0, ((HB.out.cell (World.block_lt_of_cell? w _ hw131_0)).trans hw131_0), ((HB.out.cell (World.block_lt_of_cell? w _ hw132_0)).trans hw132_0)⟩ (fun hHeld => ?_); refine with_tabW reedsolomon_matrix_Augment.tab10 reedsolomon_matrix_Augment.bits10 (fun HT_ HW_ => ?_)
                                    generalize wr.drew = w20 at HO_6 HB GG19 HL130_0 HQ22 HR130_0 HR131_0 HX130_0 hf19_0 hx130_0 hx131_0 hx132_0 hx19_0 hHeld ⊢
                                    refine pure_ (i := 0) (N := some 46) (v := ?_) (a' := ?_) #[true, false, false, false, false, false, false, false, false, false, false, false, false, false] rfl rfl (any_of HT_.out (by kernel_rfl)) (fun _ _ _ h => h) (Or.inl ⟨by rfl, ?_⟩) ?_ ?_
                                    rotate_left
                                    · intro w'
                                      go_simp
                                      with_reducible rfl
                                    rotate_left
                                    · simp only [Act.put, List.setIfInBounds_toArray, List.set_cons_zero, List.set_cons_succ, i64_w, i32_w]
                                      rfl
                                    refine pure_ (i := 1) (N := some 47) (v := ?_) (a' := ?_) #[true, true, false, false, false, false, false, false, false, false, false, false, false, false] rfl rfl (any_of HT_.out (by kernel_rfl)) (fun _ _ _ h => h) (Or.inl ⟨by rfl, ?_⟩) ?_ ?_
                                    rotate_left
                                    · intro w'
                                      go_simp
                                      with_reducible rfl
                                    rotate_left
                                    · simp only [Act.put, List.setIfInBounds_toArray, List.set_cons_zero, List.set_cons_succ, i64_w, i32_w]
                                      rfl
                                    refine pure_ (i := 2) (N := some 48) (v := ?_) (a' := ?_) #[true, true, true, false, false, false, false, false, false, false, false, false, false, false] rfl rfl (any_of HT_.out (by kernel_rfl)) (fun _ _ _ h => h) (Or.inl ⟨by rfl, ?_⟩) ?_ ?_
                                    rotate_left
                                    · intro w'
                                      go_simp
                                      with_reducible rfl
                                    rotate_left
                                    · simp only [Act.put, List.setIfInBounds_toArray, List.set_cons_zero, List.set_cons_succ, i64_w, i32_w]
                                      rfl
                                    refine pure_ (i := 4) (N := some 50) (v := ?_) (a' := ?_) #[true, true, true, false, true, false, false, false, false, false, false, false, false, false] rfl rfl (any_of HT_.out (by kernel_rfl)) (fun _ _ _ h => h) (Or.inl ⟨by rfl, ?_⟩) ?_ ?_
                                    rotate_left
                                    · intro w'
                                      go_simp
                                      with_reducible rfl
                                    rotate_left
                                    · simp only [Act.put, List.setIfInBounds_toArray, List.set_cons_zero, List.set_cons_succ, i64_w, i32_w]
                                      rfl
                                    refine pure_ (i := 5) (N := some 51) (v := ?_) (a' := ?_) #[true, true, true, false, true, true, false, false, false, false, false, false, false, false] rfl rfl (any_of HT_.out (by kernel_rfl)) (fun _ _ _ h => h) (Or.inl ⟨by rfl, ?_⟩) ?_ ?_
                                    rotate_left
                                    · intro w'
                                      go_simp
                                      with_reducible rfl
                                    rotate_left
                                    · simp only [Act.put, List.setIfInBounds_toArray, List.set_cons_zero, List.set_cons_succ, i64_w, i32_w]
                                      rfl
                                    refine pure_ (i := 6) (N := some 52) (v := ?_) (a' := ?_) #[true, true, true, false, true, true, true, false, false, false, false, false, false, false] rfl rfl (any_of HT_.out (by kernel_rfl)) (fun _ _ _ h => h) (Or.inl ⟨by rfl, ?_⟩) ?_ ?_
                                    rotate_left
                                    · intro w'
                                      go_simp
                                      with_reducible rfl
                                    rotate_left
                                    · simp only [Act.put, List.setIfInBounds_toArray, List.set_cons_zero, List.set_cons_succ, i64_w, i32_w]
                                      rfl
                                    refine pure_ (i := 7) (N := some 53) (v := ?_) (a' := ?_) #[true, true, true, false, true, true, true, true, false, false, false, false, false, false] rfl rfl (any_of HT_.out (by kernel_rfl)) (fun _ _ _ h => h) (Or.inl ⟨by rfl, ?_⟩) ?_ ?_
                                    rotate_left
                                    · intro w'
                                      go_simp
                                      with_reducible rfl
                                    rotate_left
                                    · simp only [Act.put, List.setIfInBounds_toArray, List.set_cons_zero, List.set_cons_succ, i64_w, i32_w]
                                      rfl
                                    refine pure_ (i := 9) (N := some 55) (v := ?_) (a' := ?_) #[true, true, true, false, true, true, true, true, false, true, false, false, false, false] rfl rfl (any_of HT_.out (by kernel_rfl)) (fun _ _ _ h => h) (Or.inl ⟨by rfl, ?_⟩) ?_ ?_
                                    rotate_left
                                    · intro w'
                                      go_simp
                                      with_reducible rfl
                                    rotate_left
                                    · simp only [Act.put, List.setIfInBounds_toArray, List.set_cons_zero, List.set_cons_succ, i64_w, i32_w]
                                      rfl
                                    refine take_ (i := 3) (N := some 49) (v := ?_) (a' := ?_) #[true, true, true, true, true, true, true, true, false, true, false, false, false, false] rfl rfl (take_ofW HT_.out HW_.out (by kernel_rfl)) (fun _ _ _ h => h) (Or.inl ⟨by rfl, ?_⟩) hHeld ?_ ?_
                                    rotate_left
                                    · rintro w' ⟨s0, s1, s2⟩
                                      go_simp
                                      with_reducible rfl
                                    rotate_left
                                    · simp only [Act.put, List.setIfInBounds_toArray, List.set_cons_zero, List.set_cons_succ, i64_w, i32_w]
                                      rfl
                                    refine take_ (i := 8) (N := some 54) (v := ?_) (a' := ?_) #[true, true, true, true, true, true, true, true, true, true, false, false, false, false] rfl rfl (take_ofW HT_.out HW_.out (by kernel_rfl)) (fun _ _ _ h => h) (Or.inl ⟨by rfl, ?_⟩) hHeld ?_ ?_
                                    rotate_left
                                    · rintro w' ⟨s0, s1, s2⟩
                                      go_simp
                                      with_reducible rfl
                                    rotate_left
                                    · simp only [Act.put, List.setIfInBounds_toArray, List.set_cons_zero, List.set_cons_succ, i64_w, i32_w]
                                      rfl
                                    refine pure_ (i := 10) (N := some 56) (v := ?_) (a' := ?_) #[true, true, true, true, true, true, true, true, true, true, true, false, false, false] rfl rfl (any_of HT_.out (by kernel_rfl)) (fun _ _ _ h => h) (Or.inl ⟨by rfl, ?_⟩) ?_ ?_
                                    rotate_left
                                    · intro w'
                                      go_simp
                                      with_reducible rfl
                                    rotate_left
                                    · simp only [Act.put, List.setIfInBounds_toArray, List.set_cons_zero, List.set_cons_succ, i64_w, i32_w]
                                      rfl
                                    refine take_ (i := 11) (N := some 57) (v := ?_) (a' := ?_) #[true, true, true, true, true, true, true, true, true, true, true, true, false, false] rfl rfl (take_ofW HT_.out HW_.out (by kernel_rfl)) (fun _ _ _ h => h) (Or.inl ⟨by rfl, ?_⟩) hHeld ?_ ?_
                                    rotate_left
                                    · rintro w' ⟨s0, s1, s2⟩
                                      go_simp
                                      with_reducible rfl
                                    rotate_left
                                    · simp only [Act.put, List.setIfInBounds_toArray, List.set_cons_zero, List.set_cons_succ, i64_w, i32_w]
                                      rfl
                                    refine pure_ (i := 12) (N := some 58) (v := ?_) (a' := ?_) #[true, true, true, true, true, true, true, true, true, true, true, true, true, false] rfl rfl (any_of HT_.out (by kernel_rfl)) (fun _ _ _ h => h) (Or.inl ⟨by rfl, ?_⟩) ?_ ?_
                                    rotate_left
                                    · intro w'
                                      go_simp
                                      with_reducible rfl
                                    rotate_left
                                    · simp only [Act.put, List.setIfInBounds_toArray, List.set_cons_zero, List.set_cons_succ, i64_w, i32_w]
                                      rfl
                                    refine last_ (i := 13) (N := none) #[true, true, true, true, true, true, true, true, true, true, true, true, true, true] rfl rfl (one_of HT_.out (by kernel_rfl)) (by decide) (fun K hK => ?_)
                                    refine skip_ (w1 := ?_) (by rfl) rfl ?_ ?_
                                    rotate_left
                                    · go_simp
                                      rfl
                                    refine hK.out _ _ ?_
                                    clear hK K
                                    refine done_ (done_of HT_.out (by kernel_rfl)) ?_
                                    try go_wp2
                                    go_roundg k2
                                    case measure => have := HK1.out; have := HK2.out; omega
                                    case rel => exact ⟨(y135), (wrap64 (x43_2 + 1)), (by first | rfl | (simp; done) | (simp [*]; done)), H', ⟨by have := HK1.out; have := HK2.out; omega⟩, ⟨by (with_reducible repeat (first | apply Kd.S_alloc | apply Kd.S_drewN | apply Kd.S_drew)); exact HQ22.out⟩, ⟨by repeat (first | (with_reducible first | exact HB.out | apply below_alloc | apply pw_below_drewN | apply below_drew1 | refine below_set ?_ GB19.out) | exact HB.out)⟩⟩
                                  · rw [if_neg c18] at H
                                    exact absurd H (by simp)
                                · rw [if_neg c17] at H
                                  exact absurd H (by simp)
                              · rw [if_neg c16] at H
                                exact absurd H (by simp)
                            · rw [if_neg c15] at H
                              exact absurd H (by simp)
                          · rw [if_neg c14] at H
                            exact absurd H (by simp)
                        · rw [if_neg c13] at H
                          exact absurd H (by simp)
                      · rw [if_neg c12] at H
                        have c12b0 : decide (x43_2 < ((rd_L1 l0 x36_1).length : Int)) = false := decide_eq_false c12
                        clear c12
                        by_cases c24 : 0 < (l0.length : Int)
                        · rw [if_pos c24] at H
                          have c24b0 : decide (0 < (l0.length : Int)) = true := decide_eq_true c24
                          have c24b1 : decide (0 < l0.length) = true := decide_eq_true (by omega)
                          clear c24
                          by_cases c25 : 0 < (l1.length : Int)
                          · rw [if_pos c25] at H
                            have c25b0 : decide (0 < (l1.length : Int)) = true := decide_eq_true c25
                            have c25b1 : decide (0 < l1.length) = true := decide_eq_true (by omega)
                            clear c25
                            have H' := Aside0.mk H
                            clear H
                            have p136 : 0 ≤ (0 : Int) := (by omega)
                            have q136 : 0 < (l0.length : Int) := of_decide_eq_true (by first | (with_reducible assumption) | assumption)
                            obtain ⟨ad136, A136_0, c136_0, e136, hx136_0, hl136_0, hi136_0⟩ := at_L1 HR0.out 0 p136 q136
                            obtain rfl : ad122 = ad136 := (by injection e136)
                            have qi136 : (0 < l0.length) = True := eq_true (by omega)
                            (try rw [show ((0 : Int)).toNat = 0 from rfl] at hx136_0)
                            (try rw [Addr.add_zero'] at hx136_0)
                            (try replace hx136_0 := (HB.out.cell (World.block_lt_of_cell? w _ hx136_0)).trans hx136_0)
                            have HR136_0 := Aside0.mk hi136_0
                            have HC136_0 := Aside0.mk hl136_0
                            clear hi136_0 hl136_0
                            replace p136 := eq_true p136
                            replace q136 := eq_true q136
                            have p137 : 0 ≤ (0 : Int) := (by omega)
                            have q137 : 0 < (l1.length : Int) := of_decide_eq_true (by first | (with_reducible assumption) | assumption)
                            obtain ⟨ad137, A137_0, c137_0, e137, hx137_0, hl137_0, hi137_0⟩ := at_L1 HR1.out 0 p137 q137
                            obtain rfl : ad123 = ad137 := (by injection e137)
                            have qi137 : (0 < l1.length) = True := eq_true (by omega)
                            (try rw [show ((0 : Int)).toNat = 0 from rfl] at hx137_0)
                            (try rw [Addr.add_zero'] at hx137_0)
                            (try replace hx137_0 := (HB.out.cell (World.block_lt_of_cell? w _ hx137_0)).trans hx137_0)
                            have HR137_0 := Aside0.mk hi137_0
                            have HC137_0 := Aside0.mk hl137_0
                            clear hi137_0 hl137_0
                            replace p137 := eq_true p137
                            replace q137 := eq_true q137
                            go_wp2
                            try simp only [Act.put, List.setIfInBounds_toArray, List.set_cons_zero, List.set_cons_succ]
                            go_loopg [68] k2 (fun kq v68 w' => ∃ (x6_3 : List (List Int)) (x68_3 : Int), v68 = .int .i64 x68_3 ∧ Aside0 (reedsolomon_matrix_Augment.l2 kq l0 l1 x6_3 x36_1 ((rd_L1 l0 0).length : Int) l0 (l0.length : Int) x36_1 ((rd_L1 l1 0).length : Int) x68_3 = some (r1, r2)) ∧ Aside0 (kq ≤ k2) ∧ Aside0 (Kd.S (Kd.slice 5 (Kd.int .u8)) 22 w' w.heap.size (fun _ => True) v126 x6_3) ∧ Aside0 (Below w.heap.size w w'))
                            case atStart => exact ⟨(x6_2), (0), (by first | rfl | (simp; done) | (simp [*]; done)), H', ⟨Nat.le_refl _⟩, ⟨by (with_reducible repeat (first | apply Kd.S_alloc | apply Kd.S_drewN | apply Kd.S_drew)); exact HO_6.out⟩, ⟨by repeat (first | (with_reducible first | exact HB.out | apply below_alloc | apply pw_below_drewN | apply below_drew1) | exact HB.out)⟩⟩
                            case round =>
                              clear H'
                              try clear c1
                              try clear p1
                              try clear q1
                              try clear hx1
                              try clear qi1
                              try clear c2
                              try clear p2
                              try clear q2
                              try clear c3
                              try clear c3b0
                              try clear c3b1
                              try clear c3b2
                              try clear c4
                              try clear c4b0
                              try clear c4b1
                              try clear c5
                              try clear c5b0
                              try clear c5b1
                              try clear p6
                              try clear c9
                              try clear c9b0
                              try clear c10
                              try clear c10b0
                              try clear c11
                              try clear c11b0
                              try clear c12
                              try clear c12b0
                              try clear p12
                              try clear q12
                              try clear hx12
                              try clear qi12
                              try clear c13
                              try clear c13b0
                              try clear p13
                              try clear q13
                              try clear hx13
                              try clear qi13
                              try clear c14
                              try clear c14b0
                              try clear c15
                              try clear c15b0
                              try clear c16
                              try clear c16b0
                              try clear c17
                              try clear c17b0
                              try clear c18
                              try clear c18b0
                              try clear p19
                              try clear q19
                              try clear hx19
                              try clear hf19
                              try clear c22
                              try clear q22
                              try clear c24
                              try clear c24b0
                              try clear c24b1
                              try clear c25
                              try clear c25b0
                              try clear c25b1
                              try clear hx122_0
                              try clear hx123_0
                              try clear hx129_0
                              try clear hx130_0
                              try clear hx131_0
                              try clear hx132_0
                              try clear hx136_0
                              try clear hx137_0
                              try clear hx19_0
                              try clear p1
                              try clear p122
                              try clear p123
                              try clear p129
                              try clear p130
                              try clear p131
                              try clear p132
                              try clear p136
                              try clear p137
                              try clear p19
                              try clear p2
                              try clear p6
                              try clear q1
                              try clear q122
                              try clear q123
                              try clear q129
                              try clear q130
                              try clear q131
                              try clear q132
                              try clear q136
                              try clear q137
                              try clear q19
                              obtain ⟨x6_3, x68_3, rfl, HA, HK3, HO_6, HB⟩ := hrel
                              cases gk with
                              | zero => exact absurd HA.out (by simp [reedsolomon_matrix_Augment.l2])
                              | succ k3 =>
                                have H := HA.out
                                clear HA
                                simp only [reedsolomon_matrix_Augment.l2] at H
                                by_cases c26 : x68_3 < ((rd_L1 l1 0).length : Int)
                                · rw [if_pos c26] at H
                                  have c26b0 : decide (x68_3 < ((rd_L1 l1 0).length : Int)) = true := decide_eq_true c26
                                  clear c26
                                  by_cases c27 : 0 ≤ x36_1
                                  · rw [if_pos c27] at H
                                    have c27b0 : decide (0 ≤ x36_1) = true := decide_eq_true c27
                                    clear c27
                                    by_cases c28 : x36_1 < (x6_3.length : Int)
                                    · rw [if_pos c28] at H
                                      have c28b0 : decide (x36_1 < (x6_3.length : Int)) = true := decide_eq_true c28
                                      clear c28
                                      by_cases c29 : x36_1 < (l1.length : Int)
                                      · rw [if_pos c29] at H
                                        have c29b0 : decide (x36_1 < (l1.length : Int)) = true := decide_eq_true c29
                                        clear c29
                                        by_cases c30 : 0 ≤ x68_3
                                        · rw [if_pos c30] at H
                                          have c30b0 : decide (0 ≤ x68_3) = true := decide_eq_true c30
                                          clear c30
                                          by_cases c31 : x68_3 < ((rd_L1 l1 x36_1).length : Int)
                                          · rw [if_pos c31] at H
                                            have c31b0 : decide (x68_3 < ((rd_L1 l1 x36_1).length : Int)) = true := decide_eq_true c31
                                            clear c31
                                            obtain ⟨ji32, hji32⟩ : ∃ j_ : Int, (wrap64 (((rd_L1 l0 0).length : Int) + x68_3)) = j_ := ⟨_, rfl⟩
                                            replace H : (if 0 ≤ (ji32) then (if (ji32) < ((rd_L1 x6_3 x36_1).length : Int) then (reedsolomon_matrix_Augment.l2 k3 l0 l1 (x6_3.set (x36_1 : Int).toNat ((rd_L1 x6_3 x36_1).set ((ji32) : Int).toNat (rd (rd_L1 l1 x36_1) x68_3))) x36_1 ((rd_L1 l0 0).length : Int) l0 (l0.length : Int) x36_1 ((rd_L1 l1 0).length : Int) (wrap64 (x68_3 + 1))) else (none)) else (none)) = some (r1, r2) := by first | (rw [hji32] at H; exact H) | (simp only [hji32] at H ⊢; exact H)
                                            have hji32w : (IntKind.i64.wrap (((rd_L1 l0 0).length : Int) + x68_3)) = ji32 := (i64_w _).trans hji32
                                            by_cases c33 : 0 ≤ (ji32)
                                            · rw [if_pos c33] at H
                                              have c33b0 : decide (0 ≤ (ji32)) = true := decide_eq_true c33
                                              clear c33
                                              by_cases c34 : (ji32) < ((rd_L1 x6_3 x36_1).length : Int)
                                              · rw [if_pos c34] at H
                                                have c34b0 : decide ((ji32) < ((rd_L1 x6_3 x36_1).length : Int)) = true := decide_eq_true c34
                                                clear c34
                                                obtain ⟨y141, hy141⟩ : ∃ y_ : List Int, y_ = ((rd_L1 x6_3 x36_1).set ((ji32) : Int).toNat (rd (rd_L1 l1 x36_1) x68_3)) := ⟨_, rfl⟩
                                                replace H : (reedsolomon_matrix_Augment.l2 k3 l0 l1 (x6_3.set (x36_1 : Int).toNat y141) x36_1 ((rd_L1 l0 0).length : Int) l0 (l0.length : Int) x36_1 ((rd_L1 l1 0).length : Int) (wrap64 (x68_3 + 1))) = some (r1, r2) := by first | (rw [hy141]; with_reducible exact H) | (have H2_ := (Option.bind_some _ _).symm.trans H; rw [hy141]; with_reducible exact H2_) | (have H2_ := (Option.bind_some _ _).symm.trans H; with_reducible exact H2_) | with_reducible exact H | (rw [hy141]; exact H) | exact H
                                                have Ny141 := Aside0.mk hy141
                                                clear hy141
                                                obtain ⟨y143, hy143⟩ : ∃ y_ : List (List Int), y_ = (x6_3.set (x36_1 : Int).toNat y141) := ⟨_, rfl⟩
                                                replace H : (reedsolomon_matrix_Augment.l2 k3 l0 l1 y143 x36_1 ((rd_L1 l0 0).length : Int) l0 (l0.length : Int) x36_1 ((rd_L1 l1 0).length : Int) (wrap64 (x68_3 + 1))) = some (r1, r2) := by first | (rw [hy143]; with_reducible exact H) | (have H2_ := (Option.bind_some _ _).symm.trans H; rw [hy143]; with_reducible exact H2_) | (have H2_ := (Option.bind_some _ _).symm.trans H; with_reducible exact H2_) | with_reducible exact H | (rw [hy143]; exact H) | exact H
                                                have Ny143 := Aside0.mk hy143
                                                clear hy143
                                                have H' := Aside0.mk H
                                                clear H
                                                try go_wp2
                                                have n0_ := Aside0.mk (Kd.S_drew HO_6.out)
                                                have n1_ := Aside0.mk (below_drew1 HB.out)
                                                clear HO_6
                                                clear HB
                                                have HO_6 := n0_
                                                have HB := n1_
                                                clear n0_ n1_
                                                obtain ⟨Ao37, co37, eo37⟩ := Kd.S_slice HO_6.out
                                                (first | subst eo37 | (injection eo37 with f1_ f2_ f3_; have f4_ := f1_.symm; have f5_ := f3_.symm; clear f1_ f2_ f3_; subst f4_; subst f5_))
                                                have p138 : 0 ≤ (x36_1 : Int) := of_decide_eq_true (by first | (with_reducible assumption) | assumption)
                                                have q138 : x36_1 < (x6_3.length : Int) := of_decide_eq_true (by first | (with_reducible assumption) | assumption)
                                                obtain ⟨ad138, A138_0, c138_0, e138, hx138_0, hl138_0, hi138_0⟩ := at_L1 (Kd.S_reads' HO_6.out).2.2 x36_1 p138 q138
                                                cases e138
                                                obtain ⟨ce138, hce138, hMe138, hcc138⟩ := Kd.S_get HO_6.out [] x36_1 p138 (by first | exact q138 | exact of_decide_eq_true (by first | (with_reducible assumption) | assumption) | (have e_ := (Kd.S_reads' HO_6.out).1; omega))
                                                obtain ⟨ve138_0, rfl, ge138_0⟩ := hMe138
                                                have hv138_0 := hcc138 0 _ rfl
                                                rw [Nat.add_zero, show ((Kd.slice 5 (Kd.int .u8))).sz = 1 from rfl, Nat.mul_one] at hv138_0
                                                replace hv138_0 := Option.some.inj (hv138_0.symm.trans hx138_0)
                                                rw [hv138_0] at ge138_0
                                                have HL138_0 := Aside0.mk (show Kd.R (Kd.int .u8) 5 _ _ _ _ (rd_L1 x6_3 x36_1) from ge138_0)
                                                clear hv138_0 ge138_0
                                                have HX138_0 := Aside0.mk hx138_0
                                                clear hcc138 hce138
                                                have HR138_0 := Aside0.mk hi138_0
                                                have HC138_0 := Aside0.mk hl138_0
                                                clear hi138_0 hl138_0
                                                replace p138 := eq_true p138
                                                replace q138 := eq_true q138
                                                have p139 : 0 ≤ (x36_1 : Int) := of_decide_eq_true (by first | (with_reducible assumption) | assumption)
                                                have q139 : x36_1 < (l1.length : Int) := of_decide_eq_true (by first | (with_reducible assumption) | assumption)
                                                obtain ⟨ad139, A139_0, c139_0, e139, hx139_0, hl139_0, hi139_0⟩ := at_L1 HR1.out x36_1 p139 q139
                                                have hw139_0 := hx139_0
                                                obtain rfl : ad123 = ad139 := (by injection e139)
                                                (try replace hx139_0 := (HB.out.cell (World.block_lt_of_cell? w _ hx139_0)).trans hx139_0)
                                                have HR139_0 := Aside0.mk hi139_0
                                                have HC139_0 := Aside0.mk hl139_0
                                                clear hi139_0 hl139_0
                                                replace p139 := eq_true p139
                                                replace q139 := eq_true q139
                                                have p140 : 0 ≤ (x68_3 : Int) := of_decide_eq_true (by first | (with_reducible assumption) | assumption)
                                                have q140 : x68_3 < ((rd_L1 l1 x36_1).length : Int) := of_decide_eq_true (by first | (with_reducible assumption) | assumption)
                                                obtain ⟨ad140, e140, hx140_0⟩ := Kd.at_int HR139_0.out x68_3 p140 q140
                                                have hw140_0 := hx140_0
                                                cases e140
                                                (try replace hx140_0 := (HB.out.cell (World.block_lt_of_cell? w _ hx140_0)).trans hx140_0)
                                                replace p140 := eq_true p140
                                                replace q140 := eq_true q140
                                                have p35 : 0 ≤ ((ji32) : Int) := of_decide_eq_true (by first | (with_reducible assumption) | assumption)
                                                have q35 : ((ji32) : Int) < (((rd_L1 x6_3 x36_1).length : Int) : Int) := of_decide_eq_true (by first | (with_reducible assumption) | assumption)
                                                obtain ⟨go35, co35, eo35, gb35, gl35, cl35, HG35⟩ := Kd.R_form HL138_0.out (by omega)
                                                (first | cases eo35 | (injection eo35 with ea_ en_ ec_; (first | subst ea_ | (injection ea_ with ea_; subst ea_)); subst ec_; clear en_))
                                                have GB35 := Aside0.mk gb35
                                                have GG35 := Aside0.mk HG35
                                                clear gb35 gl35 HG35
                                                obtain ⟨hx35_0, hf35_0⟩ := Kd.R_celln 0 HL138_0.out ((ji32) : Int) p35 q35
                                                replace p35 := eq_true p35
                                                replace q35 := eq_true q35
                                                have hq38 : (x36_1 : Int) < (x6_3.length : Int) := (by have h_ : (x36_1 : Int) < ((x6_3.length : Int) : Int) := of_decide_eq_true (by first | (with_reducible assumption) | assumption); first | exact h_ | (have e_ := (Kd.S_reads' HO_6.out).1; omega) | simpa only [List.length_set, List.length_set] using h_)
                                                obtain ⟨oki38, ce38, hcl38, hM38, hcc38, hok38, hbk38⟩ := Kd.S_borrow HO_6.out [] (x36_1 : Int) (of_decide_eq_true (by first | (with_reducible assumption) | assumption)) hq38
                                                obtain ⟨ve38_0, rfl, ge38_0⟩ := hM38
                                                have hv38 := hcc38 0 _ rfl
                                                rw [Nat.add_zero, show ((Kd.slice 5 (Kd.int .u8))).sz = 1 from rfl, Nat.mul_one] at hv38
                                                replace hv38 := Option.some.inj (hv38.symm.trans HX138_0.out)
                                                subst hv38
                                                clear hcc38 hcl38
                                                replace ge38_0 := (show Kd.R (Kd.int .u8) 5 _ _ _ _ (rd_L1 x6_3 x36_1) from ge38_0)
                                                have HP38 := Kd.R_putg ge38_0 ((ji32) : Int) (rd (rd_L1 l1 x36_1) x68_3)
                                                rw [← Ny141.out] at HP38
                                                have HS38 := hbk38 HP38.2 (fun k_ e_ => by injection e_ with e_; subst e_; exact ge38_0.1 _ rfl) (x' := y141) (Kd.M_row HP38.1)
                                                rw [← Ny143.out] at HS38
                                                have HQ38 := Aside0.mk HS38
                                                clear HP38 HS38 hbk38 hok38
                                                refine start_ (n := 16) (S := fun w' => w'.cell? (ad138.add (x36_1).toNat) = some (.slice (some ⟨go35, 0, none⟩) (rd_L1 x6_3 x36_1).length c138_0) ∧ w'.cell? (ad123.add (x36_1).toNat) = some (.slice (some ad140) (rd_L1 l1 x36_1).length c139_0) ∧ w'.cell? (ad140.add (x68_3).toNat) = some (.int .u8 (rd (rd_L1 l1 x36_1) x68_3))) (ds := [15]) #[false, false, false, false, false, false, false, false, false, false, false, false, false, false, false, false] (by kernel_rfl) rfl rfl ⟨hx138_0, ((HB.out.cell (World.block_lt_of_cell? w _ hw139_0)).trans hw139_0), ((HB.out.cell (World.block_lt_of_cell? w _ hw140_0)).trans hw140_0)⟩ (fun hHeld => ?_); refine with_tabW reedsolomon_matrix_Augment.tab16 reedsolomon_matrix_Augment.bits16 (fun HT_ HW_ => ?_)
                                                generalize wr.drew = w36 at HO_6 HB GG35 HL138_0 HQ38 HR138_0 HR139_0 HX138_0 hf35_0 hx138_0 hx139_0 hx140_0 hx35_0 hHeld ⊢
                                                refine pure_ (i := 0) (N := some 71) (v := ?_) (a' := ?_) #[true, false, false, false, false, false, false, false, false, false, false, false, false, false, false, false] rfl rfl (any_of HT_.out (by kernel_rfl)) (fun _ _ _ h => h) (Or.inl ⟨by rfl, ?_⟩) ?_ ?_
                                                rotate_left
                                                · intro w'
                                                  go_simp
                                                  with_reducible rfl
                                                rotate_left
                                                · simp only [Act.put, List.setIfInBounds_toArray, List.set_cons_zero, List.set_cons_succ, i64_w, i32_w]
                                                  rfl
                                                refine pure_ (i := 1) (N := some 72) (v := ?_) (a' := ?_) #[true, true, false, false, false, false, false, false, false, false, false, false, false, false, false, false] rfl rfl (any_of HT_.out (by kernel_rfl)) (fun _ _ _ h => h) (Or.inl ⟨by rfl, ?_⟩) ?_ ?_
                                                rotate_left
                                                · intro w'
                                                  go_simp
                                                  with_reducible rfl
                                                rotate_left
                                                · simp only [Act.put, List.setIfInBounds_toArray, List.set_cons_zero, List.set_cons_succ, i64_w, i32_w]
                                                  rfl
                                                refine pure_ (i := 2) (N := some 73) (v := ?_) (a' := ?_) #[true, true, true, false, false, false, false, false, false, false, false, false, false, false, false, false] rfl rfl (any_of HT_.out (by kernel_rfl)) (fun _ _ _ h => h) (Or.inl ⟨by rfl, ?_⟩) ?_ ?_
                                                rotate_left
                                                · intro w'
                                                  go_simp
                                                  with_reducible rfl
                                                rotate_left
                                                · simp only [Act.put, List.setIfInBounds_toArray, List.set_cons_zero, List.set_cons_succ, i64_w, i32_w]
                                                  rfl
                                                refine pure_ (i := 4) (N := some 75) (v := ?_) (a' := ?_) #[true, true, true, false, true, false, false, false, false, false, false, false, false, false, false, false] rfl rfl (any_of HT_.out (by kernel_rfl)) (fun _ _ _ h => h) (Or.inl ⟨by rfl, ?_⟩) ?_ ?_
                                                rotate_left
                                                · intro w'
                                                  go_simp
                                                  with_reducible rfl
                                                rotate_left
                                                · simp only [Act.put, List.setIfInBounds_toArray, List.set_cons_zero, List.set_cons_succ, i64_w, i32_w]
                                                  rfl
                                                refine pure_ (i := 5) (N := some 76) (v := ?_) (a' := ?_) #[true, true, true, false, true, true, false, false, false, false, false, false, false, false, false, false] rfl rfl (any_of HT_.out (by kernel_rfl)) (fun _ _ _ h => h) (Or.inl ⟨by rfl, ?_⟩) ?_ ?_
                                                rotate_left
                                                · intro w'
                                                  go_simp
                                                  with_reducible rfl
                                                rotate_left
                                                · simp only [Act.put, List.setIfInBounds_toArray, List.set_cons_zero, List.set_cons_succ, i64_w, i32_w]
                                                  rfl
                                                refine pure_ (i := 6) (N := some 77) (v := ?_) (a' := ?_) #[true, true, true, false, true, true, true, false, false, false, false, false, false, false, false, false] rfl rfl (any_of HT_.out (by kernel_rfl)) (fun _ _ _ h => h) (Or.inl ⟨by rfl, ?_⟩) ?_ ?_
                                                rotate_left
                                                · intro w'
                                                  go_simp
                                                  with_reducible rfl
                                                rotate_left
                                                · simp only [Act.put, List.setIfInBounds_toArray, List.set_cons_zero, List.set_cons_succ, i64_w, i32_w]
                                                  rfl
                                                refine pure_ (i := 7) (N := some 78) (v := ?_) (a' := ?_) #[true, true, true, false, true, true, true, true, false, false, false, false, false, false, false, false] rfl rfl (any_of HT_.out (by kernel_rfl)) (fun _ _ _ h => h) (Or.inl ⟨by rfl, ?_⟩) ?_ ?_
                                                rotate_left
                                                · intro w'
                                                  go_simp
                                                  with_reducible rfl
                                                rotate_left
                                                · simp only [Act.put, List.setIfInBounds_toArray, List.set_cons_zero, List.set_cons_succ, i64_w, i32_w]
                                                  rfl
                                                refine pure_ (i := 8) (N := some 79) (v := ?_) (a' := ?_) #[true, true, true, false, true, true, true, true, true, false, false, false, false, false, false, false] rfl rfl (any_of HT_.out (by kernel_rfl)) (fun _ _ _ h => h) (Or.inl ⟨by rfl, ?_⟩) ?_ ?_
                                                rotate_left
                                                · intro w'
                                                  go_simp
                                                  with_reducible rfl
                                                rotate_left
                                                · simp only [Act.put, List.setIfInBounds_toArray, List.set_cons_zero, List.set_cons_succ, i64_w, i32_w]
                                                  rfl
                                                refine pure_ (i := 9) (N := some 80) (v := ?_) (a' := ?_) #[true, true, true, false, true, true, true, true, true, true, false, false, false, false, false, false] rfl rfl (any_of HT_.out (by kernel_rfl)) (fun _ _ _ h => h) (Or.inl ⟨by rfl, ?_⟩) ?_ ?_
                                                rotate_left
                                                · intro w'
                                                  go_simp
                                                  with_reducible rfl
                                                rotate_left
                                                · simp only [Act.put, List.setIfInBounds_toArray, List.set_cons_zero, List.set_cons_succ, i64_w, i32_w]
                                                  rfl
                                                refine pure_ (i := 11) (N := some 82) (v := ?_) (a' := ?_) #[true, true, true, false, true, true, true, true, true, true, false, true, false, false, false, false] rfl rfl (any_of HT_.out (by kernel_rfl)) (fun _ _ _ h => h) (Or.inl ⟨by rfl, ?_⟩) ?_ ?_
                                                rotate_left
                                                · intro w'
                                                  go_simp
                                                  with_reducible rfl
                                                rotate_left
                                                · simp only [Act.put, List.setIfInBounds_toArray, List.set_cons_zero, List.set_cons_succ, i64_w, i32_w]
                                                  rfl
                                                refine take_ (i := 3) (N := some 74) (v := ?_) (a' := ?_) #[true, true, true, true, true, true, true, true, true, true, false, true, false, false, false, false] rfl rfl (take_ofW HT_.out HW_.out (by kernel_rfl)) (fun _ _ _ h => h) (Or.inl ⟨by rfl, ?_⟩) hHeld ?_ ?_
                                                rotate_left
                                                · rintro w' ⟨s0, s1, s2⟩
                                                  go_simp
                                                  with_reducible rfl
                                                rotate_left
                                                · simp only [Act.put, List.setIfInBounds_toArray, List.set_cons_zero, List.set_cons_succ, i64_w, i32_w]
                                                  rfl
                                                refine take_ (i := 10) (N := some 81) (v := ?_) (a' := ?_) #[true, true, true, true, true, true, true, true, true, true, true, true, false, false, false, false] rfl rfl (take_ofW HT_.out HW_.out (by kernel_rfl)) (fun _ _ _ h => h) (Or.inl ⟨by rfl, ?_⟩) hHeld ?_ ?_
                                                rotate_left
                                                · rintro w' ⟨s0, s1, s2⟩
                                                  go_simp
                                                  with_reducible rfl
                                                rotate_left
                                                · simp only [Act.put, List.setIfInBounds_toArray, List.set_cons_zero, List.set_cons_succ, i64_w, i32_w]
                                                  rfl
                                                refine pure_ (i := 12) (N := some 83) (v := ?_) (a' := ?_) #[true, true, true, true, true, true, true, true, true, true, true, true, true, false, false, false] rfl rfl (any_of HT_.out (by kernel_rfl)) (fun _ _ _ h => h) (Or.inl ⟨by rfl, ?_⟩) ?_ ?_
                                                rotate_left
                                                · intro w'
                                                  go_simp
                                                  with_reducible rfl
                                                rotate_left
                                                · simp only [Act.put, List.setIfInBounds_toArray, List.set_cons_zero, List.set_cons_succ, i64_w, i32_w]
                                                  rfl
                                                refine take_ (i := 13) (N := some 84) (v := ?_) (a' := ?_) #[true, true, true, true, true, true, true, true, true, true, true, true, true, true, false, false] rfl rfl (take_ofW HT_.out HW_.out (by kernel_rfl)) (fun _ _ _ h => h) (Or.inl ⟨by rfl, ?_⟩) hHeld ?_ ?_
                                                rotate_left
                                                · rintro w' ⟨s0, s1, s2⟩
                                                  go_simp
                                                  with_reducible rfl
                                                rotate_left
                                                · simp only [Act.put, List.setIfInBounds_toArray, List.set_cons_zero, List.set_cons_succ, i64_w, i32_w]
                                                  rfl
                                                refine pure_ (i := 14) (N := some 85) (v := ?_) (a' := ?_) #[true, true, true, true, true, true, true, true, true, true, true, true, true, true, true, false] rfl rfl (any_of HT_.out (by kernel_rfl)) (fun _ _ _ h => h) (Or.inl ⟨by rfl, ?_⟩) ?_ ?_
                                                rotate_left
                                                · intro w'
                                                  go_simp
                                                  with_reducible rfl
                                                rotate_left
                                                · simp only [Act.put, List.setIfInBounds_toArray, List.set_cons_zero, List.set_cons_succ, i64_w, i32_w]
                                                  rfl
                                                refine last_ (i := 15) (N := none) #[true, true, true, true, true, true, true, true, true, true, true, true, true, true, true, true] rfl rfl (one_of HT_.out (by kernel_rfl)) (by decide) (fun K hK => ?_)
                                                refine skip_ (w1 := ?_) (by rfl) rfl ?_ ?_
                                                rotate_left
                                                · go_simp
                                                  rfl
                                                refine hK.out _ _ ?_
                                                clear hK K
                                                refine done_ (done_of HT_.out (by kernel_rfl)) ?_
                                                try go_wp2
                                                go_roundg k3
                                                case measure => have := HK1.out; have := HK2.out; have := HK3.out; omega
                                                case rel => exact ⟨(y143), (wrap64 (x68_3 + 1)), (by first | rfl | (simp; done) | (simp [*]; done)), H', ⟨by have := HK1.out; have := HK2.out; have := HK3.out; omega⟩, ⟨by (with_reducible repeat (first | apply Kd.S_alloc | apply Kd.S_drewN | apply Kd.S_drew)); exact HQ38.out⟩, ⟨by repeat (first | (with_reducible first | exact HB.out | apply below_alloc | apply pw_below_drewN | apply below_drew1 | refine below_set ?_ GB35.out) | exact HB.out)⟩⟩
                                              · rw [if_neg c34] at H
                                                exact absurd H (by simp)
                                            · rw [if_neg c33] at H
                                              exact absurd H (by simp)
                                          · rw [if_neg c31] at H
                                            exact absurd H (by simp)
                                        · rw [if_neg c30] at H
                                          exact absurd H (by simp)
                                      · rw [if_neg c29] at H
                                        exact absurd H (by simp)
                                    · rw [if_neg c28] at H
                                      exact absurd H (by simp)
                                  · rw [if_neg c27] at H
                                    exact absurd H (by simp)
                                · rw [if_neg c26] at H
                                  have c26b0 : decide (x68_3 < ((rd_L1 l1 0).length : Int)) = false := decide_eq_false c26
                                  clear c26
                                  have H' := Aside0.mk H
                                  clear H
                                  go_wp2
                                  go_roundg k3
                                  case measure => have := HK1.out; have := HK2.out; have := HK3.out; omega
                                  case rel => exact ⟨(x6_3), (wrap64 (x36_1 + 1)), (by first | rfl | (simp; done) | (simp [*]; done)), H', ⟨by have := HK1.out; have := HK2.out; have := HK3.out; omega⟩, ⟨by (with_reducible repeat (first | apply Kd.S_alloc | apply Kd.S_drewN | apply Kd.S_drew)); exact HO_6.out⟩, ⟨by repeat (first | (with_reducible first | exact HB.out | apply below_alloc | apply pw_below_drewN | apply below_drew1) | exact HB.out)⟩⟩
                          · rw [if_neg c25] at H
                            exact absurd H (by simp)
                        · rw [if_neg c24] at H
                          exact absurd H (by simp)
                · rw [if_neg c11] at H
                  exact absurd H (by simp)
              · rw [if_neg c10] at H
                exact absurd H (by simp)
            · rw [if_neg c9] at H
              have c9b0 : decide (x36_1 < (l0.length : Int)) = false := decide_eq_false c9
              clear c9
              simp only [Option.some.injEq, Prod.mk.injEq] at H
              obtain ⟨rfl, rfl⟩ := H
              go_wp2
              go_ret2
              first | exact ⟨_, 0, by first | rfl | (simp [errW_none, errW_some] <;> rfl) | (simp [*, errW_none, errW_some] <;> rfl), by (with_reducible repeat (first | apply Kd.S_alloc | apply Kd.S_drewN | apply Kd.S_drew)); exact HO_6.out, by repeat (first | (with_reducible first | exact HB.out | apply below_alloc | apply pw_below_drewN | apply below_drew1) | exact HB.out)⟩ | exact ⟨_, ⟨0, by first | rfl | (simp [errW_none, errW_some] <;> rfl) | (simp [*, errW_none, errW_some] <;> rfl)⟩, by (with_reducible repeat (first | apply Kd.S_alloc | apply Kd.S_drewN | apply Kd.S_drew)); exact HO_6.out, by repeat (first | (with_reducible first | exact HB.out | apply below_alloc | apply pw_below_drewN | apply below_drew1) | exact HB.out)⟩
      · rw [if_neg c5] at H
        exact absurd H (by simp)
    · rw [if_neg c4] at H
      exact absurd H (by simp)
  · rw [if_neg c3] at H
    have c3b0 : ((l0.length : Int) == (l1.length : Int)) = false := beq_eq_false_iff_ne.mpr c3
    have c3b1 : ((l0.length : Int) != (l1.length : Int)) = true := bne_iff_ne.mpr c3
    have c3b2 : (l0.length == l1.length) = false := by first | simpa using c3 | (simp at c3 ⊢; omega)
    simp only [Option.some.injEq, Prod.mk.injEq] at H
    obtain ⟨rfl, rfl⟩ := H
    go_enter Tryd.func50, Tryd.ntmps50
    try go_wp2
    have n0_ := Aside0.mk (below_drew1 HB.out)
    clear HB
    have HB := n0_
    clear n0_
    obtain ⟨qe90003, hgl3⟩ := hGE.out 3 (by decide)
    have hge3 := (by first | exact (HB.out.cell (World.block_lt_of_cell? _ _ hgl3)).trans hgl3 | exact hgl3)
    refine start_ (n := 3) (S := fun w' => w'.cell? ⟨3, 0, none⟩ = some (errW qe90003 (some 0))) (ds := []) #[false, false, false] (by kernel_rfl) rfl rfl (((HB.out.cell (World.block_lt_of_cell? w _ hgl3)).trans hgl3)) (fun hHeld => ?_)
    generalize w.drew = w40 at HB hHeld ⊢
    refine pure_ (i := 1) (N := some 4) (v := ?_) (a' := ?_) #[false, true, false] rfl rfl (by kernel_rfl) (fun _ _ _ h => h) (Or.inl ⟨by rfl, ?_⟩) ?_ ?_
    rotate_left
    · intro w'
      go_simp
      with_reducible rfl
    rotate_left
    · simp only [Act.put, List.setIfInBounds_toArray, List.set_cons_zero, List.set_cons_succ, i64_w, i32_w]
      rfl
    refine take_ (i := 0) (N := some 18) (v := ?_) (a' := ?_) #[true, true, false] rfl rfl (by kernel_rfl) (fun _ _ _ h => h) (Or.inl ⟨by rfl, ?_⟩) hHeld ?_ ?_
    rotate_left
    · intro w' s0
      go_simp
      with_reducible rfl
    rotate_left
    · simp only [Act.put, List.setIfInBounds_toArray, List.set_cons_zero, List.set_cons_succ, i64_w, i32_w]
      rfl
    refine pure_ (i := 2) (N := some 5) (v := ?_) (a' := ?_) #[true, true, true] rfl rfl (by kernel_rfl) (fun _ _ _ h => h) (Or.inl ⟨by rfl, ?_⟩) ?_ ?_
    rotate_left
    · intro w'
      go_simp
      with_reducible rfl
    rotate_left
    · simp only [Act.put, List.setIfInBounds_toArray, List.set_cons_zero, List.set_cons_succ, i64_w, i32_w]
      rfl
    refine done_ (by kernel_rfl) ?_
    try go_wp2
    go_ret2
    first | exact ⟨_, qe90003, by first | rfl | (simp [errW_none, errW_some] <;> rfl) | (simp [*, errW_none, errW_some] <;> rfl), by first | exact Kd.S_nil _ _ _ _ _ | exact Kd.N_nil _ _ _ _ _ | exact Kd.V_nil _ _ _ _ _ | exact Kd.Q_nil _ _ _ _ _ | exact Kd.R_nil _ _ _ _ _, by repeat (first | (with_reducible first | exact HB.out | apply below_alloc | apply pw_below_drewN | apply below_drew1) | exact HB.out)⟩ | exact ⟨_, ⟨qe90003, by first | rfl | (simp [errW_none, errW_some] <;> rfl) | (simp [*, errW_none, errW_some] <;> rfl)⟩, by first | exact Kd.S_nil _ _ _ _ _ | exact Kd.N_nil _ _ _ _ _ | exact Kd.V_nil _ _ _ _ _ | exact Kd.Q_nil _ _ _ _ _ | exact Kd.R_nil _ _ _ _ _, by repeat (first | (with_reducible first | exact HB.out | apply below_alloc | apply pw_below_drewN | apply below_drew1) | exact HB.out)⟩
end Go.Proofs.YtpeikjnkbjabpaaDoor.V
