import Derived.Test.YtpeikjnkbjabpaaDoorSVV0
namespace Go.Proofs.YtpeikjnkbjabpaaDoor.V
open Go.RowKit Go.Proofs.YtpeikjnkbjabpaaDoorW.PrintWords Go.Proofs.YtpeikjnkbjabpaaDoorW.PrintLast Go.Proofs.YtpeikjnkbjabpaaDoorW.PrintMore
attribute [local go_sem] max2_int min2_int max_two min_two max_three min_three max_four min_four   -- for this text's walks alone
set_option linter.unusedVariables false
set_option linter.unusedSimpArgs false
def reedsolomon_matrix_Check.l0 : Nat → Int → List (List Int) → Int → Int → Option (Option Int)
  | 0, _, _, _, _ => none
  | k + 1, x4, x19, x20, x21 => if x21 < x20 then (if 0 ≤ x21 then (if x21 < (x19.length : Int) then (if ((rd_L1 x19 x21).length : Int) = x4 then (reedsolomon_matrix_Check.l0 k x4 x19 x20 (wrap64 (x21 + 1))) else (some (some 0))) else (none)) else (none)) else (some none)
def reedsolomon_matrix_Check.f (k : Nat) (l0 : List (List Int)) : Option (Option Int) := if (l0.length : Int) = 0 then (some (some 0)) else (if 0 < (l0.length : Int) then (if ((rd_L1 l0 0).length : Int) = 0 then (some (some 0)) else (reedsolomon_matrix_Check.l0 k ((rd_L1 l0 0).length : Int) l0 (l0.length : Int) 0)) else (none))
theorem reedsolomon_matrix_Check.mono_l : ∀ k, (∀ y0 y1 y2 y3, LeO (reedsolomon_matrix_Check.l0 k y0 y1 y2 y3) (reedsolomon_matrix_Check.l0 (k + 1) y0 y1 y2 y3))
  | 0 => fun _ _ _ _ r h => by simp [reedsolomon_matrix_Check.l0] at h
  | k + 1 => by
    have ih0 := reedsolomon_matrix_Check.mono_l k
    · intro y0 y1 y2 y3
      unfold reedsolomon_matrix_Check.l0
      repeat' first
      | (with_reducible exact ih0 _ _ _ _)
      | (with_reducible exact LeO.refl _)
      | (with_reducible exact LeO.none _)
      | (with_reducible refine LeO.ite ?_ ?_)
      | (with_reducible refine LeO.bind ?_ (fun _ => ?_))
      | exact ih0 _ _ _ _
      | exact LeO.none _
      | refine LeO.ite ?_ ?_
      | refine LeO.bind ?_ (fun _ => ?_)
theorem reedsolomon_matrix_Check.mono : ∀ a0 k, LeO (reedsolomon_matrix_Check.f k a0) (reedsolomon_matrix_Check.f (k + 1) a0) := by
  intro a0 k
  have ih0 := reedsolomon_matrix_Check.mono_l k
  unfold reedsolomon_matrix_Check.f
  repeat' first
      | (with_reducible exact ih0 _ _ _ _)
      | (with_reducible exact LeO.refl _)
      | (with_reducible exact LeO.none _)
      | (with_reducible refine LeO.ite ?_ ?_)
      | (with_reducible refine LeO.bind ?_ (fun _ => ?_))
      | exact ih0 _ _ _ _
      | exact LeO.none _
      | refine LeO.ite ?_ ?_
      | refine LeO.bind ?_ (fun _ => ?_)
set_option maxHeartbeats 8000000 in
set_option maxRecDepth 100000 in
theorem reedsolomon_matrix_Check.calls (k : Nat) (A0 : Option Addr) (c0 : Nat) (l0 : List (List Int)) (r : Option Int) (w : World) (hGE : GlobE w) (hr0 : Kd.C (Kd.slice 5 (Kd.int .u8)) w A0 l0.length l0) (hc0 : l0.length ≤ c0) (h : reedsolomon_matrix_Check.f k l0 = some r) :
    Calls Tryd.prog 57 #[.slice A0 l0.length c0] w fun e w' => ∃ q0_ : Addr, e = .returned (errW q0_ r) ∧ Below w.heap.size w w' := by
  have HR0 := Aside0.mk hr0
  have HC0 := Aside0.mk hc0
  clear hr0 hc0
  have HB := Aside0.mk (Below.refl w.heap.size w)
  have H : (if (l0.length : Int) = 0 then (some (some 0)) else (if 0 < (l0.length : Int) then (if ((rd_L1 l0 0).length : Int) = 0 then (some (some 0)) else (reedsolomon_matrix_Check.l0 k ((rd_L1 l0 0).length : Int) l0 (l0.length : Int) 0)) else (none))) = some r := h
  clear h
  by_cases c2 : (l0.length : Int) = 0
  · rw [if_pos c2] at H
    have c2b0 : ((l0.length : Int) == 0) = true := beq_iff_eq.mpr c2
    have c2b1 : ((l0.length : Int) != 0) = false := bne_eq_false_iff_eq.mpr c2
    clear c2
    obtain rfl := Option.some.inj H
    obtain ⟨qe90005, hgl5⟩ := hGE.out 5 (by decide)
    have hge5 := (by first | exact (HB.out.cell (World.block_lt_of_cell? _ _ hgl5)).trans hgl5 | exact hgl5)
    go_enter Tryd.func57, Tryd.ntmps57
    go_wp2
    go_ret
    first | exact ⟨qe90005, by first | rfl | (simp [errW_none, errW_some] <;> rfl) | (simp [*, errW_none, errW_some] <;> rfl), by repeat (first | (with_reducible first | exact HB.out | apply below_alloc | apply pw_below_drewN | apply below_drew1) | exact HB.out)⟩ | exact ⟨⟨qe90005, by first | rfl | (simp [errW_none, errW_some] <;> rfl) | (simp [*, errW_none, errW_some] <;> rfl)⟩, by repeat (first | (with_reducible first | exact HB.out | apply below_alloc | apply pw_below_drewN | apply below_drew1) | exact HB.out)⟩
  · rw [if_neg c2] at H
    have c2b0 : ((l0.length : Int) == 0) = false := beq_eq_false_iff_ne.mpr c2
    have c2b1 : ((l0.length : Int) != 0) = true := bne_iff_ne.mpr c2
    have c2b2 : ¬ (l0 = []) := fun h_ => c2 (by rw [h_]; rfl)
    by_cases c3 : 0 < (l0.length : Int)
    · rw [if_pos c3] at H
      have c3b0 : decide (0 < (l0.length : Int)) = true := decide_eq_true c3
      have c3b1 : decide (0 < l0.length) = true := decide_eq_true (by omega)
      clear c3
      by_cases c4 : ((rd_L1 l0 0).length : Int) = 0
      · rw [if_pos c4] at H
        have c4b0 : (((rd_L1 l0 0).length : Int) == 0) = true := beq_iff_eq.mpr c4
        have c4b1 : (((rd_L1 l0 0).length : Int) != 0) = false := bne_eq_false_iff_eq.mpr c4
        clear c4
        obtain rfl := Option.some.inj H
        have p101 : 0 ≤ (0 : Int) := (by omega)
        have q101 : 0 < (l0.length : Int) := of_decide_eq_true (by first | (with_reducible assumption) | assumption)
        obtain ⟨ad101, A101_0, c101_0, e101, hx101_0, hl101_0, hi101_0⟩ := at_L1 HR0.out 0 p101 q101
        cases e101
        have qi101 : (0 < l0.length) = True := eq_true (by omega)
        (try rw [show ((0 : Int)).toNat = 0 from rfl] at hx101_0)
        (try rw [Addr.add_zero'] at hx101_0)
        have HR101_0 := Aside0.mk hi101_0
        have HC101_0 := Aside0.mk hl101_0
        clear hi101_0 hl101_0
        replace p101 := eq_true p101
        replace q101 := eq_true q101
        obtain ⟨qe90006, hgl6⟩ := hGE.out 6 (by decide)
        have hge6 := (by first | exact (HB.out.cell (World.block_lt_of_cell? _ _ hgl6)).trans hgl6 | exact hgl6)
        go_enter Tryd.func57, Tryd.ntmps57
        go_wp2
        go_ret
        first | exact ⟨qe90006, by first | rfl | (simp [errW_none, errW_some] <;> rfl) | (simp [*, errW_none, errW_some] <;> rfl), by repeat (first | (with_reducible first | exact HB.out | apply below_alloc | apply pw_below_drewN | apply below_drew1) | exact HB.out)⟩ | exact ⟨⟨qe90006, by first | rfl | (simp [errW_none, errW_some] <;> rfl) | (simp [*, errW_none, errW_some] <;> rfl)⟩, by repeat (first | (with_reducible first | exact HB.out | apply below_alloc | apply pw_below_drewN | apply below_drew1) | exact HB.out)⟩
      · rw [if_neg c4] at H
        have c4b0 : (((rd_L1 l0 0).length : Int) == 0) = false := beq_eq_false_iff_ne.mpr c4
        have c4b1 : (((rd_L1 l0 0).length : Int) != 0) = true := bne_iff_ne.mpr c4
        have c4b2 : ¬ ((rd_L1 l0 0) = []) := fun h_ => c4 (by rw [h_]; rfl)
        have H' := Aside0.mk H
        clear H
        have p101 : 0 ≤ (0 : Int) := (by omega)
        have q101 : 0 < (l0.length : Int) := of_decide_eq_true (by first | (with_reducible assumption) | assumption)
        obtain ⟨ad101, A101_0, c101_0, e101, hx101_0, hl101_0, hi101_0⟩ := at_L1 HR0.out 0 p101 q101
        cases e101
        have qi101 : (0 < l0.length) = True := eq_true (by omega)
        (try rw [show ((0 : Int)).toNat = 0 from rfl] at hx101_0)
        (try rw [Addr.add_zero'] at hx101_0)
        have HR101_0 := Aside0.mk hi101_0
        have HC101_0 := Aside0.mk hl101_0
        clear hi101_0 hl101_0
        replace p101 := eq_true p101
        replace q101 := eq_true q101
        go_enter Tryd.func57, Tryd.ntmps57
        go_wp2
        try simp only [Act.put, List.setIfInBounds_toArray, List.set_cons_zero, List.set_cons_succ]
        go_loopg [21] k (fun kq v21 w' => ∃ (x21_1 : Int), v21 = .int .i64 x21_1 ∧ Aside0 (reedsolomon_matrix_Check.l0 kq ((rd_L1 l0 0).length : Int) l0 (l0.length : Int) x21_1 = some r) ∧ Aside0 (kq ≤ k) ∧ Aside0 (Below w.heap.size w w'))
        case atStart => exact ⟨(0), (by first | rfl | (simp; done) | (simp [*]; done)), H', ⟨Nat.le_refl _⟩, ⟨by repeat (first | (with_reducible first | exact HB.out | apply below_alloc | apply pw_below_drewN | apply below_drew1) | exact HB.out)⟩⟩
        case round =>
          clear H'
          try clear c1
          try clear p1
          try clear q1
          try clear hx1
          try clear qi1
          try clear c2
          try clear c2b0
          try clear c2b1
          try clear c2b2
          try clear p2
          try clear c3
          try clear c3b0
          try clear c3b1
          try clear c4
          try clear c4b0
          try clear c4b1
          try clear c4b2
          try clear hx101_0
          try clear p101
          try clear q101
          obtain ⟨x21_1, rfl, HA, HK1, HB⟩ := hrel
          cases gk with
          | zero => exact absurd HA.out (by simp [reedsolomon_matrix_Check.l0])
          | succ k1 =>
            have H := HA.out
            clear HA
            simp only [reedsolomon_matrix_Check.l0] at H
            by_cases c5 : x21_1 < (l0.length : Int)
            · rw [if_pos c5] at H
              have c5b0 : decide (x21_1 < (l0.length : Int)) = true := decide_eq_true c5
              clear c5
              by_cases c6 : 0 ≤ x21_1
              · rw [if_pos c6] at H
                have c6b0 : decide (0 ≤ x21_1) = true := decide_eq_true c6
                clear c6
                by_cases c7 : x21_1 < (l0.length : Int)
                · rw [if_pos c7] at H
                  have c7b0 : decide (x21_1 < (l0.length : Int)) = true := decide_eq_true c7
                  clear c7
                  by_cases c8 : ((rd_L1 l0 x21_1).length : Int) = ((rd_L1 l0 0).length : Int)
                  · rw [if_pos c8] at H
                    have c8b0 : (((rd_L1 l0 x21_1).length : Int) == ((rd_L1 l0 0).length : Int)) = true := beq_iff_eq.mpr c8
                    have c8b1 : (((rd_L1 l0 x21_1).length : Int) != ((rd_L1 l0 0).length : Int)) = false := bne_eq_false_iff_eq.mpr c8
                    have c8b2 : ((rd_L1 l0 x21_1).length == (rd_L1 l0 0).length) = true := by first | simpa using c8 | (simp at c8 ⊢; omega)
                    clear c8
                    have H' := Aside0.mk H
                    clear H
                    have p102 : 0 ≤ (x21_1 : Int) := of_decide_eq_true (by first | (with_reducible assumption) | assumption)
                    have q102 : x21_1 < (l0.length : Int) := of_decide_eq_true (by first | (with_reducible assumption) | assumption)
                    obtain ⟨ad102, A102_0, c102_0, e102, hx102_0, hl102_0, hi102_0⟩ := at_L1 HR0.out x21_1 p102 q102
                    obtain rfl : ad101 = ad102 := (by injection e102)
                    (try replace hx102_0 := (HB.out.cell (World.block_lt_of_cell? w _ hx102_0)).trans hx102_0)
                    have HR102_0 := Aside0.mk hi102_0
                    have HC102_0 := Aside0.mk hl102_0
                    clear hi102_0 hl102_0
                    replace p102 := eq_true p102
                    replace q102 := eq_true q102
                    go_wp2
                    go_roundg k1
                    case measure => have := HK1.out; omega
                    case rel => exact ⟨(wrap64 (x21_1 + 1)), (by first | rfl | (simp; done) | (simp [*]; done)), H', ⟨by have := HK1.out; omega⟩, ⟨by repeat (first | (with_reducible first | exact HB.out | apply below_alloc | apply pw_below_drewN | apply below_drew1) | exact HB.out)⟩⟩
                  · rw [if_neg c8] at H
                    have c8b0 : (((rd_L1 l0 x21_1).length : Int) == ((rd_L1 l0 0).length : Int)) = false := beq_eq_false_iff_ne.mpr c8
                    have c8b1 : (((rd_L1 l0 x21_1).length : Int) != ((rd_L1 l0 0).length : Int)) = true := bne_iff_ne.mpr c8
                    have c8b2 : ((rd_L1 l0 x21_1).length == (rd_L1 l0 0).length) = false := by first | simpa using c8 | (simp at c8 ⊢; omega)
                    obtain rfl := Option.some.inj H
                    have p102 : 0 ≤ (x21_1 : Int) := of_decide_eq_true (by first | (with_reducible assumption) | assumption)
                    have q102 : x21_1 < (l0.length : Int) := of_decide_eq_true (by first | (with_reducible assumption) | assumption)
                    obtain ⟨ad102, A102_0, c102_0, e102, hx102_0, hl102_0, hi102_0⟩ := at_L1 HR0.out x21_1 p102 q102
                    obtain rfl : ad101 = ad102 := (by injection e102)
                    (try replace hx102_0 := (HB.out.cell (World.block_lt_of_cell? w _ hx102_0)).trans hx102_0)
                    have HR102_0 := Aside0.mk hi102_0
                    have HC102_0 := Aside0.mk hl102_0
                    clear hi102_0 hl102_0
                    replace p102 := eq_true p102
                    replace q102 := eq_true q102
                    obtain ⟨qe90007, hgl7⟩ := hGE.out 7 (by decide)
                    have hge7 := (by first | exact (HB.out.cell (World.block_lt_of_cell? _ _ hgl7)).trans hgl7 | exact hgl7)
                    go_wp2
                    go_ret
                    first | exact ⟨qe90007, by first | rfl | (simp [errW_none, errW_some] <;> rfl) | (simp [*, errW_none, errW_some] <;> rfl), by repeat (first | (with_reducible first | exact HB.out | apply below_alloc | apply pw_below_drewN | apply below_drew1) | exact HB.out)⟩ | exact ⟨⟨qe90007, by first | rfl | (simp [errW_none, errW_some] <;> rfl) | (simp [*, errW_none, errW_some] <;> rfl)⟩, by repeat (first | (with_reducible first | exact HB.out | apply below_alloc | apply pw_below_drewN | apply below_drew1) | exact HB.out)⟩
                · rw [if_neg c7] at H
                  exact absurd H (by simp)
              · rw [if_neg c6] at H
                exact absurd H (by simp)
            · rw [if_neg c5] at H
              have c5b0 : decide (x21_1 < (l0.length : Int)) = false := decide_eq_false c5
              clear c5
              obtain rfl := Option.some.inj H
              go_wp2
              go_ret
              first | exact ⟨0, by first | rfl | (simp [errW_none, errW_some] <;> rfl) | (simp [*, errW_none, errW_some] <;> rfl), by repeat (first | (with_reducible first | exact HB.out | apply below_alloc | apply pw_below_drewN | apply below_drew1) | exact HB.out)⟩ | exact ⟨⟨0, by first | rfl | (simp [errW_none, errW_some] <;> rfl) | (simp [*, errW_none, errW_some] <;> rfl)⟩, by repeat (first | (with_reducible first | exact HB.out | apply below_alloc | apply pw_below_drewN | apply below_drew1) | exact HB.out)⟩
    · rw [if_neg c3] at H
      exact absurd H (by simp)
def reedsolomon_DoorCheck.f (k : Nat) (l0 : List (List Int)) : Option (Option Int) := (reedsolomon_matrix_Check.f k l0).bind fun t103 => (some t103)
theorem reedsolomon_DoorCheck.mono : ∀ a0 k, LeO (reedsolomon_DoorCheck.f k a0) (reedsolomon_DoorCheck.f (k + 1) a0) := by
  intro a0 k
  unfold reedsolomon_DoorCheck.f
  repeat' first
      | (with_reducible exact reedsolomon_matrix_Check.mono _ _)
      | (with_reducible exact LeO.refl _)
      | (with_reducible exact LeO.none _)
      | (with_reducible refine LeO.ite ?_ ?_)
      | (with_reducible refine LeO.bind ?_ (fun _ => ?_))
      | exact reedsolomon_matrix_Check.mono _ _
      | exact LeO.none _
      | refine LeO.ite ?_ ?_
      | refine LeO.bind ?_ (fun _ => ?_)
set_option maxHeartbeats 8000000 in
set_option maxRecDepth 100000 in
theorem reedsolomon_DoorCheck.calls (k : Nat) (A0 : Option Addr) (c0 : Nat) (l0 : List (List Int)) (r : Option Int) (w : World) (hGE : GlobE w) (hr0 : Kd.C (Kd.slice 5 (Kd.int .u8)) w A0 l0.length l0) (hc0 : l0.length ≤ c0) (h : reedsolomon_DoorCheck.f k l0 = some r) :
    Calls Tryd.prog 49 #[.slice A0 l0.length c0] w fun e w' => ∃ q0_ : Addr, e = .returned (errW q0_ r) ∧ Below w.heap.size w w' := by
  have HR0 := Aside0.mk hr0
  have HC0 := Aside0.mk hc0
  clear hr0 hc0
  have HB := Aside0.mk (Below.refl w.heap.size w)
  have H : ((reedsolomon_matrix_Check.f k l0).bind fun t103 => (some t103)) = some r := h
  clear h
  replace H := Option.bind_eq_some_iff.mp H
  obtain ⟨t103, A20, H⟩ := H
  replace H : (some t103) = some r := H
  have A2 := Aside0.mk A20
  clear A20
  obtain rfl := Option.some.inj H
  go_enter Tryd.func49, Tryd.ntmps49
  go_wp2_with (first | ((with_reducible refine gate_callee (f := 57) rfl ?_); refine goesL_ (some 4) rfl rfl Tryd.func57 (by kernel_rfl) rfl #[.slice A0 l0.length c0] rfl (by (try simp only [List.map_toArray, List.map_cons, List.map_nil]); first | done | rfl | (simp only [List.length_drop, List.length_take]; rfl)) ?_; (with_reducible refine (reedsolomon_matrix_Check.calls k _ _ l0 t103 _ ?side3 ?side1 ?side2 A2.out).mono ?_); (case side1 => repeat (first | exact HR0.out | (with_reducible refine Kd.C_alloc ?_ _) | (with_reducible refine Kd.C_drewN ?_ _) | (with_reducible refine Kd.C_drew ?_))); (case side2 => exact HC0.out); (case side3 => exact GlobE.below hGE (by repeat (first | (with_reducible first | exact HB.out | apply below_alloc | apply pw_below_drewN | apply below_drew1) | exact HB.out))); rintro e w3 ⟨qe104, rfl, hb⟩; refine ⟨_, rfl, ?_⟩; have n0_ := Aside0.mk (below_step (by repeat (first | (with_reducible first | exact HB.out | apply below_alloc | apply pw_below_drewN | apply below_drew1) | exact HB.out)) hb); clear HB; have HB := n0_; clear n0_; (try clear hb); (try clear hb2); (try clear hk); (try clear hi); (try simp only [errW_none, errW_some])))
  go_ret
  first | exact ⟨qe104, by first | rfl | (simp [errW_none, errW_some] <;> rfl) | (simp [*, errW_none, errW_some] <;> rfl), by repeat (first | (with_reducible first | exact HB.out | apply below_alloc | apply pw_below_drewN | apply below_drew1) | exact HB.out)⟩ | exact ⟨⟨qe104, by first | rfl | (simp [errW_none, errW_some] <;> rfl) | (simp [*, errW_none, errW_some] <;> rfl)⟩, by repeat (first | (with_reducible first | exact HB.out | apply below_alloc | apply pw_below_drewN | apply below_drew1) | exact HB.out)⟩
def impl_isMatrix.f (k : Nat) (l0 : List (List Int)) : Option (Bool) := (reedsolomon_DoorCheck.f k l0).bind fun t105 => (if t105.isNone = true then (some true) else (some false))
theorem impl_isMatrix.mono : ∀ a0 k, LeO (impl_isMatrix.f k a0) (impl_isMatrix.f (k + 1) a0) := by
  intro a0 k
  unfold impl_isMatrix.f
  repeat' first
      | (with_reducible exact reedsolomon_DoorCheck.mono _ _)
      | (with_reducible exact LeO.refl _)
      | (with_reducible exact LeO.none _)
      | (with_reducible refine LeO.ite ?_ ?_)
      | (with_reducible refine LeO.bind ?_ (fun _ => ?_))
      | exact reedsolomon_DoorCheck.mono _ _
      | exact LeO.none _
      | refine LeO.ite ?_ ?_
      | refine LeO.bind ?_ (fun _ => ?_)
set_option maxHeartbeats 8000000 in
set_option maxRecDepth 100000 in
theorem impl_isMatrix.calls (k : Nat) (A0 : Option Addr) (c0 : Nat) (l0 : List (List Int)) (r : Bool) (w : World) (hGE : GlobE w) (hr0 : Kd.C (Kd.slice 5 (Kd.int .u8)) w A0 l0.length l0) (hc0 : l0.length ≤ c0) (h : impl_isMatrix.f k l0 = some r) :
    Calls Tryd.prog 34 #[.slice A0 l0.length c0] w fun e w' => e = .returned (.bool r) ∧ Below w.heap.size w w' := by
  have hu52 := Tryd.underlying52
  have HR0 := Aside0.mk hr0
  have HC0 := Aside0.mk hc0
  clear hr0 hc0
  have HB := Aside0.mk (Below.refl w.heap.size w)
  have H : ((reedsolomon_DoorCheck.f k l0).bind fun t105 => (if t105.isNone = true then (some true) else (some false))) = some r := h
  clear h
  replace H := Option.bind_eq_some_iff.mp H
  obtain ⟨t105, A20, H⟩ := H
  replace H : (if t105.isNone = true then (some true) else (some false)) = some r := H
  have A2 := Aside0.mk A20
  clear A20
  rcases t105 with _ | q107
  · have H1 : (some true) = some r := by rw [if_pos (show (none : Option Int).isNone = true by rfl)] at H; exact H
    clear H
    have H := H1
    clear H1
    try simp only [errW_none, errW_some]
    obtain rfl := Option.some.inj H
    go_enter Tryd.func34, Tryd.ntmps34
    go_wp2_with (first | ((with_reducible refine gate_callee (f := 49) rfl ?_); refine goesL_ (some 4) rfl rfl Tryd.func49 (by kernel_rfl) rfl #[.slice A0 l0.length c0] rfl (by (try simp only [List.map_toArray, List.map_cons, List.map_nil]); first | done | rfl | (simp only [List.length_drop, List.length_take]; rfl)) ?_; (with_reducible refine (reedsolomon_DoorCheck.calls k _ _ l0 none _ ?side3 ?side1 ?side2 A2.out).mono ?_); (case side1 => repeat (first | exact HR0.out | (with_reducible refine Kd.C_alloc ?_ _) | (with_reducible refine Kd.C_drewN ?_ _) | (with_reducible refine Kd.C_drew ?_))); (case side2 => exact HC0.out); (case side3 => exact GlobE.below hGE (by repeat (first | (with_reducible first | exact HB.out | apply below_alloc | apply pw_below_drewN | apply below_drew1) | exact HB.out))); rintro e w3 ⟨qe106, rfl, hb⟩; refine ⟨_, rfl, ?_⟩; have n0_ := Aside0.mk (below_step (by repeat (first | (with_reducible first | exact HB.out | apply below_alloc | apply pw_below_drewN | apply below_drew1) | exact HB.out)) hb); clear HB; have HB := n0_; clear n0_; (try clear hb); (try clear hb2); (try clear hk); (try clear hi); (try simp only [errW_none, errW_some])))
    go_ret
    exact ⟨by first | rfl | (simp [errW_none, errW_some] <;> rfl) | (simp [*, errW_none, errW_some] <;> rfl), by repeat (first | (with_reducible first | exact HB.out | apply below_alloc | apply pw_below_drewN | apply below_drew1) | exact HB.out)⟩
  · have H1 : (some false) = some r := by rw [if_neg (show ¬ (some q107).isNone = true by simp)] at H; exact H
    clear H
    have H := H1
    clear H1
    try simp only [errW_none, errW_some]
    obtain rfl := Option.some.inj H
    go_enter Tryd.func34, Tryd.ntmps34
    go_wp2_with (first | ((with_reducible refine gate_callee (f := 49) rfl ?_); refine goesL_ (some 4) rfl rfl Tryd.func49 (by kernel_rfl) rfl #[.slice A0 l0.length c0] rfl (by (try simp only [List.map_toArray, List.map_cons, List.map_nil]); first | done | rfl | (simp only [List.length_drop, List.length_take]; rfl)) ?_; (with_reducible refine (reedsolomon_DoorCheck.calls k _ _ l0 (some q107) _ ?side3 ?side1 ?side2 A2.out).mono ?_); (case side1 => repeat (first | exact HR0.out | (with_reducible refine Kd.C_alloc ?_ _) | (with_reducible refine Kd.C_drewN ?_ _) | (with_reducible refine Kd.C_drew ?_))); (case side2 => exact HC0.out); (case side3 => exact GlobE.below hGE (by repeat (first | (with_reducible first | exact HB.out | apply below_alloc | apply pw_below_drewN | apply below_drew1) | exact HB.out))); rintro e w4 ⟨qe106, rfl, hb⟩; refine ⟨_, rfl, ?_⟩; have n0_ := Aside0.mk (below_step (by repeat (first | (with_reducible first | exact HB.out | apply below_alloc | apply pw_below_drewN | apply below_drew1) | exact HB.out)) hb); clear HB; have HB := n0_; clear n0_; (try clear hb); (try clear hb2); (try clear hk); (try clear hi); (try simp only [errW_none, errW_some])))
    go_ret
    exact ⟨by first | rfl | (simp [errW_none, errW_some] <;> rfl) | (simp [*, errW_none, errW_some] <;> rfl), by repeat (first | (with_reducible first | exact HB.out | apply below_alloc | apply pw_below_drewN | apply below_drew1) | exact HB.out)⟩
def impl_rows.l0 : Nat → List (List Int) → List (List Int) → Int → Int → Option ((List (List Int)))
  | 0, _, _, _, _ => none
  | k + 1, x3, x6, x7, x8 => if x8 < x7 then (if 0 ≤ x8 then (if x8 < (x6.length : Int) then (if ([] : List Int).length + (rd_L1 x6 x8).length < 140737488355328 then (if x3.length < 5864062014805 then (impl_rows.l0 k (x3 ++ [(([] : List Int) ++ (rd_L1 x6 x8))]) x6 x7 (wrap64 (x8 + 1))) else (none)) else (none)) else (none)) else (none)) else (some x3)
def impl_rows.f (k : Nat) (l0 : List (List Int)) : Option ((List (List Int))) := impl_rows.l0 k ([] : List (List Int)) l0 (l0.length : Int) 0
theorem impl_rows.mono_l : ∀ k, (∀ y0 y1 y2 y3, LeO (impl_rows.l0 k y0 y1 y2 y3) (impl_rows.l0 (k + 1) y0 y1 y2 y3))
  | 0 => fun _ _ _ _ r h => by simp [impl_rows.l0] at h
  | k + 1 => by
    have ih0 := impl_rows.mono_l k
    · intro y0 y1 y2 y3
      unfold impl_rows.l0
      repeat' first
      | (with_reducible exact ih0 _ _ _ _)
      | (with_reducible exact LeO.refl _)
      | (with_reducible exact LeO.none _)
      | (with_reducible refine LeO.ite ?_ ?_)
      | (with_reducible refine LeO.bind ?_ (fun _ => ?_))
      | exact ih0 _ _ _ _
      | exact LeO.none _
      | refine LeO.ite ?_ ?_
      | refine LeO.bind ?_ (fun _ => ?_)
theorem impl_rows.mono : ∀ a0 k, LeO (impl_rows.f k a0) (impl_rows.f (k + 1) a0) := by
  intro a0 k
  have ih0 := impl_rows.mono_l k
  unfold impl_rows.f
  repeat' first
      | (with_reducible exact ih0 _ _ _ _)
      | (with_reducible exact LeO.refl _)
      | (with_reducible exact LeO.none _)
      | (with_reducible refine LeO.ite ?_ ?_)
      | (with_reducible refine LeO.bind ?_ (fun _ => ?_))
      | exact ih0 _ _ _ _
      | exact LeO.none _
      | refine LeO.ite ?_ ?_
      | refine LeO.bind ?_ (fun _ => ?_)
set_option maxHeartbeats 8000000 in
set_option maxRecDepth 100000 in
theorem impl_rows.calls (k : Nat) (A0 : Option Addr) (c0 : Nat) (l0 : List (List Int)) (r : List (List Int)) (w : World) (hr0 : Kd.C (Kd.slice 5 (Kd.int .u8)) w A0 l0.length l0) (hc0 : l0.length ≤ c0) (h : impl_rows.f k l0 = some r) :
    Calls Tryd.prog 36 #[.slice A0 l0.length c0] w fun e w' => ∃ v0_ : Value, e = .returned (v0_) ∧ Kd.S (Kd.slice 5 (Kd.int .u8)) 22 w' w.heap.size (fun _ => True) v0_ r ∧ Below w.heap.size w w' := by
  have HR0 := Aside0.mk hr0
  have HC0 := Aside0.mk hc0
  clear hr0 hc0
  have HB := Aside0.mk (Below.refl w.heap.size w)
  have H : (impl_rows.l0 k ([] : List (List Int)) l0 (l0.length : Int) 0) = some r := h
  clear h
  have H' := Aside0.mk H
  clear H
  go_enter Tryd.func36, Tryd.ntmps36
  go_wp2
  try simp only [Act.put, List.setIfInBounds_toArray, List.set_cons_zero, List.set_cons_succ]
  go_loopg [3, 8] k (fun kq v3 v8 w' => ∃ (x3_1 : List (List Int)) (x8_1 : Int), v8 = .int .i64 x8_1 ∧ Aside0 (impl_rows.l0 kq x3_1 l0 (l0.length : Int) x8_1 = some r) ∧ Aside0 (kq ≤ k) ∧ Aside0 (Kd.S (Kd.slice 5 (Kd.int .u8)) 22 w' w.heap.size (fun _ => True) v3 x3_1) ∧ Aside0 (Below w.heap.size w w'))
  case atStart => exact ⟨(([] : List (List Int))), (0), (by first | rfl | (simp; done) | (simp [*]; done)), H', ⟨Nat.le_refl _⟩, ⟨by first | exact Kd.S_nil _ _ _ _ _ | exact Kd.N_nil _ _ _ _ _ | exact Kd.V_nil _ _ _ _ _ | exact Kd.Q_nil _ _ _ _ _ | exact Kd.R_nil _ _ _ _ _⟩, ⟨by repeat (first | (with_reducible first | exact HB.out | apply below_alloc | apply pw_below_drewN | apply below_drew1) | exact HB.out)⟩⟩
  case round =>
    clear H'
    obtain ⟨x3_1, x8_1, rfl, HA, HK1, HO_3, HB⟩ := hrel
    cases gk with
    | zero => exact absurd HA.out (by simp [impl_rows.l0])
    | succ k1 =>
      have H := HA.out
      clear HA
      simp only [impl_rows.l0] at H
      by_cases c2 : x8_1 < (l0.length : Int)
      · rw [if_pos c2] at H
        have c2b0 : decide (x8_1 < (l0.length : Int)) = true := decide_eq_true c2
        clear c2
        by_cases c3 : 0 ≤ x8_1
        · rw [if_pos c3] at H
          have c3b0 : decide (0 ≤ x8_1) = true := decide_eq_true c3
          clear c3
          by_cases c4 : x8_1 < (l0.length : Int)
          · rw [if_pos c4] at H
            have c4b0 : decide (x8_1 < (l0.length : Int)) = true := decide_eq_true c4
            clear c4
            by_cases c5 : ([] : List Int).length + (rd_L1 l0 x8_1).length < 140737488355328
            · rw [if_pos c5] at H
              have LMc5 := Aside0.mk c5
              clear c5
              obtain ⟨y109, hy109⟩ : ∃ y_ : List Int, y_ = (([] : List Int) ++ (rd_L1 l0 x8_1)) := ⟨_, rfl⟩
              replace H : (if x3_1.length < 5864062014805 then (impl_rows.l0 k1 (x3_1 ++ [y109]) l0 (l0.length : Int) (wrap64 (x8_1 + 1))) else (none)) = some r := by first | (rw [hy109]; with_reducible exact H) | (have H2_ := (Option.bind_some _ _).symm.trans H; rw [hy109]; with_reducible exact H2_) | (have H2_ := (Option.bind_some _ _).symm.trans H; with_reducible exact H2_) | with_reducible exact H | (rw [hy109]; exact H) | exact H
              have Ny109 := Aside0.mk hy109
              clear hy109
              by_cases c6 : x3_1.length < 5864062014805
              · rw [if_pos c6] at H
                have LMc6 := Aside0.mk c6
                clear c6
                obtain ⟨y112, hy112⟩ : ∃ y_ : List (List Int), y_ = (x3_1 ++ [y109]) := ⟨_, rfl⟩
                replace H : (impl_rows.l0 k1 y112 l0 (l0.length : Int) (wrap64 (x8_1 + 1))) = some r := by first | (rw [hy112]; with_reducible exact H) | (have H2_ := (Option.bind_some _ _).symm.trans H; rw [hy112]; with_reducible exact H2_) | (have H2_ := (Option.bind_some _ _).symm.trans H; with_reducible exact H2_) | with_reducible exact H | (rw [hy112]; exact H) | exact H
                have Ny112 := Aside0.mk hy112
                clear hy112
                have H' := Aside0.mk H
                clear H
                have p108 : 0 ≤ (x8_1 : Int) := of_decide_eq_true (by first | (with_reducible assumption) | assumption)
                have q108 : x8_1 < (l0.length : Int) := of_decide_eq_true (by first | (with_reducible assumption) | assumption)
                obtain ⟨ad108, A108_0, c108_0, e108, hx108_0, hl108_0, hi108_0⟩ := at_L1 HR0.out x8_1 p108 q108
                cases e108
                (try replace hx108_0 := (HB.out.cell (World.block_lt_of_cell? w _ hx108_0)).trans hx108_0)
                have HR108_0 := Aside0.mk hi108_0
                have HC108_0 := Aside0.mk hl108_0
                clear hi108_0 hl108_0
                replace p108 := eq_true p108
                replace q108 := eq_true q108
                go_wp2_with (first | ((with_reducible refine gate_builtin (b := .append) (xs := #[.const (.slice none 0 0), .tmp 13]) rfl ?_); at_builtin; refine Kd.R_append_rows (Kd.int .u8) (w0 := w) w.heap.size rfl (.const (.slice none 0 0)) (.tmp 13) 22 5 (.int .u8 0) 1 rfl Tryd.underlying22 info5 rfl (by decide) (by omega) (.slice none 0 0) ([] : List Int) (rd_L1 l0 x8_1) _ _ _ (fun _ => True) (fun _ => False) rfl rfl ?aO ?aR (fun _ _ h => h) (fun _ h => h.elim) ?aF ?aB ?aS ?aL ?_; (case aR => repeat (first | exact (Kd.C_below HR108_0.out HB.out) | (with_reducible refine Kd.C_alloc ?_ _) | (with_reducible refine Kd.C_drewN ?_ _) | (with_reducible refine Kd.C_drew ?_))); (case aB => exact (by repeat (first | (with_reducible first | exact HB.out | apply below_alloc | apply pw_below_drewN | apply below_drew1) | exact HB.out))); (case aF => exact (fun _ _ => trivial)); (case aO => exact ((Kd.R_nil _ _ _ _ (fun _ => True)))); (case aS => exact (below_size (by repeat (first | (with_reducible first | exact HB.out | apply below_alloc | apply pw_below_drewN | apply below_drew1) | exact HB.out)))); (case aL => have := LMc5.out; omega); intro v110 w7 ho hb hg hat; rw [← Ny109.out] at ho; have n0_ := Aside0.mk (Kd.S_after (Kd.S_apart_nil (by (with_reducible repeat (first | apply Kd.S_alloc | apply Kd.S_drewN | apply Kd.S_drew)); exact HO_3.out)) hg hat); have n1_ := Aside0.mk (hb); have n2_ := Aside0.mk (ho); clear HO_3; clear HB; have HO_3 := n0_; have HB := n1_; have HO111 := n2_; clear n0_ n1_ n2_; clear ho hb hg hat; obtain ⟨Ao9, co9, eo9⟩ := Kd.R_slice HO111.out; subst eo9) | ((with_reducible refine gate_builtin (b := .append) (xs := #[.tmp 12, .tmp 15]) rfl ?_); at_builtin; refine Kd.S_append (Kd.slice 5 (Kd.int .u8)) (w0 := w) w.heap.size rfl (.tmp 12) (.tmp 15) 30 22 (.slice none 0 0) 24 rfl Tryd.underlying30 info22 rfl (by decide) (by omega) u3 x3_1 y109 [.slice Ao9 y109.length co9] (fun _ => True) (fun k_ => some k_ = (.slice Ao9 y109.length co9 : Value).ownBlock) rfl rfl ?aP (fun k_ hk_ => ((Kd.R_mono (ok' := fun k_ => ((fun _ => True)) k_ ∧ some k_ ≠ (u3 : Value).ownBlock) (Kd.R_apart' (HO111.out) (Kd.S_typed HO_3.out) (by decide)) (fun k_ hk => ⟨trivial, hk.2⟩))).1 k_ hk_.symm) ?aF ?aO ?aB ?aS ?aL ?_; (case aP => exact Kd.M_row (Kd.R_mono (Kd.R_tight rfl (Kd.R_mono (ok' := fun k_ => ((fun _ => True)) k_ ∧ some k_ ≠ (u3 : Value).ownBlock) (Kd.R_apart' (HO111.out) (Kd.S_typed HO_3.out) (by decide)) (fun k_ hk => ⟨trivial, hk.2⟩))) (fun _ h_ => h_))); (case aB => exact (by repeat (first | (with_reducible first | exact HB.out | apply below_alloc | apply pw_below_drewN | apply below_drew1) | exact HB.out))); (case aF => exact (fun _ _ => trivial)); (case aO => exact (by (with_reducible repeat (first | apply Kd.S_alloc | apply Kd.S_drewN | apply Kd.S_drew)); exact Kd.S_mono HO_3.out (fun k_ hk => ⟨trivial, fun e_ => hk.2 e_⟩))); (case aS => exact (below_size (by repeat (first | (with_reducible first | exact HB.out | apply below_alloc | apply pw_below_drewN | apply below_drew1) | exact HB.out)))); (case aL => have := LMc6.out; omega); intro v113 w8 ho hb hg hat; rw [← Ny112.out] at ho; have n0_ := Aside0.mk (hb); have n1_ := Aside0.mk (ho); clear HB; clear HO_3; clear HO111; have HB := n0_; have HO114 := n1_; clear n0_ n1_; clear ho hb hg hat))
                go_roundg k1
                case measure => have := HK1.out; omega
                case rel => exact ⟨(y112), (wrap64 (x8_1 + 1)), (by first | rfl | (simp; done) | (simp [*]; done)), H', ⟨by have := HK1.out; omega⟩, ⟨by (with_reducible repeat (first | apply Kd.S_alloc | apply Kd.S_drewN | apply Kd.S_drew)); exact HO114.out⟩, ⟨by repeat (first | (with_reducible first | exact HB.out | apply below_alloc | apply pw_below_drewN | apply below_drew1) | exact HB.out)⟩⟩
              · rw [if_neg c6] at H
                exact absurd H (by simp)
            · rw [if_neg c5] at H
              exact absurd H (by simp)
          · rw [if_neg c4] at H
            exact absurd H (by simp)
        · rw [if_neg c3] at H
          exact absurd H (by simp)
      · rw [if_neg c2] at H
        have c2b0 : decide (x8_1 < (l0.length : Int)) = false := decide_eq_false c2
        clear c2
        obtain rfl := Option.some.inj H
        go_wp2
        go_ret
        exact ⟨_, by first | rfl | (simp [errW_none, errW_some] <;> rfl) | (simp [*, errW_none, errW_some] <;> rfl), by (with_reducible repeat (first | apply Kd.S_alloc | apply Kd.S_drewN | apply Kd.S_drew)); exact HO_3.out, by repeat (first | (with_reducible first | exact HB.out | apply below_alloc | apply pw_below_drewN | apply below_drew1) | exact HB.out)⟩
def reedsolomon_newMatrix.l0 : Nat → Int → List (List Int) → Int → Int → Option ((List (List Int)) × Option Int)
  | 0, _, _, _, _ => none
  | k + 1, x1, x6, x17, x18 => if x18 < x17 then (if 0 ≤ x1 then (if (x1 : Int).toNat ≤ 281474976710656 then (if 0 ≤ x18 then (if x18 < (x6.length : Int) then (reedsolomon_newMatrix.l0 k x1 (x6.set (x18 : Int).toNat (List.replicate (x1 : Int).toNat 0)) x17 (wrap64 (x18 + 1))) else (none)) else (none)) else (none)) else (none)) else (some (x6, none))
def reedsolomon_newMatrix.f (k : Nat) (a0 : Int) (a1 : Int) : Option ((List (List Int)) × Option Int) := if a0 ≤ 0 then (some (([] : List (List Int)), some 0)) else (if a1 ≤ 0 then (some (([] : List (List Int)), some 0)) else (if 0 ≤ a0 then (if (a0 : Int).toNat ≤ 11728124029610 then ((some (List.replicate (a0 : Int).toNat [] : List (List Int))).bind fun y115 => (reedsolomon_newMatrix.l0 k a1 y115 (y115.length : Int) 0)) else (none)) else (none)))
theorem reedsolomon_newMatrix.mono_l : ∀ k, (∀ y0 y1 y2 y3, LeO (reedsolomon_newMatrix.l0 k y0 y1 y2 y3) (reedsolomon_newMatrix.l0 (k + 1) y0 y1 y2 y3))
  | 0 => fun _ _ _ _ r h => by simp [reedsolomon_newMatrix.l0] at h
  | k + 1 => by
    have ih0 := reedsolomon_newMatrix.mono_l k
    · intro y0 y1 y2 y3
      unfold reedsolomon_newMatrix.l0
      repeat' first
      | (with_reducible exact ih0 _ _ _ _)
      | (with_reducible exact LeO.refl _)
      | (with_reducible exact LeO.none _)
      | (with_reducible refine LeO.ite ?_ ?_)
      | (with_reducible refine LeO.bind ?_ (fun _ => ?_))
      | exact ih0 _ _ _ _
      | exact LeO.none _
      | refine LeO.ite ?_ ?_
      | refine LeO.bind ?_ (fun _ => ?_)
theorem reedsolomon_newMatrix.mono : ∀ a0 a1 k, LeO (reedsolomon_newMatrix.f k a0 a1) (reedsolomon_newMatrix.f (k + 1) a0 a1) := by
  intro a0 a1 k
  have ih0 := reedsolomon_newMatrix.mono_l k
  unfold reedsolomon_newMatrix.f
  repeat' first
      | (with_reducible exact ih0 _ _ _ _)
      | (with_reducible exact LeO.refl _)
      | (with_reducible exact LeO.none _)
      | (with_reducible refine LeO.ite ?_ ?_)
      | (with_reducible refine LeO.bind ?_ (fun _ => ?_))
      | exact ih0 _ _ _ _
      | exact LeO.none _
      | refine LeO.ite ?_ ?_
      | refine LeO.bind ?_ (fun _ => ?_)
set_option maxHeartbeats 8000000 in
set_option maxRecDepth 100000 in
theorem reedsolomon_newMatrix.calls (k : Nat) (a0 : Int) (a1 : Int) (r1 : List (List Int)) (r2 : Option Int) (w : World) (hGE : GlobE w) (h : reedsolomon_newMatrix.f k a0 a1 = some (r1, r2)) :
    Calls Tryd.prog 58 #[.int .i64 a0, .int .i64 a1] w fun e w' => ∃ v0_ : Value, ∃ q1_ : Addr, e = .returned (.tuple #[v0_, errW q1_ r2]) ∧ Kd.S (Kd.slice 5 (Kd.int .u8)) 22 w' w.heap.size (fun _ => True) v0_ r1 ∧ Below w.heap.size w w' := by
  have HB := Aside0.mk (Below.refl w.heap.size w)
  have H : (if a0 ≤ 0 then (some (([] : List (List Int)), some 0)) else (if a1 ≤ 0 then (some (([] : List (List Int)), some 0)) else (if 0 ≤ a0 then (if (a0 : Int).toNat ≤ 11728124029610 then ((some (List.replicate (a0 : Int).toNat [] : List (List Int))).bind fun y115 => (reedsolomon_newMatrix.l0 k a1 y115 (y115.length : Int) 0)) else (none)) else (none)))) = some (r1, r2) := h
  clear h
  by_cases c3 : a0 ≤ 0
  · rw [if_pos c3] at H
    have c3b0 : decide (a0 ≤ 0) = true := decide_eq_true c3
    clear c3
    simp only [Option.some.injEq, Prod.mk.injEq] at H
    obtain ⟨rfl, rfl⟩ := H
    obtain ⟨qe90005, hgl5⟩ := hGE.out 5 (by decide)
    have hge5 := (by first | exact (HB.out.cell (World.block_lt_of_cell? _ _ hgl5)).trans hgl5 | exact hgl5)
    go_enter Tryd.func58, Tryd.ntmps58
    go_wp2
    repeat (go_quiet (fail); try go_wp2)
    go_ret2
    first | exact ⟨_, qe90005, by first | rfl | (simp [errW_none, errW_some] <;> rfl) | (simp [*, errW_none, errW_some] <;> rfl), by first | exact Kd.S_nil _ _ _ _ _ | exact Kd.N_nil _ _ _ _ _ | exact Kd.V_nil _ _ _ _ _ | exact Kd.Q_nil _ _ _ _ _ | exact Kd.R_nil _ _ _ _ _, by repeat (first | (with_reducible first | exact HB.out | apply below_alloc | apply pw_below_drewN | apply below_drew1) | exact HB.out)⟩ | exact ⟨_, ⟨qe90005, by first | rfl | (simp [errW_none, errW_some] <;> rfl) | (simp [*, errW_none, errW_some] <;> rfl)⟩, by first | exact Kd.S_nil _ _ _ _ _ | exact Kd.N_nil _ _ _ _ _ | exact Kd.V_nil _ _ _ _ _ | exact Kd.Q_nil _ _ _ _ _ | exact Kd.R_nil _ _ _ _ _, by repeat (first | (with_reducible first | exact HB.out | apply below_alloc | apply pw_below_drewN | apply below_drew1) | exact HB.out)⟩
  · rw [if_neg c3] at H
    have c3b0 : decide (a0 ≤ 0) = false := decide_eq_false c3
    clear c3
    by_cases c4 : a1 ≤ 0
    · rw [if_pos c4] at H
      have c4b0 : decide (a1 ≤ 0) = true := decide_eq_true c4
      clear c4
      simp only [Option.some.injEq, Prod.mk.injEq] at H
      obtain ⟨rfl, rfl⟩ := H
      obtain ⟨qe90006, hgl6⟩ := hGE.out 6 (by decide)
      have hge6 := (by first | exact (HB.out.cell (World.block_lt_of_cell? _ _ hgl6)).trans hgl6 | exact hgl6)
      go_enter Tryd.func58, Tryd.ntmps58
      go_wp2
      repeat (go_quiet (fail); try go_wp2)
      go_ret2
      first | exact ⟨_, qe90006, by first | rfl | (simp [errW_none, errW_some] <;> rfl) | (simp [*, errW_none, errW_some] <;> rfl), by first | exact Kd.S_nil _ _ _ _ _ | exact Kd.N_nil _ _ _ _ _ | exact Kd.V_nil _ _ _ _ _ | exact Kd.Q_nil _ _ _ _ _ | exact Kd.R_nil _ _ _ _ _, by repeat (first | (with_reducible first | exact HB.out | apply below_alloc | apply pw_below_drewN | apply below_drew1) | exact HB.out)⟩ | exact ⟨_, ⟨qe90006, by first | rfl | (simp [errW_none, errW_some] <;> rfl) | (simp [*, errW_none, errW_some] <;> rfl)⟩, by first | exact Kd.S_nil _ _ _ _ _ | exact Kd.N_nil _ _ _ _ _ | exact Kd.V_nil _ _ _ _ _ | exact Kd.Q_nil _ _ _ _ _ | exact Kd.R_nil _ _ _ _ _, by repeat (first | (with_reducible first | exact HB.out | apply below_alloc | apply pw_below_drewN | apply below_drew1) | exact HB.out)⟩
    · rw [if_neg c4] at H
      have c4b0 : decide (a1 ≤ 0) = false := decide_eq_false c4
      clear c4
      by_cases c5 : 0 ≤ a0
      · rw [if_pos c5] at H
        have c5b0 := eq_true c5
        have c5b1 : decide (0 ≤ a0) = true := decide_eq_true c5
        clear c5
        by_cases c6 : (a0 : Int).toNat ≤ 11728124029610
        · rw [if_pos c6] at H
          have c6b0 := eq_true c6
          have c6b1 : decide ((a0 : Int).toNat ≤ 11728124029610) = true := decide_eq_true c6
          clear c6
          obtain ⟨y115, hy115⟩ : ∃ y_ : List (List Int), y_ = (List.replicate (a0 : Int).toNat []) := ⟨_, rfl⟩
          replace H : (reedsolomon_newMatrix.l0 k a1 y115 (y115.length : Int) 0) = some (r1, r2) := by first | (rw [hy115]; with_reducible exact H) | (have H2_ := (Option.bind_some _ _).symm.trans H; rw [hy115]; with_reducible exact H2_) | (have H2_ := (Option.bind_some _ _).symm.trans H; with_reducible exact H2_) | with_reducible exact H | (rw [hy115]; exact H) | exact H
          have Ny115 := Aside0.mk hy115
          clear hy115
          have H' := Aside0.mk H
          clear H
          go_enter Tryd.func58, Tryd.ntmps58
          go_wp2_with (first | ((with_reducible refine gate_dst (N := 15) rfl ?_); refine Kd.S_make (Kd.slice 5 (Kd.int .u8)) _ 22 rfl (N := 15) rfl 30 _ _ rfl a0 rfl rfl Tryd.underlying30 (.slice none 0 0) 24 info22 rfl (by decide) (by omega) [] (ok := fun _ => True) (okp := fun _ => True) ⟨_, rfl, Kd.R_nil _ _ _ _ _⟩ (fun _ hk => hk) trivial (of_decide_eq_true (by first | (with_reducible assumption) | assumption)) (Nat.le_trans (Nat.mul_le_mul_right _ (of_decide_eq_true (by first | (with_reducible assumption) | assumption) : a0.toNat ≤ 11728124029610)) (by omega)) (Below.refl _ _) (Nat.le_refl _) ?_; intro v116 w7 ho8 hb hg_ hnew_; clear hg_ hnew_; (first | rw [← Ny115.out] at ho8 | (simp only [Int.reduceToNat] at ho8; rw [← Ny115.out] at ho8)); have n0_ := Aside0.mk (Kd.S_lower ho8 (below_size (by repeat (first | (with_reducible first | exact HB.out | apply below_alloc | apply pw_below_drewN | apply below_drew1) | exact HB.out)))); have n1_ := Aside0.mk (below_step (by repeat (first | (with_reducible first | exact HB.out | apply below_alloc | apply pw_below_drewN | apply below_drew1) | exact HB.out)) hb); clear HB; have HO117 := n0_; have HB := n1_; clear n0_ n1_; clear hb ho8; obtain ⟨Ao9, co9, eo9⟩ := Kd.S_slice HO117.out; subst eo9))
          repeat (go_quiet (first | ((with_reducible refine gate_dst (N := 15) rfl ?_); refine Kd.S_make (Kd.slice 5 (Kd.int .u8)) _ 22 rfl (N := 15) rfl 30 _ _ rfl a0 rfl rfl Tryd.underlying30 (.slice none 0 0) 24 info22 rfl (by decide) (by omega) [] (ok := fun _ => True) (okp := fun _ => True) ⟨_, rfl, Kd.R_nil _ _ _ _ _⟩ (fun _ hk => hk) trivial (of_decide_eq_true (by first | (with_reducible assumption) | assumption)) (Nat.le_trans (Nat.mul_le_mul_right _ (of_decide_eq_true (by first | (with_reducible assumption) | assumption) : a0.toNat ≤ 11728124029610)) (by omega)) (Below.refl _ _) (Nat.le_refl _) ?_; intro v116 w7 ho8 hb hg_ hnew_; clear hg_ hnew_; (first | rw [← Ny115.out] at ho8 | (simp only [Int.reduceToNat] at ho8; rw [← Ny115.out] at ho8)); have n0_ := Aside0.mk (Kd.S_lower ho8 (below_size (by repeat (first | (with_reducible first | exact HB.out | apply below_alloc | apply pw_below_drewN | apply below_drew1) | exact HB.out)))); have n1_ := Aside0.mk (below_step (by repeat (first | (with_reducible first | exact HB.out | apply below_alloc | apply pw_below_drewN | apply below_drew1) | exact HB.out)) hb); clear HB; have HO117 := n0_; have HB := n1_; clear n0_ n1_; clear hb ho8; obtain ⟨Ao9, co9, eo9⟩ := Kd.S_slice HO117.out; subst eo9)); try go_wp2_with (first | ((with_reducible refine gate_dst (N := 15) rfl ?_); refine Kd.S_make (Kd.slice 5 (Kd.int .u8)) _ 22 rfl (N := 15) rfl 30 _ _ rfl a0 rfl rfl Tryd.underlying30 (.slice none 0 0) 24 info22 rfl (by decide) (by omega) [] (ok := fun _ => True) (okp := fun _ => True) ⟨_, rfl, Kd.R_nil _ _ _ _ _⟩ (fun _ hk => hk) trivial (of_decide_eq_true (by first | (with_reducible assumption) | assumption)) (Nat.le_trans (Nat.mul_le_mul_right _ (of_decide_eq_true (by first | (with_reducible assumption) | assumption) : a0.toNat ≤ 11728124029610)) (by omega)) (Below.refl _ _) (Nat.le_refl _) ?_; intro v116 w7 ho8 hb hg_ hnew_; clear hg_ hnew_; (first | rw [← Ny115.out] at ho8 | (simp only [Int.reduceToNat] at ho8; rw [← Ny115.out] at ho8)); have n0_ := Aside0.mk (Kd.S_lower ho8 (below_size (by repeat (first | (with_reducible first | exact HB.out | apply below_alloc | apply pw_below_drewN | apply below_drew1) | exact HB.out)))); have n1_ := Aside0.mk (below_step (by repeat (first | (with_reducible first | exact HB.out | apply below_alloc | apply pw_below_drewN | apply below_drew1) | exact HB.out)) hb); clear HB; have HO117 := n0_; have HB := n1_; clear n0_ n1_; clear hb ho8; obtain ⟨Ao9, co9, eo9⟩ := Kd.S_slice HO117.out; subst eo9)))
          try simp only [Act.put, List.setIfInBounds_toArray, List.set_cons_zero, List.set_cons_succ]
          go_loopg [18] k (fun kq v18 w' => ∃ (x6_1 : List (List Int)) (x18_1 : Int), v18 = .int .i64 x18_1 ∧ Aside0 (reedsolomon_newMatrix.l0 kq a1 x6_1 (y115.length : Int) x18_1 = some (r1, r2)) ∧ Aside0 (kq ≤ k) ∧ Aside0 (Kd.S (Kd.slice 5 (Kd.int .u8)) 22 w' w.heap.size (fun _ => True) (.slice Ao9 y115.length co9) x6_1) ∧ Aside0 (Below w.heap.size w w'))
          case atStart => exact ⟨(y115), (0), (by first | rfl | (simp; done) | (simp [*]; done)), H', ⟨Nat.le_refl _⟩, ⟨by (with_reducible repeat (first | apply Kd.S_alloc | apply Kd.S_drewN | apply Kd.S_drew)); exact HO117.out⟩, ⟨by repeat (first | (with_reducible first | exact HB.out | apply below_alloc | apply pw_below_drewN | apply below_drew1) | exact HB.out)⟩⟩
          case round =>
            clear H'
            try clear p2
            try clear c3
            try clear c3b0
            try clear c4
            try clear c4b0
            try clear c5
            try clear c5b0
            try clear c5b1
            try clear c6
            try clear c6b0
            try clear c6b1
            obtain ⟨x6_1, x18_1, rfl, HA, HK1, HO_6, HB⟩ := hrel
            have hl6_1 := (Kd.S_reads' HO_6.out).1
            rw [hl6_1] at HO_6
            (try simp only [hl6_1])
            cases gk with
            | zero => exact absurd HA.out (by simp [reedsolomon_newMatrix.l0])
            | succ k1 =>
              have H := HA.out
              clear HA
              simp only [reedsolomon_newMatrix.l0] at H
              by_cases c10 : x18_1 < (y115.length : Int)
              · rw [if_pos c10] at H
                have c10b0 : decide (x18_1 < (y115.length : Int)) = true := decide_eq_true c10
                (try simp only [hl6_1] at c10b0); (try simp only [hl6_1] at c10b0)
                clear c10
                by_cases c11 : 0 ≤ a1
                · rw [if_pos c11] at H
                  have c11b0 := eq_true c11
                  have c11b1 : decide (0 ≤ a1) = true := decide_eq_true c11
                  clear c11
                  by_cases c12 : (a1 : Int).toNat ≤ 281474976710656
                  · rw [if_pos c12] at H
                    have c12b0 := eq_true c12
                    have c12b1 : decide ((a1 : Int).toNat ≤ 281474976710656) = true := decide_eq_true c12
                    clear c12
                    obtain ⟨y118, hy118⟩ : ∃ y_ : List Int, y_ = (List.replicate (a1 : Int).toNat 0) := ⟨_, rfl⟩
                    replace H : (if 0 ≤ x18_1 then (if x18_1 < (x6_1.length : Int) then (reedsolomon_newMatrix.l0 k1 a1 (x6_1.set (x18_1 : Int).toNat y118) (y115.length : Int) (wrap64 (x18_1 + 1))) else (none)) else (none)) = some (r1, r2) := by first | (rw [hy118]; with_reducible exact H) | (have H2_ := (Option.bind_some _ _).symm.trans H; rw [hy118]; with_reducible exact H2_) | (have H2_ := (Option.bind_some _ _).symm.trans H; with_reducible exact H2_) | with_reducible exact H | (rw [hy118]; exact H) | exact H
                    have Ny118 := Aside0.mk hy118
                    clear hy118
                    by_cases c13 : 0 ≤ x18_1
                    · rw [if_pos c13] at H
                      have c13b0 : decide (0 ≤ x18_1) = true := decide_eq_true c13
                      clear c13
                      by_cases c14 : x18_1 < (x6_1.length : Int)
                      · rw [if_pos c14] at H
                        have c14b0 : decide (x18_1 < (x6_1.length : Int)) = true := decide_eq_true c14
                        (try simp only [hl6_1] at c14b0); (try simp only [hl6_1] at c14b0)
                        clear c14
                        obtain ⟨y121, hy121⟩ : ∃ y_ : List (List Int), y_ = (x6_1.set (x18_1 : Int).toNat y118) := ⟨_, rfl⟩
                        replace H : (reedsolomon_newMatrix.l0 k1 a1 y121 (y115.length : Int) (wrap64 (x18_1 + 1))) = some (r1, r2) := by first | (rw [hy121]; with_reducible exact H) | (have H2_ := (Option.bind_some _ _).symm.trans H; rw [hy121]; with_reducible exact H2_) | (have H2_ := (Option.bind_some _ _).symm.trans H; with_reducible exact H2_) | with_reducible exact H | (rw [hy121]; exact H) | exact H
                        have Ny121 := Aside0.mk hy121
                        clear hy121
                        have H' := Aside0.mk H
                        clear H
                        go_wp2_with (first | ((with_reducible refine gate_dst (N := 24) rfl ?_); refine Kd.R_make (Kd.int .u8) _ 5 rfl (N := 24) rfl 22 _ _ rfl a1 rfl rfl Tryd.underlying22 (.int .u8 0) 1 info5 rfl (by decide) (by omega) 0 (ok := fun _ => True) (okp := fun _ => True) rfl (fun _ hk => hk) trivial (of_decide_eq_true (by first | (with_reducible assumption) | assumption)) (Nat.le_trans (Nat.mul_le_mul_right _ (of_decide_eq_true (by first | (with_reducible assumption) | assumption) : a1.toNat ≤ 281474976710656)) (by omega)) (Below.refl _ _) (Nat.le_refl _) ?_; intro v119 w16 ho17 hb hg_ hnew_; clear hg_ hnew_; (first | rw [← Ny118.out] at ho17 | (simp only [Int.reduceToNat] at ho17; rw [← Ny118.out] at ho17)); have n0_ := Aside0.mk (Kd.S_elder' (by (with_reducible repeat (first | apply Kd.S_alloc | apply Kd.S_drewN | apply Kd.S_drew)); exact HO_6.out) (Kd.R_base ho17) hb); have n1_ := Aside0.mk (Kd.R_lower ho17 (below_size (by repeat (first | (with_reducible first | exact HB.out | apply below_alloc | apply pw_below_drewN | apply below_drew1) | exact HB.out)))); have n2_ := Aside0.mk (below_step (by repeat (first | (with_reducible first | exact HB.out | apply below_alloc | apply pw_below_drewN | apply below_drew1) | exact HB.out)) hb); clear HO_6; clear HB; have HO_6 := n0_; have HO120 := n1_; have HB := n2_; clear n0_ n1_ n2_; clear hb ho17; have p15 : 0 ≤ (x18_1 : Int) := of_decide_eq_true (by first | (with_reducible assumption) | assumption); have q15 : (x18_1 : Int) < ((x6_1.length : Int) : Int) := of_decide_eq_true (by first | (with_reducible assumption) | assumption); obtain ⟨go15, co15, eo15, gb15, gl15, cl15, HG15⟩ := Kd.S_form HO_6.out (by omega); (first | cases eo15 | (injection eo15 with ea_ en_ ec_; (first | subst ea_ | (injection ea_ with ea_; subst ea_)); subst ec_; clear en_)); have GB15 := Aside0.mk gb15; have GG15 := Aside0.mk HG15; clear gb15 gl15 HG15; obtain ⟨_, ce15, hcl15, hM15, hcc15, hfr15, _, _⟩ := Kd.S_elem HO_6.out [] (x18_1 : Int) p15 q15; obtain ⟨ve15_0, rfl, ge15_0⟩ := hM15; have hx15_0 := hcc15 0 _ rfl; have hf15_0 := hfr15 0; (try simp only [show ((Kd.slice 5 (Kd.int .u8))).sz = 1 from rfl, Nat.mul_one, Nat.add_zero] at hx15_0); (try simp only [show ((Kd.slice 5 (Kd.int .u8))).sz = 1 from rfl, Nat.mul_one, Nat.add_zero] at hf15_0); (try clear hM15); clear hcl15 hcc15 hfr15; replace p15 := eq_true p15; replace q15 := eq_true q15; have n_ := Aside0.mk (Kd.S_mono (ok' := (fun k_ => some k_ ≠ (v119 : Value).ownBlock)) HO_6.out (fun k_ hk => hk.2)); clear HO_6; have HO_6 := n_; clear n_; have HX18 := Aside0.mk (show Kd.S (Kd.slice 5 (Kd.int .u8)) 22 w16 w.heap.size (fun k_ => ((fun _ => True)) k_ ∧ ¬ ((fun k_ => some k_ = (v119 : Value).ownBlock)) k_) (.slice (some ⟨go15, 0, none⟩) x6_1.length co9) x6_1 from (by (with_reducible repeat (first | apply Kd.S_alloc | apply Kd.S_drewN | apply Kd.S_drew)); exact Kd.S_mono HO_6.out (fun k_ hk => ⟨trivial, fun e_ => hk e_⟩))); obtain ⟨oki18, ce18, hcl18, hM18, hcc18, hfr18, hoki18, hH18⟩ := Kd.S_elem HX18.out [] (x18_1 : Int) (of_decide_eq_true (by first | (with_reducible assumption) | assumption)) (by have h_ : (x18_1 : Int) < ((x6_1.length : Int) : Int) := of_decide_eq_true (by first | (with_reducible assumption) | assumption); first | exact h_ | (have e_ := (Kd.S_reads' HO_6.out).1; omega) | simpa using h_); obtain ⟨ve18_0, rfl, ge18_0⟩ := hM18; have HP18 := Kd.S_seg hH18 (of_decide_eq_true (by first | (with_reducible assumption) | assumption)) (by have h_ : (x18_1 : Int) < ((x6_1.length : Int) : Int) := of_decide_eq_true (by first | (with_reducible assumption) | assumption); first | exact h_ | (have e_ := (Kd.S_reads' HO_6.out).1; omega) | simpa using h_) (seg := [v119]) (j := 0) (show 1 ≤ 1 from by decide) (x' := y118) (Kd.M_row (Kd.R_mono (Kd.R_tight rfl (Kd.R_mono (ok' := fun k_ => ((fun _ => True)) k_ ∧ k_ ≠ go15) (Kd.R_apart' (HO120.out) (Kd.S_typed HO_6.out) (by decide)) (fun k_ hk => ⟨trivial, fun e_ => (hk.2) (by rw [e_]; rfl)⟩))) (fun _ h_ => Or.inr (h_)))) (fun _ hk => hk) (fun k_ hk_ => ((Kd.R_mono (ok' := fun k_ => ((fun _ => True)) k_ ∧ k_ ≠ go15) (Kd.R_apart' (HO120.out) (Kd.S_typed HO_6.out) (by decide)) (fun k_ hk => ⟨trivial, fun e_ => (hk.2) (by rw [e_]; rfl)⟩))).1 k_ hk_.symm); have hx18_0 := hcc18 0 _ rfl; (try simp only [show ((Kd.slice 5 (Kd.int .u8))).sz = 1 from rfl, Nat.mul_one, Nat.add_zero] at hx18_0); have hf18_0 := hfr18 0; (try simp only [show ((Kd.slice 5 (Kd.int .u8))).sz = 1 from rfl, Nat.mul_one, Nat.add_zero] at hf18_0); (try clear hM18); clear hcl18 hcc18 hfr18 hoki18 hH18; (try simp only [show ((Kd.slice 5 (Kd.int .u8))).sz = 1 from rfl, Nat.mul_one, Nat.add_zero] at HP18)) | ((with_reducible refine gate_store (t := 22) (p := 25) rfl ?_); (try (rw [drewN_self w16]; generalize hq_ : World.drewN w16 _ = w16; have n0_ := Aside0.mk (Kd.S_at hq_ HO_6.out); have n1_ := Aside0.mk (below_at hq_ HB.out); clear hq_ HO_6 HB; have HO_6 := n0_; have HB := n1_; clear n0_ n1_; (try (have n_ := Aside0.mk (Kd.S_mono (ok' := (fun k_ => some k_ ≠ (v119 : Value).ownBlock)) HO_6.out (fun k_ hk => hk.2)); clear HO_6; have HO_6 := n_; clear n_)); (try (have HX18 := Aside0.mk (show Kd.S (Kd.slice 5 (Kd.int .u8)) 22 w16 w.heap.size (fun k_ => ((fun _ => True)) k_ ∧ ¬ ((fun k_ => some k_ = (v119 : Value).ownBlock)) k_) (.slice (some ⟨go15, 0, none⟩) x6_1.length co9) x6_1 from (by (with_reducible repeat (first | apply Kd.S_alloc | apply Kd.S_drewN | apply Kd.S_drew)); exact Kd.S_mono HO_6.out (fun k_ hk => ⟨trivial, fun e_ => hk e_⟩))))); (try (obtain ⟨oki18, ce18, hcl18, hM18, hcc18, hfr18, hoki18, hH18⟩ := Kd.S_elem HX18.out [] (x18_1 : Int) (of_decide_eq_true (by first | (with_reducible assumption) | assumption)) (by have h_ : (x18_1 : Int) < ((x6_1.length : Int) : Int) := of_decide_eq_true (by first | (with_reducible assumption) | assumption); first | exact h_ | (have e_ := (Kd.S_reads' HO_6.out).1; omega) | simpa using h_))); (try (obtain ⟨ve18_0, rfl, ge18_0⟩ := hM18)); (try (have HP18 := Kd.S_seg hH18 (of_decide_eq_true (by first | (with_reducible assumption) | assumption)) (by have h_ : (x18_1 : Int) < ((x6_1.length : Int) : Int) := of_decide_eq_true (by first | (with_reducible assumption) | assumption); first | exact h_ | (have e_ := (Kd.S_reads' HO_6.out).1; omega) | simpa using h_) (seg := [v119]) (j := 0) (show 1 ≤ 1 from by decide) (x' := y118) (Kd.M_row (Kd.R_mono (Kd.R_tight rfl (Kd.R_mono (ok' := fun k_ => ((fun _ => True)) k_ ∧ k_ ≠ go15) (Kd.R_apart' (HO120.out) (Kd.S_typed HO_6.out) (by decide)) (fun k_ hk => ⟨trivial, fun e_ => (hk.2) (by rw [e_]; rfl)⟩))) (fun _ h_ => Or.inr (h_)))) (fun _ hk => hk) (fun k_ hk_ => ((Kd.R_mono (ok' := fun k_ => ((fun _ => True)) k_ ∧ k_ ≠ go15) (Kd.R_apart' (HO120.out) (Kd.S_typed HO_6.out) (by decide)) (fun k_ hk => ⟨trivial, fun e_ => (hk.2) (by rw [e_]; rfl)⟩))).1 k_ hk_.symm))); (try (have hx18_0 := hcc18 0 _ rfl)); (try (try simp only [show ((Kd.slice 5 (Kd.int .u8))).sz = 1 from rfl, Nat.mul_one, Nat.add_zero] at hx18_0)); (try (have hf18_0 := hfr18 0)); (try (try simp only [show ((Kd.slice 5 (Kd.int .u8))).sz = 1 from rfl, Nat.mul_one, Nat.add_zero] at hf18_0)); (try ((try clear hM18); clear hcl18 hcc18 hfr18 hoki18 hH18)); (try (try simp only [show ((Kd.slice 5 (Kd.int .u8))).sz = 1 from rfl, Nat.mul_one, Nat.add_zero] at HP18)))); obtain ⟨Az_, cz_, ez_⟩ := Kd.R_slice HO120.out; refine store_event (t := 22) (p := 25) (v := ?vo_w19) (w1 := (w16.setCell ⟨go15, (x18_1 : Int).toNat, none⟩ (v119))) ?hg ?ho ?hn ?hr ?_; (case ho => rfl); (case hg => rfl); (case hn => rfl); (case hr => first | (go_simp; done) | (go_simp; rfl)); intro w19 hw; have hg : w16.grownBy w19 (some go15) := (by rw [hw]; exact HP18.2); have hp_ : Kd.S (Kd.slice 5 (Kd.int .u8)) 22 w19 w.heap.size (fun _ => True) (.slice (some ⟨go15, 0, none⟩) x6_1.length co9) y121 := (by rw [hw, Ny121.out]; exact HP18.1); clear HP18; have n0_ := Aside0.mk (hp_); have n1_ := Aside0.mk ((by rw [hw]; exact below_set (HB.out) GB15.out : Below w.heap.size w w19)); clear HO_6; clear HB; clear HO120; have HO_6 := n0_; have HB := n1_; clear n0_ n1_; clear hg hw hp_))
                        repeat (go_quiet (first | ((with_reducible refine gate_dst (N := 24) rfl ?_); refine Kd.R_make (Kd.int .u8) _ 5 rfl (N := 24) rfl 22 _ _ rfl a1 rfl rfl Tryd.underlying22 (.int .u8 0) 1 info5 rfl (by decide) (by omega) 0 (ok := fun _ => True) (okp := fun _ => True) rfl (fun _ hk => hk) trivial (of_decide_eq_true (by first | (with_reducible assumption) | assumption)) (Nat.le_trans (Nat.mul_le_mul_right _ (of_decide_eq_true (by first | (with_reducible assumption) | assumption) : a1.toNat ≤ 281474976710656)) (by omega)) (Below.refl _ _) (Nat.le_refl _) ?_; intro v119 w16 ho17 hb hg_ hnew_; clear hg_ hnew_; (first | rw [← Ny118.out] at ho17 | (simp only [Int.reduceToNat] at ho17; rw [← Ny118.out] at ho17)); have n0_ := Aside0.mk (Kd.S_elder' (by (with_reducible repeat (first | apply Kd.S_alloc | apply Kd.S_drewN | apply Kd.S_drew)); exact HO_6.out) (Kd.R_base ho17) hb); have n1_ := Aside0.mk (Kd.R_lower ho17 (below_size (by repeat (first | (with_reducible first | exact HB.out | apply below_alloc | apply pw_below_drewN | apply below_drew1) | exact HB.out)))); have n2_ := Aside0.mk (below_step (by repeat (first | (with_reducible first | exact HB.out | apply below_alloc | apply pw_below_drewN | apply below_drew1) | exact HB.out)) hb); clear HO_6; clear HB; have HO_6 := n0_; have HO120 := n1_; have HB := n2_; clear n0_ n1_ n2_; clear hb ho17; have p15 : 0 ≤ (x18_1 : Int) := of_decide_eq_true (by first | (with_reducible assumption) | assumption); have q15 : (x18_1 : Int) < ((x6_1.length : Int) : Int) := of_decide_eq_true (by first | (with_reducible assumption) | assumption); obtain ⟨go15, co15, eo15, gb15, gl15, cl15, HG15⟩ := Kd.S_form HO_6.out (by omega); (first | cases eo15 | (injection eo15 with ea_ en_ ec_; (first | subst ea_ | (injection ea_ with ea_; subst ea_)); subst ec_; clear en_)); have GB15 := Aside0.mk gb15; have GG15 := Aside0.mk HG15; clear gb15 gl15 HG15; obtain ⟨_, ce15, hcl15, hM15, hcc15, hfr15, _, _⟩ := Kd.S_elem HO_6.out [] (x18_1 : Int) p15 q15; obtain ⟨ve15_0, rfl, ge15_0⟩ := hM15; have hx15_0 := hcc15 0 _ rfl; have hf15_0 := hfr15 0; (try simp only [show ((Kd.slice 5 (Kd.int .u8))).sz = 1 from rfl, Nat.mul_one, Nat.add_zero] at hx15_0); (try simp only [show ((Kd.slice 5 (Kd.int .u8))).sz = 1 from rfl, Nat.mul_one, Nat.add_zero] at hf15_0); (try clear hM15); clear hcl15 hcc15 hfr15; replace p15 := eq_true p15; replace q15 := eq_true q15; have n_ := Aside0.mk (Kd.S_mono (ok' := (fun k_ => some k_ ≠ (v119 : Value).ownBlock)) HO_6.out (fun k_ hk => hk.2)); clear HO_6; have HO_6 := n_; clear n_; have HX18 := Aside0.mk (show Kd.S (Kd.slice 5 (Kd.int .u8)) 22 w16 w.heap.size (fun k_ => ((fun _ => True)) k_ ∧ ¬ ((fun k_ => some k_ = (v119 : Value).ownBlock)) k_) (.slice (some ⟨go15, 0, none⟩) x6_1.length co9) x6_1 from (by (with_reducible repeat (first | apply Kd.S_alloc | apply Kd.S_drewN | apply Kd.S_drew)); exact Kd.S_mono HO_6.out (fun k_ hk => ⟨trivial, fun e_ => hk e_⟩))); obtain ⟨oki18, ce18, hcl18, hM18, hcc18, hfr18, hoki18, hH18⟩ := Kd.S_elem HX18.out [] (x18_1 : Int) (of_decide_eq_true (by first | (with_reducible assumption) | assumption)) (by have h_ : (x18_1 : Int) < ((x6_1.length : Int) : Int) := of_decide_eq_true (by first | (with_reducible assumption) | assumption); first | exact h_ | (have e_ := (Kd.S_reads' HO_6.out).1; omega) | simpa using h_); obtain ⟨ve18_0, rfl, ge18_0⟩ := hM18; have HP18 := Kd.S_seg hH18 (of_decide_eq_true (by first | (with_reducible assumption) | assumption)) (by have h_ : (x18_1 : Int) < ((x6_1.length : Int) : Int) := of_decide_eq_true (by first | (with_reducible assumption) | assumption); first | exact h_ | (have e_ := (Kd.S_reads' HO_6.out).1; omega) | simpa using h_) (seg := [v119]) (j := 0) (show 1 ≤ 1 from by decide) (x' := y118) (Kd.M_row (Kd.R_mono (Kd.R_tight rfl (Kd.R_mono (ok' := fun k_ => ((fun _ => True)) k_ ∧ k_ ≠ go15) (Kd.R_apart' (HO120.out) (Kd.S_typed HO_6.out) (by decide)) (fun k_ hk => ⟨trivial, fun e_ => (hk.2) (by rw [e_]; rfl)⟩))) (fun _ h_ => Or.inr (h_)))) (fun _ hk => hk) (fun k_ hk_ => ((Kd.R_mono (ok' := fun k_ => ((fun _ => True)) k_ ∧ k_ ≠ go15) (Kd.R_apart' (HO120.out) (Kd.S_typed HO_6.out) (by decide)) (fun k_ hk => ⟨trivial, fun e_ => (hk.2) (by rw [e_]; rfl)⟩))).1 k_ hk_.symm); have hx18_0 := hcc18 0 _ rfl; (try simp only [show ((Kd.slice 5 (Kd.int .u8))).sz = 1 from rfl, Nat.mul_one, Nat.add_zero] at hx18_0); have hf18_0 := hfr18 0; (try simp only [show ((Kd.slice 5 (Kd.int .u8))).sz = 1 from rfl, Nat.mul_one, Nat.add_zero] at hf18_0); (try clear hM18); clear hcl18 hcc18 hfr18 hoki18 hH18; (try simp only [show ((Kd.slice 5 (Kd.int .u8))).sz = 1 from rfl, Nat.mul_one, Nat.add_zero] at HP18)) | ((with_reducible refine gate_store (t := 22) (p := 25) rfl ?_); (try (rw [drewN_self w16]; generalize hq_ : World.drewN w16 _ = w16; have n0_ := Aside0.mk (Kd.S_at hq_ HO_6.out); have n1_ := Aside0.mk (below_at hq_ HB.out); clear hq_ HO_6 HB; have HO_6 := n0_; have HB := n1_; clear n0_ n1_; (try (have n_ := Aside0.mk (Kd.S_mono (ok' := (fun k_ => some k_ ≠ (v119 : Value).ownBlock)) HO_6.out (fun k_ hk => hk.2)); clear HO_6; have HO_6 := n_; clear n_)); (try (have HX18 := Aside0.mk (show Kd.S (Kd.slice 5 (Kd.int .u8)) 22 w16 w.heap.size (fun k_ => ((fun _ => True)) k_ ∧ ¬ ((fun k_ => some k_ = (v119 : Value).ownBlock)) k_) (.slice (some ⟨go15, 0, none⟩) x6_1.length co9) x6_1 from (by (with_reducible repeat (first | apply Kd.S_alloc | apply Kd.S_drewN | apply Kd.S_drew)); exact Kd.S_mono HO_6.out (fun k_ hk => ⟨trivial, fun e_ => hk e_⟩))))); (try (obtain ⟨oki18, ce18, hcl18, hM18, hcc18, hfr18, hoki18, hH18⟩ := Kd.S_elem HX18.out [] (x18_1 : Int) (of_decide_eq_true (by first | (with_reducible assumption) | assumption)) (by have h_ : (x18_1 : Int) < ((x6_1.length : Int) : Int) := of_decide_eq_true (by first | (with_reducible assumption) | assumption); first | exact h_ | (have e_ := (Kd.S_reads' HO_6.out).1; omega) | simpa using h_))); (try (obtain ⟨ve18_0, rfl, ge18_0⟩ := hM18)); (try (have HP18 := Kd.S_seg hH18 (of_decide_eq_true (by first | (with_reducible assumption) | assumption)) (by have h_ : (x18_1 : Int) < ((x6_1.length : Int) : Int) := of_decide_eq_true (by first | (with_reducible assumption) | assumption); first | exact h_ | (have e_ := (Kd.S_reads' HO_6.out).1; omega) | simpa using h_) (seg := [v119]) (j := 0) (show 1 ≤ 1 from by decide) (x' := y118) (Kd.M_row (Kd.R_mono (Kd.R_tight rfl (Kd.R_mono (ok' := fun k_ => ((fun _ => True)) k_ ∧ k_ ≠ go15) (Kd.R_apart' (HO120.out) (Kd.S_typed HO_6.out) (by decide)) (fun k_ hk => ⟨trivial, fun e_ => (hk.2) (by rw [e_]; rfl)⟩))) (fun _ h_ => Or.inr (h_)))) (fun _ hk => hk) (fun k_ hk_ => ((Kd.R_mono (ok' := fun k_ => ((fun _ => True)) k_ ∧ k_ ≠ go15) (Kd.R_apart' (HO120.out) (Kd.S_typed HO_6.out) (by decide)) (fun k_ hk => ⟨trivial, fun e_ => (hk.2) (by rw [e_]; rfl)⟩))).1 k_ hk_.symm))); (try (have hx18_0 := hcc18 0 _ rfl)); (try (try simp only [show ((Kd.slice 5 (Kd.int .u8))).sz = 1 from rfl, Nat.mul_one, Nat.add_zero] at hx18_0)); (try (have hf18_0 := hfr18 0)); (try (try simp only [show ((Kd.slice 5 (Kd.int .u8))).sz = 1 from rfl, Nat.mul_one, Nat.add_zero] at hf18_0)); (try ((try clear hM18); clear hcl18 hcc18 hfr18 hoki18 hH18)); (try (try simp only [show ((Kd.slice 5 (Kd.int .u8))).sz = 1 from rfl, Nat.mul_one, Nat.add_zero] at HP18)))); obtain ⟨Az_, cz_, ez_⟩ := Kd.R_slice HO120.out; refine store_event (t := 22) (p := 25) (v := ?vo_w19) (w1 := (w16.setCell ⟨go15, (x18_1 : Int).toNat, none⟩ (v119))) ?hg ?ho ?hn ?hr ?_; (case ho => rfl); (case hg => rfl); (case hn => rfl); (case hr => first | (go_simp; done) | (go_simp; rfl)); intro w19 hw; have hg : w16.grownBy w19 (some go15) := (by rw [hw]; exact HP18.2); have hp_ : Kd.S (Kd.slice 5 (Kd.int .u8)) 22 w19 w.heap.size (fun _ => True) (.slice (some ⟨go15, 0, none⟩) x6_1.length co9) y121 := (by rw [hw, Ny121.out]; exact HP18.1); clear HP18; have n0_ := Aside0.mk (hp_); have n1_ := Aside0.mk ((by rw [hw]; exact below_set (HB.out) GB15.out : Below w.heap.size w w19)); clear HO_6; clear HB; clear HO120; have HO_6 := n0_; have HB := n1_; clear n0_ n1_; clear hg hw hp_)); try go_wp2_with (first | ((with_reducible refine gate_dst (N := 24) rfl ?_); refine Kd.R_make (Kd.int .u8) _ 5 rfl (N := 24) rfl 22 _ _ rfl a1 rfl rfl Tryd.underlying22 (.int .u8 0) 1 info5 rfl (by decide) (by omega) 0 (ok := fun _ => True) (okp := fun _ => True) rfl (fun _ hk => hk) trivial (of_decide_eq_true (by first | (with_reducible assumption) | assumption)) (Nat.le_trans (Nat.mul_le_mul_right _ (of_decide_eq_true (by first | (with_reducible assumption) | assumption) : a1.toNat ≤ 281474976710656)) (by omega)) (Below.refl _ _) (Nat.le_refl _) ?_; intro v119 w16 ho17 hb hg_ hnew_; clear hg_ hnew_; (first | rw [← Ny118.out] at ho17 | (simp only [Int.reduceToNat] at ho17; rw [← Ny118.out] at ho17)); have n0_ := Aside0.mk (Kd.S_elder' (by (with_reducible repeat (first | apply Kd.S_alloc | apply Kd.S_drewN | apply Kd.S_drew)); exact HO_6.out) (Kd.R_base ho17) hb); have n1_ := Aside0.mk (Kd.R_lower ho17 (below_size (by repeat (first | (with_reducible first | exact HB.out | apply below_alloc | apply pw_below_drewN | apply below_drew1) | exact HB.out)))); have n2_ := Aside0.mk (below_step (by repeat (first | (with_reducible first | exact HB.out | apply below_alloc | apply pw_below_drewN | apply below_drew1) | exact HB.out)) hb); clear HO_6; clear HB; have HO_6 := n0_; have HO120 := n1_; have HB := n2_; clear n0_ n1_ n2_; clear hb ho17; have p15 : 0 ≤ (x18_1 : Int) := of_decide_eq_true (by first | (with_reducible assumption) | assumption); have q15 : (x18_1 : Int) < ((x6_1.length : Int) : Int) := of_decide_eq_true (by first | (with_reducible assumption) | assumption); obtain ⟨go15, co15, eo15, gb15, gl15, cl15, HG15⟩ := Kd.S_form HO_6.out (by omega); (first | cases eo15 | (injection eo15 with ea_ en_ ec_; (first | subst ea_ | (injection ea_ with ea_; subst ea_)); subst ec_; clear en_)); have GB15 := Aside0.mk gb15; have GG15 := Aside0.mk HG15; clear gb15 gl15 HG15; obtain ⟨_, ce15, hcl15, hM15, hcc15, hfr15, _, _⟩ := Kd.S_elem HO_6.out [] (x18_1 : Int) p15 q15; obtain ⟨ve15_0, rfl, ge15_0⟩ := hM15; have hx15_0 := hcc15 0 _ rfl; have hf15_0 := hfr15 0; (try simp only [show ((Kd.slice 5 (Kd.int .u8))).sz = 1 from rfl, Nat.mul_one, Nat.add_zero] at hx15_0); (try simp only [show ((Kd.slice 5 (Kd.int .u8))).sz = 1 from rfl, Nat.mul_one, Nat.add_zero] at hf15_0); (try clear hM15); clear hcl15 hcc15 hfr15; replace p15 := eq_true p15; replace q15 := eq_true q15; have n_ := Aside0.mk (Kd.S_mono (ok' := (fun k_ => some k_ ≠ (v119 : Value).ownBlock)) HO_6.out (fun k_ hk => hk.2)); clear HO_6; have HO_6 := n_; clear n_; have HX18 := Aside0.mk (show Kd.S (Kd.slice 5 (Kd.int .u8)) 22 w16 w.heap.size (fun k_ => ((fun _ => True)) k_ ∧ ¬ ((fun k_ => some k_ = (v119 : Value).ownBlock)) k_) (.slice (some ⟨go15, 0, none⟩) x6_1.length co9) x6_1 from (by (with_reducible repeat (first | apply Kd.S_alloc | apply Kd.S_drewN | apply Kd.S_drew)); exact Kd.S_mono HO_6.out (fun k_ hk => ⟨trivial, fun e_ => hk e_⟩))); obtain ⟨oki18, ce18, hcl18, hM18, hcc18, hfr18, hoki18, hH18⟩ := Kd.S_elem HX18.out [] (x18_1 : Int) (of_decide_eq_true (by first | (with_reducible assumption) | assumption)) (by have h_ : (x18_1 : Int) < ((x6_1.length : Int) : Int) := of_decide_eq_true (by first | (with_reducible assumption) | assumption); first | exact h_ | (have e_ := (Kd.S_reads' HO_6.out).1; omega) | simpa using h_); obtain ⟨ve18_0, rfl, ge18_0⟩ := hM18; have HP18 := Kd.S_seg hH18 (of_decide_eq_true (by first | (with_reducible assumption) | assumption)) (by have h_ : (x18_1 : Int) < ((x6_1.length : Int) : Int) := of_decide_eq_true (by first | (with_reducible assumption) | assumption); first | exact h_ | (have e_ := (Kd.S_reads' HO_6.out).1; omega) | simpa using h_) (seg := [v119]) (j := 0) (show 1 ≤ 1 from by decide) (x' := y118) (Kd.M_row (Kd.R_mono (Kd.R_tight rfl (Kd.R_mono (ok' := fun k_ => ((fun _ => True)) k_ ∧ k_ ≠ go15) (Kd.R_apart' (HO120.out) (Kd.S_typed HO_6.out) (by decide)) (fun k_ hk => ⟨trivial, fun e_ => (hk.2) (by rw [e_]; rfl)⟩))) (fun _ h_ => Or.inr (h_)))) (fun _ hk => hk) (fun k_ hk_ => ((Kd.R_mono (ok' := fun k_ => ((fun _ => True)) k_ ∧ k_ ≠ go15) (Kd.R_apart' (HO120.out) (Kd.S_typed HO_6.out) (by decide)) (fun k_ hk => ⟨trivial, fun e_ => (hk.2) (by rw [e_]; rfl)⟩))).1 k_ hk_.symm); have hx18_0 := hcc18 0 _ rfl; (try simp only [show ((Kd.slice 5 (Kd.int .u8))).sz = 1 from rfl, Nat.mul_one, Nat.add_zero] at hx18_0); have hf18_0 := hfr18 0; (try simp only [show ((Kd.slice 5 (Kd.int .u8))).sz = 1 from rfl, Nat.mul_one, Nat.add_zero] at hf18_0); (try clear hM18); clear hcl18 hcc18 hfr18 hoki18 hH18; (try simp only [show ((Kd.slice 5 (Kd.int .u8))).sz = 1 from rfl, Nat.mul_one, Nat.add_zero] at HP18)) | ((with_reducible refine gate_store (t := 22) (p := 25) rfl ?_); (try (rw [drewN_self w16]; generalize hq_ : World.drewN w16 _ = w16; have n0_ := Aside0.mk (Kd.S_at hq_ HO_6.out); have n1_ := Aside0.mk (below_at hq_ HB.out); clear hq_ HO_6 HB; have HO_6 := n0_; have HB := n1_; clear n0_ n1_; (try (have n_ := Aside0.mk (Kd.S_mono (ok' := (fun k_ => some k_ ≠ (v119 : Value).ownBlock)) HO_6.out (fun k_ hk => hk.2)); clear HO_6; have HO_6 := n_; clear n_)); (try (have HX18 := Aside0.mk (show Kd.S (Kd.slice 5 (Kd.int .u8)) 22 w16 w.heap.size (fun k_ => ((fun _ => True)) k_ ∧ ¬ ((fun k_ => some k_ = (v119 : Value).ownBlock)) k_) (.slice (some ⟨go15, 0, none⟩) x6_1.length co9) x6_1 from (by (with_reducible repeat (first | apply Kd.S_alloc | apply Kd.S_drewN | apply Kd.S_drew)); exact Kd.S_mono HO_6.out (fun k_ hk => ⟨trivial, fun e_ => hk e_⟩))))); (try (obtain ⟨oki18, ce18, hcl18, hM18, hcc18, hfr18, hoki18, hH18⟩ := Kd.S_elem HX18.out [] (x18_1 : Int) (of_decide_eq_true (by first | (with_reducible assumption) | assumption)) (by have h_ : (x18_1 : Int) < ((x6_1.length : Int) : Int) := of_decide_eq_true (by first | (with_reducible assumption) | assumption); first | exact h_ | (have e_ := (Kd.S_reads' HO_6.out).1; omega) | simpa using h_))); (try (obtain ⟨ve18_0, rfl, ge18_0⟩ := hM18)); (try (have HP18 := Kd.S_seg hH18 (of_decide_eq_true (by first | (with_reducible assumption) | assumption)) (by have h_ : (x18_1 : Int) < ((x6_1.length : Int) : Int) := of_decide_eq_true (by first | (with_reducible assumption) | assumption); first | exact h_ | (have e_ := (Kd.S_reads' HO_6.out).1; omega) | simpa using h_) (seg := [v119]) (j := 0) (show 1 ≤ 1 from by decide) (x' := y118) (Kd.M_row (Kd.R_mono (Kd.R_tight rfl (Kd.R_mono (ok' := fun k_ => ((fun _ => True)) k_ ∧ k_ ≠ go15) (Kd.R_apart' (HO120.out) (Kd.S_typed HO_6.out) (by decide)) (fun k_ hk => ⟨trivial, fun e_ => (hk.2) (by rw [e_]; rfl)⟩))) (fun _ h_ => Or.inr (h_)))) (fun _ hk => hk) (fun k_ hk_ => ((Kd.R_mono (ok' := fun k_ => ((fun _ => True)) k_ ∧ k_ ≠ go15) (Kd.R_apart' (HO120.out) (Kd.S_typed HO_6.out) (by decide)) (fun k_ hk => ⟨trivial, fun e_ => (hk.2) (by rw [e_]; rfl)⟩))).1 k_ hk_.symm))); (try (have hx18_0 := hcc18 0 _ rfl)); (try (try simp only [show ((Kd.slice 5 (Kd.int .u8))).sz = 1 from rfl, Nat.mul_one, Nat.add_zero] at hx18_0)); (try (have hf18_0 := hfr18 0)); (try (try simp only [show ((Kd.slice 5 (Kd.int .u8))).sz = 1 from rfl, Nat.mul_one, Nat.add_zero] at hf18_0)); (try ((try clear hM18); clear hcl18 hcc18 hfr18 hoki18 hH18)); (try (try simp only [show ((Kd.slice 5 (Kd.int .u8))).sz = 1 from rfl, Nat.mul_one, Nat.add_zero] at HP18)))); obtain ⟨Az_, cz_, ez_⟩ := Kd.R_slice HO120.out; refine store_event (t := 22) (p := 25) (v := ?vo_w19) (w1 := (w16.setCell ⟨go15, (x18_1 : Int).toNat, none⟩ (v119))) ?hg ?ho ?hn ?hr ?_; (case ho => rfl); (case hg => rfl); (case hn => rfl); (case hr => first | (go_simp; done) | (go_simp; rfl)); intro w19 hw; have hg : w16.grownBy w19 (some go15) := (by rw [hw]; exact HP18.2); have hp_ : Kd.S (Kd.slice 5 (Kd.int .u8)) 22 w19 w.heap.size (fun _ => True) (.slice (some ⟨go15, 0, none⟩) x6_1.length co9) y121 := (by rw [hw, Ny121.out]; exact HP18.1); clear HP18; have n0_ := Aside0.mk (hp_); have n1_ := Aside0.mk ((by rw [hw]; exact below_set (HB.out) GB15.out : Below w.heap.size w w19)); clear HO_6; clear HB; clear HO120; have HO_6 := n0_; have HB := n1_; clear n0_ n1_; clear hg hw hp_)))
                        (try simp only [← hl6_1])
                        go_roundg k1
                        case measure => have := HK1.out; omega
                        case rel => exact ⟨(y121), (wrap64 (x18_1 + 1)), (by first | rfl | (simp; done) | (simp [*]; done)), H', ⟨by have := HK1.out; omega⟩, ⟨by (try simp only [hl6_1]); (with_reducible repeat (first | apply Kd.S_alloc | apply Kd.S_drewN | apply Kd.S_drew)); exact HO_6.out⟩, ⟨by repeat (first | (with_reducible first | exact HB.out | apply below_alloc | apply pw_below_drewN | apply below_drew1) | exact HB.out)⟩⟩
                      · rw [if_neg c14] at H
                        exact absurd H (by simp)
                    · rw [if_neg c13] at H
                      exact absurd H (by simp)
                  · rw [if_neg c12] at H
                    exact absurd H (by simp)
                · rw [if_neg c11] at H
                  exact absurd H (by simp)
              · rw [if_neg c10] at H
                have c10b0 : decide (x18_1 < (y115.length : Int)) = false := decide_eq_false c10
                (try rw [hl6_1] at c10b0)
                (try simp only [hl6_1] at c10b0); (try simp only [hl6_1] at c10b0)
                clear c10
                simp only [Option.some.injEq, Prod.mk.injEq] at H
                obtain ⟨rfl, rfl⟩ := H
                go_wp2
                repeat (go_quiet (fail); try go_wp2)
                go_ret2
                first | exact ⟨_, 0, by first | rfl | (simp [errW_none, errW_some] <;> rfl) | (simp [*, errW_none, errW_some] <;> rfl), by (with_reducible repeat (first | apply Kd.S_alloc | apply Kd.S_drewN | apply Kd.S_drew)); exact HO_6.out, by repeat (first | (with_reducible first | exact HB.out | apply below_alloc | apply pw_below_drewN | apply below_drew1) | exact HB.out)⟩ | exact ⟨_, ⟨0, by first | rfl | (simp [errW_none, errW_some] <;> rfl) | (simp [*, errW_none, errW_some] <;> rfl)⟩, by (with_reducible repeat (first | apply Kd.S_alloc | apply Kd.S_drewN | apply Kd.S_drew)); exact HO_6.out, by repeat (first | (with_reducible first | exact HB.out | apply below_alloc | apply pw_below_drewN | apply below_drew1) | exact HB.out)⟩
        · rw [if_neg c6] at H
          exact absurd H (by simp)
      · rw [if_neg c5] at H
        exact absurd H (by simp)
end Go.Proofs.YtpeikjnkbjabpaaDoor.V
