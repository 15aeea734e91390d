-- laid by xprint.py (a program of this session over the kit's print); Lean checks it
import Derived.Test.YtpeikjnkbjabpaaDoorN0
import Derived.Test.YtpeikjnkbjabpaaDoorN2
namespace Go.Proofs.YtpeikjnkbjabpaaDoor.N
open Go.RowKit Go.Proofs.YtpeikjnkbjabpaaDoorW.PrintWords Go.Proofs.YtpeikjnkbjabpaaDoorW.PrintLast Go.Proofs.YtpeikjnkbjabpaaDoorW.PrintMore
attribute [local go_sem] max2_int min2_int max_two min_two max_three min_three max_four min_four   -- for this text's walks alone
set_option linter.unusedVariables false
set_option linter.unusedSimpArgs false

/-! ### laws_FnNeeded: function 5 -/
mutual
def laws_FnNeeded.j0 : Nat → List Int → Int → Int → Bool → Option (Bool)
  | 0, _, _, _, _ => none
  | k + 1, x0, x1, x2, x23 => if x23 = true then (some true) else (if x1 < 1 then (laws_FnNeeded.j1 k x0 x1 x2 true) else (laws_FnNeeded.j1 k x0 x1 x2 (decide (x1 > 7))))
def laws_FnNeeded.j1 : Nat → List Int → Int → Int → Bool → Option (Bool)
  | 0, _, _, _, _ => none
  | k + 1, x0, x1, x2, x7 => laws_FnNeeded.l0 k x0 x1 x2 x7 x0 (x0.length : Int) 0
def laws_FnNeeded.l0 : Nat → List Int → Int → Int → Bool → List Int → Int → Int → Option (Bool)
  | 0, _, _, _, _, _, _, _ => none
  | k + 1, x0, x1, x2, x7, x30, x31, x32 => if x32 < x31 then (if 0 ≤ x32 then (if x32 < (x30.length : Int) then (if (rd x30 x32) < 0 then (some true) else (if (rd x30 x32) > 255 then (some true) else (if x7 = true then (laws_FnNeeded.l0 k x0 x1 x2 true x30 x31 (wrap64 (x32 + 1))) else (laws_FnNeeded.l0 k x0 x1 x2 ((shr .i64 (rd x30 x32) (mx x1 0)) == (shr .i64 x2 (mx x1 0))) x30 x31 (wrap64 (x32 + 1)))))) else (none)) else (none)) else ((impl_Needed.f k x0 x1 x2).bind fun t104 => (some (t104 == x7)))
end
def laws_FnNeeded.f (k : Nat) (l0 : List Int) (a1 : Int) (a2 : Int) : Option (Bool) := if (l0.length : Int) > 2147483647 then (some true) else (if (l0.length : Int) > 300 then (laws_FnNeeded.j0 k l0 a1 a2 true) else (if a2 < 0 then (laws_FnNeeded.j0 k l0 a1 a2 true) else (laws_FnNeeded.j0 k l0 a1 a2 (decide (a2 > 255)))))
theorem laws_FnNeeded.mono_l : ∀ k, (∀ y0 y1 y2 y3, LeO (laws_FnNeeded.j0 k y0 y1 y2 y3) (laws_FnNeeded.j0 (k + 1) y0 y1 y2 y3)) ∧ (∀ y0 y1 y2 y3, LeO (laws_FnNeeded.j1 k y0 y1 y2 y3) (laws_FnNeeded.j1 (k + 1) y0 y1 y2 y3)) ∧ (∀ y0 y1 y2 y3 y4 y5 y6, LeO (laws_FnNeeded.l0 k y0 y1 y2 y3 y4 y5 y6) (laws_FnNeeded.l0 (k + 1) y0 y1 y2 y3 y4 y5 y6))
  | 0 => ⟨fun _ _ _ _ r h => by simp [laws_FnNeeded.j0] at h, fun _ _ _ _ r h => by simp [laws_FnNeeded.j1] at h, fun _ _ _ _ _ _ _ r h => by simp [laws_FnNeeded.l0] at h⟩
  | k + 1 => by
    obtain ⟨ih0, ih1, ih2⟩ := laws_FnNeeded.mono_l k
    refine ⟨?_, ?_, ?_⟩
    · intro y0 y1 y2 y3
      unfold laws_FnNeeded.j0
      repeat' first
      | (with_reducible exact ih0 _ _ _ _)
      | (with_reducible exact ih1 _ _ _ _)
      | (with_reducible exact ih2 _ _ _ _ _ _ _)
      | (with_reducible exact impl_Needed.mono _ _ _ _)
      | (with_reducible exact LeO.refl _)
      | (with_reducible exact LeO.none _)
      | (with_reducible refine LeO.ite ?_ ?_)
      | (with_reducible refine LeO.bind ?_ (fun _ => ?_))
      | exact ih0 _ _ _ _
      | exact ih1 _ _ _ _
      | exact ih2 _ _ _ _ _ _ _
      | exact impl_Needed.mono _ _ _ _
      | exact LeO.none _
      | refine LeO.ite ?_ ?_
      | refine LeO.bind ?_ (fun _ => ?_)
    · intro y0 y1 y2 y3
      unfold laws_FnNeeded.j1
      repeat' first
      | (with_reducible exact ih0 _ _ _ _)
      | (with_reducible exact ih1 _ _ _ _)
      | (with_reducible exact ih2 _ _ _ _ _ _ _)
      | (with_reducible exact impl_Needed.mono _ _ _ _)
      | (with_reducible exact LeO.refl _)
      | (with_reducible exact LeO.none _)
      | (with_reducible refine LeO.ite ?_ ?_)
      | (with_reducible refine LeO.bind ?_ (fun _ => ?_))
      | exact ih0 _ _ _ _
      | exact ih1 _ _ _ _
      | exact ih2 _ _ _ _ _ _ _
      | exact impl_Needed.mono _ _ _ _
      | exact LeO.none _
      | refine LeO.ite ?_ ?_
      | refine LeO.bind ?_ (fun _ => ?_)
    · intro y0 y1 y2 y3 y4 y5 y6
      unfold laws_FnNeeded.l0
      repeat' first
      | (with_reducible exact ih0 _ _ _ _)
      | (with_reducible exact ih1 _ _ _ _)
      | (with_reducible exact ih2 _ _ _ _ _ _ _)
      | (with_reducible exact impl_Needed.mono _ _ _ _)
      | (with_reducible exact LeO.refl _)
      | (with_reducible exact LeO.none _)
      | (with_reducible refine LeO.ite ?_ ?_)
      | (with_reducible refine LeO.bind ?_ (fun _ => ?_))
      | exact ih0 _ _ _ _
      | exact ih1 _ _ _ _
      | exact ih2 _ _ _ _ _ _ _
      | exact impl_Needed.mono _ _ _ _
      | exact LeO.none _
      | refine LeO.ite ?_ ?_
      | refine LeO.bind ?_ (fun _ => ?_)
theorem laws_FnNeeded.mono : ∀ a0 a1 a2 k, LeO (laws_FnNeeded.f k a0 a1 a2) (laws_FnNeeded.f (k + 1) a0 a1 a2) := by
  intro a0 a1 a2 k
  obtain ⟨ih0, ih1, ih2⟩ := laws_FnNeeded.mono_l k
  unfold laws_FnNeeded.f
  repeat' first
      | (with_reducible exact ih0 _ _ _ _)
      | (with_reducible exact ih1 _ _ _ _)
      | (with_reducible exact ih2 _ _ _ _ _ _ _)
      | (with_reducible exact impl_Needed.mono _ _ _ _)
      | (with_reducible exact LeO.refl _)
      | (with_reducible exact LeO.none _)
      | (with_reducible refine LeO.ite ?_ ?_)
      | (with_reducible refine LeO.bind ?_ (fun _ => ?_))
      | exact ih0 _ _ _ _
      | exact ih1 _ _ _ _
      | exact ih2 _ _ _ _ _ _ _
      | exact impl_Needed.mono _ _ _ _
      | exact LeO.none _
      | refine LeO.ite ?_ ?_
      | refine LeO.bind ?_ (fun _ => ?_)
set_option maxHeartbeats 8000000 in
set_option maxRecDepth 100000 in
theorem laws_FnNeeded.calls (k : Nat) (A0 : Option Addr) (c0 : Nat) (l0 : List Int) (a1 : Int) (a2 : Int) (r : Bool) (w : World) (hGM : GlobM w) (hr0 : Kd.C (Kd.int .i64) w A0 l0.length l0) (hc0 : l0.length ≤ c0) (h : laws_FnNeeded.f k l0 a1 a2 = some r) :
    Calls Tryd.prog 5 #[.slice A0 l0.length c0, .int .i64 a1, .int .i64 a2] w fun e w' => e = .returned (.bool r) ∧ Below w.heap.size w w' := by
  have HR0 := Aside0.mk hr0
  have HC0 := Aside0.mk hc0
  clear hr0 hc0
  have HB := Aside0.mk (Below.refl w.heap.size w)
  have H : (if (l0.length : Int) > 2147483647 then (some true) else (if (l0.length : Int) > 300 then (laws_FnNeeded.j0 k l0 a1 a2 true) else (if a2 < 0 then (laws_FnNeeded.j0 k l0 a1 a2 true) else (laws_FnNeeded.j0 k l0 a1 a2 (decide (a2 > 255)))))) = some r := h
  clear h
  by_cases c4 : (l0.length : Int) > 2147483647
  · rw [if_pos c4] at H
    have c4b0 : decide (2147483647 < (l0.length : Int)) = true := decide_eq_true c4
    have c4b1 : decide (2147483647 < l0.length) = true := decide_eq_true (by omega)
    clear c4
    obtain rfl := Option.some.inj H
    go_enter Tryd.func5, Tryd.ntmps5
    go_wp2
    repeat (go_quiet (fail); try go_wp2)
    go_ret
    exact ⟨by first | rfl | (simp [errW_none, errW_some] <;> rfl) | (simp [*, errW_none, errW_some] <;> rfl), by repeat (first | (with_reducible first | exact HB.out | apply below_alloc | apply pw_below_drewN | apply below_drew1) | exact HB.out)⟩
  · rw [if_neg c4] at H
    have c4b0 : decide (2147483647 < (l0.length : Int)) = false := decide_eq_false c4
    have c4b1 : decide (2147483647 < l0.length) = false := decide_eq_false (by omega)
    clear c4
    have HC5 := Aside0.mk H
    clear H
    go_enter Tryd.func5, Tryd.ntmps5
    go_upto_region 3 with (fail)
    repeat (go_quiet (fail); go_upto_region 3 with (fail))
    go_cut [23] (fun v23 wc => ∃ (kq : Nat) (x23_4 : Bool), v23 = .bool x23_4 ∧ Aside0 (laws_FnNeeded.j0 kq l0 a1 a2 x23_4 = some r) ∧ Aside0 (kq ≤ k) ∧ Aside0 (Below w.heap.size w wc))
    case first =>
      have H := HC5.out
      clear HC5
      by_cases c6 : (l0.length : Int) > 300
      · rw [if_pos c6] at H
        have c6b0 : decide (300 < (l0.length : Int)) = true := decide_eq_true c6
        have c6b1 : decide (300 < l0.length) = true := decide_eq_true (by omega)
        clear c6
        (first | rw [c6b0] | (simp only [i64_w, i32_w]; rw [c6b0]) | skip)
        have H' := Aside0.mk H
        clear H
        go_wp2
        repeat (go_quiet (fail); try go_wp2)
        go_meet
        case rel => exact ⟨_, (true), (by first | rfl | (simp; done) | (simp [*]; done)), H', ⟨by first | omega | exact Nat.le_refl _⟩, ⟨by repeat (first | (with_reducible first | exact HB.out | apply below_alloc | apply pw_below_drewN | apply below_drew1) | exact HB.out)⟩⟩
      · rw [if_neg c6] at H
        have c6b0 : decide (300 < (l0.length : Int)) = false := decide_eq_false c6
        have c6b1 : decide (300 < l0.length) = false := decide_eq_false (by omega)
        clear c6
        (first | rw [c6b0] | (simp only [i64_w, i32_w]; rw [c6b0]) | skip)
        by_cases c7 : a2 < 0
        · rw [if_pos c7] at H
          have c7b0 : decide (a2 < 0) = true := decide_eq_true c7
          clear c7
          have H' := Aside0.mk H
          clear H
          go_wp2
          repeat (go_quiet (fail); try go_wp2)
          go_meet
          case rel => exact ⟨_, (true), (by first | rfl | (simp; done) | (simp [*]; done)), H', ⟨by first | omega | exact Nat.le_refl _⟩, ⟨by repeat (first | (with_reducible first | exact HB.out | apply below_alloc | apply pw_below_drewN | apply below_drew1) | exact HB.out)⟩⟩
        · rw [if_neg c7] at H
          have c7b0 : decide (a2 < 0) = false := decide_eq_false c7
          clear c7
          have H' := Aside0.mk H
          clear H
          go_wp2
          repeat (go_quiet (fail); try go_wp2)
          go_meet
          case rel => exact ⟨_, (decide (a2 > 255)), (by first | rfl | (simp; done) | (simp [*]; done)), H', ⟨by first | omega | exact Nat.le_refl _⟩, ⟨by repeat (first | (with_reducible first | exact HB.out | apply below_alloc | apply pw_below_drewN | apply below_drew1) | exact HB.out)⟩⟩
    case rest =>
      clear HC5
      try clear p2
      try clear c4
      try clear c4b0
      try clear c4b1
      try clear c5
      try clear c6
      try clear c6b0
      try clear c6b1
      try clear c7
      try clear c7b0
      obtain ⟨kq, x23_4, rfl, HA, HJ4, HB⟩ := hcut
      cases kq with
      | zero => exact absurd HA.out (by simp [laws_FnNeeded.j0])
      | succ kj4 =>
        have H := HA.out
        clear HA
        simp only [laws_FnNeeded.j0] at H
        by_cases c8 : x23_4 = true
        · subst c8
          have H1 : (some true) = some r := by rw [if_pos rfl] at H; exact H
          clear H
          have H := H1
          clear H1
          obtain rfl := Option.some.inj H
          go_wp2
          repeat (go_quiet (fail); try go_wp2)
          go_ret
          exact ⟨by first | rfl | (simp [errW_none, errW_some] <;> rfl) | (simp [*, errW_none, errW_some] <;> rfl), by repeat (first | (with_reducible first | exact HB.out | apply below_alloc | apply pw_below_drewN | apply below_drew1) | exact HB.out)⟩
        · replace c8 := Bool.eq_false_iff.mpr c8
          subst c8
          have H1 : (if a1 < 1 then (laws_FnNeeded.j1 kj4 l0 a1 a2 true) else (laws_FnNeeded.j1 kj4 l0 a1 a2 (decide (a1 > 7)))) = some r := by rw [if_neg (show ¬ (false = true) by decide)] at H; exact H
          clear H
          have H := H1
          clear H1
          have HC9 := Aside0.mk H
          clear H
          go_upto_region 5 with (fail)
          repeat (go_quiet (fail); go_upto_region 5 with (fail))
          go_cut [7] (fun v7 wc => ∃ (kq : Nat) (x7_8 : Bool), v7 = .bool x7_8 ∧ Aside0 (laws_FnNeeded.j1 kq l0 a1 a2 x7_8 = some r) ∧ Aside0 (kq ≤ kj4) ∧ Aside0 (Below w.heap.size w wc))
          case first =>
            have H := HC9.out
            clear HC9
            by_cases c10 : a1 < 1
            · rw [if_pos c10] at H
              have c10b0 : decide (a1 < 1) = true := decide_eq_true c10
              clear c10
              (first | rw [c10b0] | (simp only [i64_w, i32_w]; rw [c10b0]) | skip)
              have H' := Aside0.mk H
              clear H
              go_wp2
              repeat (go_quiet (fail); try go_wp2)
              go_meet
              case rel => exact ⟨_, (true), (by first | rfl | (simp; done) | (simp [*]; done)), H', ⟨by have := HJ4.out; first | omega | exact Nat.le_refl _⟩, ⟨by repeat (first | (with_reducible first | exact HB.out | apply below_alloc | apply pw_below_drewN | apply below_drew1) | exact HB.out)⟩⟩
            · rw [if_neg c10] at H
              have c10b0 : decide (a1 < 1) = false := decide_eq_false c10
              clear c10
              (first | rw [c10b0] | (simp only [i64_w, i32_w]; rw [c10b0]) | skip)
              have H' := Aside0.mk H
              clear H
              go_wp2
              repeat (go_quiet (fail); try go_wp2)
              go_meet
              case rel => exact ⟨_, (decide (a1 > 7)), (by first | rfl | (simp; done) | (simp [*]; done)), H', ⟨by have := HJ4.out; first | omega | exact Nat.le_refl _⟩, ⟨by repeat (first | (with_reducible first | exact HB.out | apply below_alloc | apply pw_below_drewN | apply below_drew1) | exact HB.out)⟩⟩
          case rest =>
            clear HC9
            try clear c1
            try clear p2
            try clear c4
            try clear c4b0
            try clear c4b1
            try clear c5
            try clear c6
            try clear c6b0
            try clear c6b1
            try clear c7
            try clear c7b0
            try clear c8
            try clear c10
            try clear c10b0
            try clear p2
            obtain ⟨kq, x7_8, rfl, HA, HJ8, HB⟩ := hcut
            cases kq with
            | zero => exact absurd HA.out (by simp [laws_FnNeeded.j1])
            | succ kj8 =>
              have H := HA.out
              clear HA
              simp only [laws_FnNeeded.j1] at H
              have H' := Aside0.mk H
              clear H
              go_wp2
              repeat (go_quiet (fail); try go_wp2)
              try simp only [Act.put, List.setIfInBounds_toArray, List.set_cons_zero, List.set_cons_succ]
              go_loopg [7, 32] kj8 (fun kq v7 v32 w' => ∃ (x7_3 : Bool) (x32_3 : Int), v7 = .bool x7_3 ∧ v32 = .int .i64 x32_3 ∧ Aside0 (laws_FnNeeded.l0 kq l0 a1 a2 x7_3 l0 (l0.length : Int) x32_3 = some r) ∧ Aside0 (kq ≤ kj8) ∧ Aside0 (Below w.heap.size w w'))
              case atStart => exact ⟨(x7_8), (0), (by first | rfl | (simp; done) | (simp [*]; done)), (by first | rfl | (simp; done) | (simp [*]; done)), H', ⟨Nat.le_refl _⟩, ⟨by repeat (first | (with_reducible first | exact HB.out | apply below_alloc | apply pw_below_drewN | apply below_drew1) | exact HB.out)⟩⟩
              case round =>
                clear H'
                try clear c1
                try clear p2
                try clear c4
                try clear c4b0
                try clear c4b1
                try clear c5
                try clear c6
                try clear c6b0
                try clear c6b1
                try clear c7
                try clear c7b0
                try clear c8
                try clear c10
                try clear c10b0
                try clear p2
                obtain ⟨x7_3, x32_3, rfl, rfl, HA, HK3, HB⟩ := hrel
                cases gk with
                | zero => exact absurd HA.out (by simp [laws_FnNeeded.l0])
                | succ k3 =>
                  have H := HA.out
                  clear HA
                  simp only [laws_FnNeeded.l0] at H
                  by_cases c11 : x32_3 < (l0.length : Int)
                  · rw [if_pos c11] at H
                    have c11b0 : decide (x32_3 < (l0.length : Int)) = true := decide_eq_true c11
                    clear c11
                    by_cases c12 : 0 ≤ x32_3
                    · rw [if_pos c12] at H
                      have c12b0 : decide (0 ≤ x32_3) = true := decide_eq_true c12
                      clear c12
                      by_cases c13 : x32_3 < (l0.length : Int)
                      · rw [if_pos c13] at H
                        have c13b0 : decide (x32_3 < (l0.length : Int)) = true := decide_eq_true c13
                        clear c13
                        by_cases c14 : (rd l0 x32_3) < 0
                        · rw [if_pos c14] at H
                          have c14b0 : decide ((rd l0 x32_3) < 0) = true := decide_eq_true c14
                          clear c14
                          obtain rfl := Option.some.inj H
                          have p103 : 0 ≤ (x32_3 : Int) := of_decide_eq_true (by first | (with_reducible assumption) | assumption)
                          have q103 : x32_3 < (l0.length : Int) := of_decide_eq_true (by first | (with_reducible assumption) | assumption)
                          obtain ⟨ad103, e103, hx103_0⟩ := Kd.at_int HR0.out x32_3 p103 q103
                          cases e103
                          (try replace hx103_0 := (HB.out.cell (World.block_lt_of_cell? w _ hx103_0)).trans hx103_0)
                          replace p103 := eq_true p103
                          replace q103 := eq_true q103
                          go_wp2
                          repeat (go_quiet (fail); try go_wp2)
                          go_ret
                          exact ⟨by first | rfl | (simp [errW_none, errW_some] <;> rfl) | (simp [*, errW_none, errW_some] <;> rfl), by repeat (first | (with_reducible first | exact HB.out | apply below_alloc | apply pw_below_drewN | apply below_drew1) | exact HB.out)⟩
                        · rw [if_neg c14] at H
                          have c14b0 : decide ((rd l0 x32_3) < 0) = false := decide_eq_false c14
                          clear c14
                          by_cases c15 : (rd l0 x32_3) > 255
                          · rw [if_pos c15] at H
                            have c15b0 : decide (255 < (rd l0 x32_3)) = true := decide_eq_true c15
                            clear c15
                            obtain rfl := Option.some.inj H
                            have p103 : 0 ≤ (x32_3 : Int) := of_decide_eq_true (by first | (with_reducible assumption) | assumption)
                            have q103 : x32_3 < (l0.length : Int) := of_decide_eq_true (by first | (with_reducible assumption) | assumption)
                            obtain ⟨ad103, e103, hx103_0⟩ := Kd.at_int HR0.out x32_3 p103 q103
                            cases e103
                            (try replace hx103_0 := (HB.out.cell (World.block_lt_of_cell? w _ hx103_0)).trans hx103_0)
                            replace p103 := eq_true p103
                            replace q103 := eq_true q103
                            go_wp2
                            repeat (go_quiet (fail); try go_wp2)
                            go_ret
                            exact ⟨by first | rfl | (simp [errW_none, errW_some] <;> rfl) | (simp [*, errW_none, errW_some] <;> rfl), by repeat (first | (with_reducible first | exact HB.out | apply below_alloc | apply pw_below_drewN | apply below_drew1) | exact HB.out)⟩
                          · rw [if_neg c15] at H
                            have c15b0 : decide (255 < (rd l0 x32_3)) = false := decide_eq_false c15
                            clear c15
                            by_cases c16 : x7_3 = true
                            · subst c16
                              have H1 : (laws_FnNeeded.l0 k3 l0 a1 a2 true l0 (l0.length : Int) (wrap64 (x32_3 + 1))) = some r := by rw [if_pos rfl] at H; exact H
                              clear H
                              have H := H1
                              clear H1
                              have H' := Aside0.mk H
                              clear H
                              have p103 : 0 ≤ (x32_3 : Int) := of_decide_eq_true (by first | (with_reducible assumption) | assumption)
                              have q103 : x32_3 < (l0.length : Int) := of_decide_eq_true (by first | (with_reducible assumption) | assumption)
                              obtain ⟨ad103, e103, hx103_0⟩ := Kd.at_int HR0.out x32_3 p103 q103
                              cases e103
                              (try replace hx103_0 := (HB.out.cell (World.block_lt_of_cell? w _ hx103_0)).trans hx103_0)
                              replace p103 := eq_true p103
                              replace q103 := eq_true q103
                              go_wp2
                              repeat (go_quiet (fail); try go_wp2)
                              go_roundg k3
                              case measure => have := HJ4.out; have := HJ8.out; have := HK3.out; omega
                              case rel => exact ⟨(true), (wrap64 (x32_3 + 1)), (by first | rfl | (simp; done) | (simp [*]; done)), (by first | rfl | (simp; done) | (simp [*]; done)), H', ⟨by have := HJ4.out; have := HJ8.out; have := HK3.out; omega⟩, ⟨by repeat (first | (with_reducible first | exact HB.out | apply below_alloc | apply pw_below_drewN | apply below_drew1) | exact HB.out)⟩⟩
                            · replace c16 := Bool.eq_false_iff.mpr c16
                              subst c16
                              have H1 : (laws_FnNeeded.l0 k3 l0 a1 a2 ((shr .i64 (rd l0 x32_3) (mx a1 0)) == (shr .i64 a2 (mx a1 0))) l0 (l0.length : Int) (wrap64 (x32_3 + 1))) = some r := by rw [if_neg (show ¬ (false = true) by decide)] at H; exact H
                              clear H
                              have H := H1
                              clear H1
                              obtain ⟨ji17, hji17⟩ : ∃ j_ : Int, (mx a1 0) = j_ := ⟨_, rfl⟩
                              replace H : (laws_FnNeeded.l0 k3 l0 a1 a2 ((shr .i64 (rd l0 x32_3) (ji17)) == (shr .i64 a2 (ji17))) l0 (l0.length : Int) (wrap64 (x32_3 + 1))) = some r := by first | (rw [hji17] at H; exact H) | (simp only [hji17] at H ⊢; exact H)
                              have hji17_ : (if a1 < 0 then 0 else a1) = ji17 := hji17
                              have hji17n : (0 ≤ ji17) = True := eq_true (by have := hji17_; split at this <;> omega)
                              obtain ⟨ji18, hji18⟩ : ∃ j_ : Int, (shr .i64 (rd l0 x32_3) (ji17)) = j_ := ⟨_, rfl⟩
                              replace H : (laws_FnNeeded.l0 k3 l0 a1 a2 ((ji18) == (shr .i64 a2 (ji17))) l0 (l0.length : Int) (wrap64 (x32_3 + 1))) = some r := by first | (rw [hji18] at H; exact H) | (simp only [hji18] at H ⊢; exact H)
                              have hji18_ : ((rd l0 x32_3) / 2 ^ min (ji17).toNat 64) = ji18 := hji18
                              have hji18z : (ji17) ≤ 64 → ((rd l0 x32_3) / 2 ^ (ji17).toNat) = ji18 := shr_small hji18
                              obtain ⟨ji19, hji19⟩ : ∃ j_ : Int, (shr .i64 a2 (ji17)) = j_ := ⟨_, rfl⟩
                              replace H : (laws_FnNeeded.l0 k3 l0 a1 a2 ((ji18) == (ji19)) l0 (l0.length : Int) (wrap64 (x32_3 + 1))) = some r := by first | (rw [hji19] at H; exact H) | (simp only [hji19] at H ⊢; exact H)
                              have hji19_ : (a2 / 2 ^ min (ji17).toNat 64) = ji19 := hji19
                              have hji19z : (ji17) ≤ 64 → (a2 / 2 ^ (ji17).toNat) = ji19 := shr_small hji19
                              have H' := Aside0.mk H
                              clear H
                              have p103 : 0 ≤ (x32_3 : Int) := of_decide_eq_true (by first | (with_reducible assumption) | assumption)
                              have q103 : x32_3 < (l0.length : Int) := of_decide_eq_true (by first | (with_reducible assumption) | assumption)
                              obtain ⟨ad103, e103, hx103_0⟩ := Kd.at_int HR0.out x32_3 p103 q103
                              cases e103
                              (try replace hx103_0 := (HB.out.cell (World.block_lt_of_cell? w _ hx103_0)).trans hx103_0)
                              replace p103 := eq_true p103
                              replace q103 := eq_true q103
                              go_wp2
                              repeat (go_quiet (fail); try go_wp2)
                              go_roundg k3
                              case measure => have := HJ4.out; have := HJ8.out; have := HK3.out; omega
                              case rel => exact ⟨(((ji18) == (ji19))), (wrap64 (x32_3 + 1)), (by first | rfl | (simp; done) | (simp only [← hji18, ← hji19] <;> (first | rfl | simp)) | (simp [*]; done)), (by first | rfl | (simp; done) | (simp [*]; done)), H', ⟨by have := HJ4.out; have := HJ8.out; have := HK3.out; omega⟩, ⟨by repeat (first | (with_reducible first | exact HB.out | apply below_alloc | apply pw_below_drewN | apply below_drew1) | exact HB.out)⟩⟩
                      · rw [if_neg c13] at H
                        exact absurd H (by simp)
                    · rw [if_neg c12] at H
                      exact absurd H (by simp)
                  · rw [if_neg c11] at H
                    have c11b0 : decide (x32_3 < (l0.length : Int)) = false := decide_eq_false c11
                    clear c11
                    replace H := Option.bind_eq_some_iff.mp H
                    obtain ⟨t104, A200, H⟩ := H
                    replace H : (some (t104 == x7_3)) = some r := H
                    have A20 := Aside0.mk A200
                    clear A200
                    obtain rfl := Option.some.inj H
                    go_wp2_with (first | (go_at_call 12; (with_reducible refine (impl_Needed.calls k3 _ _ l0 a1 a2 t104 _ ?side3 ?side1 ?side2 A20.out).mono ?_); (case side1 => repeat (first | exact (Kd.C_below HR0.out HB.out) | (with_reducible refine Kd.C_alloc ?_ _) | (with_reducible refine Kd.C_drewN ?_ _) | (with_reducible refine Kd.C_drew ?_))); (case side2 => exact HC0.out); (case side3 => exact GlobM.below hGM (by repeat (first | (with_reducible first | exact HB.out | apply below_alloc | apply pw_below_drewN | apply below_drew1) | exact HB.out))); rintro e w21 ⟨rfl, hb⟩; have n0_ := Aside0.mk (below_step (by repeat (first | (with_reducible first | exact HB.out | apply below_alloc | apply pw_below_drewN | apply below_drew1) | exact HB.out)) hb); clear HB; have HB := n0_; clear n0_; (try clear hb); (try clear hb2); (try clear hk); (try clear hi)))
                    repeat (go_quiet (first | (go_at_call 12; (with_reducible refine (impl_Needed.calls k3 _ _ l0 a1 a2 t104 _ ?side3 ?side1 ?side2 A20.out).mono ?_); (case side1 => repeat (first | exact (Kd.C_below HR0.out HB.out) | (with_reducible refine Kd.C_alloc ?_ _) | (with_reducible refine Kd.C_drewN ?_ _) | (with_reducible refine Kd.C_drew ?_))); (case side2 => exact HC0.out); (case side3 => exact GlobM.below hGM (by repeat (first | (with_reducible first | exact HB.out | apply below_alloc | apply pw_below_drewN | apply below_drew1) | exact HB.out))); rintro e w21 ⟨rfl, hb⟩; have n0_ := Aside0.mk (below_step (by repeat (first | (with_reducible first | exact HB.out | apply below_alloc | apply pw_below_drewN | apply below_drew1) | exact HB.out)) hb); clear HB; have HB := n0_; clear n0_; (try clear hb); (try clear hb2); (try clear hk); (try clear hi))); try go_wp2_with (first | (go_at_call 12; (with_reducible refine (impl_Needed.calls k3 _ _ l0 a1 a2 t104 _ ?side3 ?side1 ?side2 A20.out).mono ?_); (case side1 => repeat (first | exact (Kd.C_below HR0.out HB.out) | (with_reducible refine Kd.C_alloc ?_ _) | (with_reducible refine Kd.C_drewN ?_ _) | (with_reducible refine Kd.C_drew ?_))); (case side2 => exact HC0.out); (case side3 => exact GlobM.below hGM (by repeat (first | (with_reducible first | exact HB.out | apply below_alloc | apply pw_below_drewN | apply below_drew1) | exact HB.out))); rintro e w21 ⟨rfl, hb⟩; have n0_ := Aside0.mk (below_step (by repeat (first | (with_reducible first | exact HB.out | apply below_alloc | apply pw_below_drewN | apply below_drew1) | exact HB.out)) hb); clear HB; have HB := n0_; clear n0_; (try clear hb); (try clear hb2); (try clear hk); (try clear hi))))
                    go_ret
                    exact ⟨by first | rfl | (simp [errW_none, errW_some] <;> rfl) | (simp [*, errW_none, errW_some] <;> rfl), by repeat (first | (with_reducible first | exact HB.out | apply below_alloc | apply pw_below_drewN | apply below_drew1) | exact HB.out)⟩

/-- THE ONE PURE STATEMENT of laws_FnNeeded: yours. -/
def laws_FnNeeded.Pure : Prop := ∀ (l0 : List Int) (a1 : Int) (a2 : Int), l0.length ≤ maxLen → l0.length * 8 ≤ 140737488351232 → (∀ x ∈ l0, (Lit.int .i64 x).wf = true) → (Lit.int .i64 a1).wf = true → (Lit.int .i64 a2).wf = true → ∃ k, laws_FnNeeded.f k l0 a1 a2 = some true
theorem laws_FnNeeded.walk (P : laws_FnNeeded.Pure) (a0 : Option Addr) (len0 cap0 : Nat) (z0 : List Int) (a1 : Int) (a2 : Int) (w : World) (hGM : GlobM w) (w0 : (a0 = none ∧ len0 = 0 ∧ cap0 = 0 ∧ z0 = []) ∨ ∃ x, a0 = some x ∧ len0 ≤ cap0 ∧ cap0 ≤ maxLen ∧ z0.length = cap0 ∧ (∀ i, i < z0.length → w.cell? (x.add i) = some (.int .i64 (z0.getD i 0))) ∧ ∀ n ∈ z0, (Lit.int .i64 n).wf = true) (y0 : len0 * 8 ≤ 140737488351232) (w1 : (Lit.int .i64 a1).wf = true) (w2 : (Lit.int .i64 a2).wf = true) :
    Calls Tryd.prog 5 #[.slice a0 len0 cap0, .int .i64 a1, .int .i64 a2] w fun e w' => e = .returned (.bool true) ∧ Below w.heap.size w w' := by
  obtain ⟨l0, rfl, hr0, hm0, hw0, hc0⟩ := ReadsInt.ofRowC w0
  obtain ⟨k, h⟩ := P l0 a1 a2 hm0 y0 hw0 w1 w2
  refine (laws_FnNeeded.calls k _ _ l0 a1 a2 true w hGM (Kd.C_of_reads (d := (0 : Int)) (h1 := fun _ => rfl) hr0) hc0 h).mono ?_
  rintro e w' ⟨rfl, hd⟩
  exact ⟨rfl, hd⟩

end Go.Proofs.YtpeikjnkbjabpaaDoor.N
