import Derived.Test.YtijldedhcjkhiaaDoorSX0
import Derived.Test.YtijldedhcjkhiaaDoorSX2
import Derived.Test.YtijldedhcjkhiaaDoorSX3
import Derived.Test.YtijldedhcjkhiaaDoorSX4
namespace Go.Proofs.YtijldedhcjkhiaaDoor.X
open Go.RowKit Go.Proofs.YtijldedhcjkhiaaDoorW.PrintWords Go.Proofs.YtijldedhcjkhiaaDoorW.PrintLast Go.Proofs.YtijldedhcjkhiaaDoorW.PrintMore
attribute [local go_sem] max2_int min2_int max_two min_two max_three min_three max_four min_four   -- for this text's walks alone
set_option linter.unusedVariables false
set_option linter.unusedSimpArgs false
mutual
def laws_FnMergePath.j0 : Nat → Int → Int → Int → Bool → Option (Bool)
  | 0, _, _, _, _ => none
  | k + 1, x0, x1, x2, x27 => if x27 = true then (some true) else ((impl_MergePath.f x0 x1 x2).bind fun bt199 => ((spec_MergedLevels.f k x0 x1 x2).bind fun t201 => (if (t201.length : Int) = 0 then (if bt199.2 ≤ bt199.1 then ((impl_RangeNodes.f k x0 x2 ([] : List (S70))).bind fun t204 => ((impl_RangeNodes.f k x0 x1 ([] : List (S70))).bind fun t207 => ((impl_RangeNodes.f k x1 x2 t207).bind fun t210 => ((spec_SameNodes.f k t204 t210).bind fun t213 => (if t213 = true then ((impl_RangeSize.f x0 x2).bind fun t214 => ((spec_Nodes.f k x0 x2).bind fun t215 => (some (t214 == (t215.length : Int))))) else (some false)))))) else (some false)) else (if bt199.2 ≤ bt199.1 then (laws_FnMergePath.j1 k bt199.1 t201 true) else (laws_FnMergePath.j1 k bt199.1 t201 ((wrap64 (IntKind.u64.wrap (bt199.2 - bt199.1))) != (t201.length : Int)))))))
def laws_FnMergePath.j1 : Nat → Int → List Int → Bool → Option (Bool)
  | 0, _, _, _ => none
  | k + 1, x7, x9, x79 => if x79 = true then (some false) else (laws_FnMergePath.l0 k x7 x9 (x9.length : Int) 0)
def laws_FnMergePath.l0 : Nat → Int → List Int → Int → Int → Option (Bool)
  | 0, _, _, _, _ => none
  | k + 1, x7, x80, x81, x82 => if x82 < x81 then (if 0 ≤ x82 then (if x82 < (x80.length : Int) then (if (rd x80 x82) = (IntKind.u64.wrap ((IntKind.u64.wrap (x7 + 1)) + (IntKind.u64.wrap (x82)))) then (laws_FnMergePath.l0 k x7 x80 x81 (wrap64 (x82 + 1))) else (some false)) else (none)) else (none)) else (some true)
end
def laws_FnMergePath.f (k : Nat) (a0 : Int) (a1 : Int) (a2 : Int) : Option (Bool) := if a0 > a1 then (laws_FnMergePath.j0 k a0 a1 a2 true) else (if a1 > a2 then (laws_FnMergePath.j0 k a0 a1 a2 true) else (if a1 = 0 then (laws_FnMergePath.j0 k a0 a1 a2 (a2 == 18446744073709551615)) else (laws_FnMergePath.j0 k a0 a1 a2 false)))
theorem laws_FnMergePath.mono_l : ∀ k, (∀ y0 y1 y2 y3, LeO (laws_FnMergePath.j0 k y0 y1 y2 y3) (laws_FnMergePath.j0 (k + 1) y0 y1 y2 y3)) ∧ (∀ y0 y1 y2, LeO (laws_FnMergePath.j1 k y0 y1 y2) (laws_FnMergePath.j1 (k + 1) y0 y1 y2)) ∧ (∀ y0 y1 y2 y3, LeO (laws_FnMergePath.l0 k y0 y1 y2 y3) (laws_FnMergePath.l0 (k + 1) y0 y1 y2 y3))
  | 0 => ⟨fun _ _ _ _ r h => by simp [laws_FnMergePath.j0] at h, fun _ _ _ r h => by simp [laws_FnMergePath.j1] at h, fun _ _ _ _ r h => by simp [laws_FnMergePath.l0] at h⟩
  | k + 1 => by
    obtain ⟨ih0, ih1, ih2⟩ := laws_FnMergePath.mono_l k
    refine ⟨?_, ?_, ?_⟩
    · intro y0 y1 y2 y3
      unfold laws_FnMergePath.j0
      repeat' first
      | (with_reducible exact ih0 _ _ _ _)
      | (with_reducible exact ih1 _ _ _)
      | (with_reducible exact ih2 _ _ _ _)
      | (with_reducible exact impl_RangeNodes.mono _ _ _ _)
      | (with_reducible exact spec_MergedLevels.mono _ _ _ _)
      | (with_reducible exact spec_Nodes.mono _ _ _)
      | (with_reducible exact spec_SameNodes.mono _ _ _)
      | (with_reducible exact LeO.refl _)
      | (with_reducible exact LeO.none _)
      | (with_reducible refine LeO.ite ?_ ?_)
      | (with_reducible refine LeO.bind ?_ (fun _ => ?_))
      | exact ih0 _ _ _ _
      | exact ih1 _ _ _
      | exact ih2 _ _ _ _
      | exact impl_RangeNodes.mono _ _ _ _
      | exact spec_MergedLevels.mono _ _ _ _
      | exact spec_Nodes.mono _ _ _
      | exact spec_SameNodes.mono _ _ _
      | exact LeO.none _
      | refine LeO.ite ?_ ?_
      | refine LeO.bind ?_ (fun _ => ?_)
    · intro y0 y1 y2
      unfold laws_FnMergePath.j1
      repeat' first
      | (with_reducible exact ih0 _ _ _ _)
      | (with_reducible exact ih1 _ _ _)
      | (with_reducible exact ih2 _ _ _ _)
      | (with_reducible exact impl_RangeNodes.mono _ _ _ _)
      | (with_reducible exact spec_MergedLevels.mono _ _ _ _)
      | (with_reducible exact spec_Nodes.mono _ _ _)
      | (with_reducible exact spec_SameNodes.mono _ _ _)
      | (with_reducible exact LeO.refl _)
      | (with_reducible exact LeO.none _)
      | (with_reducible refine LeO.ite ?_ ?_)
      | (with_reducible refine LeO.bind ?_ (fun _ => ?_))
      | exact ih0 _ _ _ _
      | exact ih1 _ _ _
      | exact ih2 _ _ _ _
      | exact impl_RangeNodes.mono _ _ _ _
      | exact spec_MergedLevels.mono _ _ _ _
      | exact spec_Nodes.mono _ _ _
      | exact spec_SameNodes.mono _ _ _
      | exact LeO.none _
      | refine LeO.ite ?_ ?_
      | refine LeO.bind ?_ (fun _ => ?_)
    · intro y0 y1 y2 y3
      unfold laws_FnMergePath.l0
      repeat' first
      | (with_reducible exact ih0 _ _ _ _)
      | (with_reducible exact ih1 _ _ _)
      | (with_reducible exact ih2 _ _ _ _)
      | (with_reducible exact impl_RangeNodes.mono _ _ _ _)
      | (with_reducible exact spec_MergedLevels.mono _ _ _ _)
      | (with_reducible exact spec_Nodes.mono _ _ _)
      | (with_reducible exact spec_SameNodes.mono _ _ _)
      | (with_reducible exact LeO.refl _)
      | (with_reducible exact LeO.none _)
      | (with_reducible refine LeO.ite ?_ ?_)
      | (with_reducible refine LeO.bind ?_ (fun _ => ?_))
      | exact ih0 _ _ _ _
      | exact ih1 _ _ _
      | exact ih2 _ _ _ _
      | exact impl_RangeNodes.mono _ _ _ _
      | exact spec_MergedLevels.mono _ _ _ _
      | exact spec_Nodes.mono _ _ _
      | exact spec_SameNodes.mono _ _ _
      | exact LeO.none _
      | refine LeO.ite ?_ ?_
      | refine LeO.bind ?_ (fun _ => ?_)
theorem laws_FnMergePath.mono : ∀ a0 a1 a2 k, LeO (laws_FnMergePath.f k a0 a1 a2) (laws_FnMergePath.f (k + 1) a0 a1 a2) := by
  intro a0 a1 a2 k
  obtain ⟨ih0, ih1, ih2⟩ := laws_FnMergePath.mono_l k
  unfold laws_FnMergePath.f
  repeat' first
      | (with_reducible exact ih0 _ _ _ _)
      | (with_reducible exact ih1 _ _ _)
      | (with_reducible exact ih2 _ _ _ _)
      | (with_reducible exact impl_RangeNodes.mono _ _ _ _)
      | (with_reducible exact spec_MergedLevels.mono _ _ _ _)
      | (with_reducible exact spec_Nodes.mono _ _ _)
      | (with_reducible exact spec_SameNodes.mono _ _ _)
      | (with_reducible exact LeO.refl _)
      | (with_reducible exact LeO.none _)
      | (with_reducible refine LeO.ite ?_ ?_)
      | (with_reducible refine LeO.bind ?_ (fun _ => ?_))
      | exact ih0 _ _ _ _
      | exact ih1 _ _ _
      | exact ih2 _ _ _ _
      | exact impl_RangeNodes.mono _ _ _ _
      | exact spec_MergedLevels.mono _ _ _ _
      | exact spec_Nodes.mono _ _ _
      | exact spec_SameNodes.mono _ _ _
      | exact LeO.none _
      | refine LeO.ite ?_ ?_
      | refine LeO.bind ?_ (fun _ => ?_)
def laws_FnMergePath.Pure : Prop := ∀ (a0 : Int) (a1 : Int) (a2 : Int), (Lit.int .u64 a0).wf = true → (Lit.int .u64 a1).wf = true → (Lit.int .u64 a2).wf = true → ∃ k, laws_FnMergePath.f k a0 a1 a2 = some true
def laws_zzFits2.l0 : Nat → List (List Int) → Int → Int → Option (Bool)
  | 0, _, _, _ => none
  | k + 1, x8, x9, x10 => if x10 < x9 then (if 0 ≤ x10 then (if x10 < (x8.length : Int) then (if ((rd_L4 x8 x10).length : Int) > 2147483647 then (some false) else (laws_zzFits2.l0 k x8 x9 (wrap64 (x10 + 1)))) else (none)) else (none)) else (some true)
def laws_zzFits2.f (k : Nat) (l0 : List (List Int)) : Option (Bool) := if (l0.length : Int) > 2147483647 then (some false) else (laws_zzFits2.l0 k l0 (l0.length : Int) 0)
theorem laws_zzFits2.mono_l : ∀ k, (∀ y0 y1 y2, LeO (laws_zzFits2.l0 k y0 y1 y2) (laws_zzFits2.l0 (k + 1) y0 y1 y2))
  | 0 => fun _ _ _ r h => by simp [laws_zzFits2.l0] at h
  | k + 1 => by
    have ih0 := laws_zzFits2.mono_l k
    · intro y0 y1 y2
      unfold laws_zzFits2.l0
      repeat' first
      | (with_reducible exact ih0 _ _ _)
      | (with_reducible exact LeO.refl _)
      | (with_reducible exact LeO.none _)
      | (with_reducible refine LeO.ite ?_ ?_)
      | (with_reducible refine LeO.bind ?_ (fun _ => ?_))
      | exact ih0 _ _ _
      | exact LeO.none _
      | refine LeO.ite ?_ ?_
      | refine LeO.bind ?_ (fun _ => ?_)
theorem laws_zzFits2.mono : ∀ a0 k, LeO (laws_zzFits2.f k a0) (laws_zzFits2.f (k + 1) a0) := by
  intro a0 k
  have ih0 := laws_zzFits2.mono_l k
  unfold laws_zzFits2.f
  repeat' first
      | (with_reducible exact ih0 _ _ _)
      | (with_reducible exact LeO.refl _)
      | (with_reducible exact LeO.none _)
      | (with_reducible refine LeO.ite ?_ ?_)
      | (with_reducible refine LeO.bind ?_ (fun _ => ?_))
      | exact ih0 _ _ _
      | exact LeO.none _
      | refine LeO.ite ?_ ?_
      | refine LeO.bind ?_ (fun _ => ?_)
set_option maxHeartbeats 8000000 in
set_option maxRecDepth 100000 in
theorem laws_zzFits2.calls (k : Nat) (A0 : Option Addr) (c0 : Nat) (l0 : List (List Int)) (r : Bool) (w : World) (hr0 : Kd.C (Kd.slice 5 (Kd.int .u8)) w A0 l0.length l0) (hc0 : l0.length ≤ c0) (h : laws_zzFits2.f k l0 = some r) :
    Calls Tryd.prog 27 #[.slice A0 l0.length c0] w fun e w' => e = .returned (.bool r) ∧ Drawn0 w w' := by
  have HR0 := Aside0.mk hr0
  have HC0 := Aside0.mk hc0
  clear hr0 hc0
  have H : (if (l0.length : Int) > 2147483647 then (some false) else (laws_zzFits2.l0 k l0 (l0.length : Int) 0)) = some r := h
  clear h
  by_cases c2 : (l0.length : Int) > 2147483647
  · rw [if_pos c2] at H
    have c2b0 : decide (2147483647 < (l0.length : Int)) = true := decide_eq_true c2
    have c2b1 : decide (2147483647 < l0.length) = true := decide_eq_true (by omega)
    clear c2
    obtain rfl := Option.some.inj H
    go_enter Tryd.func27, Tryd.ntmps27
    go_wp2
    go_ret
    exact ⟨by first | rfl | (simp; done) | (simp [*]; done), by repeat (first | exact Drawn0.refl _ | apply Drawn0.step)⟩
  · rw [if_neg c2] at H
    have c2b0 : decide (2147483647 < (l0.length : Int)) = false := decide_eq_false c2
    have c2b1 : decide (2147483647 < l0.length) = false := decide_eq_false (by omega)
    clear c2
    have H' := Aside0.mk H
    clear H
    go_enter Tryd.func27, Tryd.ntmps27
    go_wp2
    try simp only [Act.put, List.setIfInBounds_toArray, List.set_cons_zero, List.set_cons_succ]
    go_loopg [10] k (fun kq v10 w' => ∃ (x10_1 : Int), v10 = .int .i64 x10_1 ∧ Aside0 (laws_zzFits2.l0 kq l0 (l0.length : Int) x10_1 = some r) ∧ Aside0 (kq ≤ k) ∧ Drawn0 w w')
    case atStart => exact ⟨(0), (by first | rfl | (simp; done) | (simp [*]; done)), H', ⟨Nat.le_refl _⟩, by repeat (first | exact Drawn0.refl _ | apply Drawn0.step)⟩
    case round =>
      clear H'
      try clear c2
      try clear c2b0
      try clear c2b1
      try clear p2
      obtain ⟨x10_1, rfl, HA, HK1, ⟨m1, rfl⟩⟩ := hrel
      cases gk with
      | zero => exact absurd HA.out (by simp [laws_zzFits2.l0])
      | succ k1 =>
        have H := HA.out
        clear HA
        simp only [laws_zzFits2.l0] at H
        by_cases c3 : x10_1 < (l0.length : Int)
        · rw [if_pos c3] at H
          have c3b0 : decide (x10_1 < (l0.length : Int)) = true := decide_eq_true c3
          clear c3
          by_cases c4 : 0 ≤ x10_1
          · rw [if_pos c4] at H
            have c4b0 : decide (0 ≤ x10_1) = true := decide_eq_true c4
            clear c4
            by_cases c5 : x10_1 < (l0.length : Int)
            · rw [if_pos c5] at H
              have c5b0 : decide (x10_1 < (l0.length : Int)) = true := decide_eq_true c5
              clear c5
              by_cases c6 : ((rd_L4 l0 x10_1).length : Int) > 2147483647
              · rw [if_pos c6] at H
                have c6b0 : decide (2147483647 < ((rd_L4 l0 x10_1).length : Int)) = true := decide_eq_true c6
                have c6b1 : decide (2147483647 < (rd_L4 l0 x10_1).length) = true := decide_eq_true (by omega)
                clear c6
                obtain rfl := Option.some.inj H
                have p219 : 0 ≤ (x10_1 : Int) := of_decide_eq_true (by first | (with_reducible assumption) | assumption)
                have q219 : x10_1 < (l0.length : Int) := of_decide_eq_true (by first | (with_reducible assumption) | assumption)
                obtain ⟨ad219, A219_0, c219_0, e219, hx219_0, hl219_0, hi219_0⟩ := at_L4 HR0.out x10_1 p219 q219
                cases e219
                have HR219_0 := Aside0.mk hi219_0
                have HC219_0 := Aside0.mk hl219_0
                clear hi219_0 hl219_0
                replace p219 := eq_true p219
                replace q219 := eq_true q219
                go_wp2
                go_ret
                exact ⟨by first | rfl | (simp; done) | (simp [*]; done), by repeat (first | exact Drawn0.refl _ | apply Drawn0.step)⟩
              · rw [if_neg c6] at H
                have c6b0 : decide (2147483647 < ((rd_L4 l0 x10_1).length : Int)) = false := decide_eq_false c6
                have c6b1 : decide (2147483647 < (rd_L4 l0 x10_1).length) = false := decide_eq_false (by omega)
                clear c6
                have H' := Aside0.mk H
                clear H
                have p219 : 0 ≤ (x10_1 : Int) := of_decide_eq_true (by first | (with_reducible assumption) | assumption)
                have q219 : x10_1 < (l0.length : Int) := of_decide_eq_true (by first | (with_reducible assumption) | assumption)
                obtain ⟨ad219, A219_0, c219_0, e219, hx219_0, hl219_0, hi219_0⟩ := at_L4 HR0.out x10_1 p219 q219
                cases e219
                have HR219_0 := Aside0.mk hi219_0
                have HC219_0 := Aside0.mk hl219_0
                clear hi219_0 hl219_0
                replace p219 := eq_true p219
                replace q219 := eq_true q219
                go_wp2
                go_roundg k1
                case measure => have := HK1.out; omega
                case rel => exact ⟨(wrap64 (x10_1 + 1)), (by first | rfl | (simp; done) | (simp [*]; done)), H', ⟨by have := HK1.out; omega⟩, by repeat (first | exact Drawn0.refl _ | apply Drawn0.step)⟩
            · rw [if_neg c5] at H
              exact absurd H (by simp)
          · rw [if_neg c4] at H
            exact absurd H (by simp)
        · rw [if_neg c3] at H
          have c3b0 : decide (x10_1 < (l0.length : Int)) = false := decide_eq_false c3
          clear c3
          obtain rfl := Option.some.inj H
          go_wp2
          go_ret
          exact ⟨by first | rfl | (simp; done) | (simp [*]; done), by repeat (first | exact Drawn0.refl _ | apply Drawn0.step)⟩
def laws_zzFits7.f (k : Nat) (a0_0 : Int) (a0_1 : Int) (l0_2 : List (List Int)) : Option (Bool) := (laws_zzFits2.f k l0_2).bind fun t221 => (if t221 = true then (some true) else (some false))
theorem laws_zzFits7.mono : ∀ a0 a1 a2 k, LeO (laws_zzFits7.f k a0 a1 a2) (laws_zzFits7.f (k + 1) a0 a1 a2) := by
  intro a0 a1 a2 k
  unfold laws_zzFits7.f
  repeat' first
      | (with_reducible exact laws_zzFits2.mono _ _)
      | (with_reducible exact LeO.refl _)
      | (with_reducible exact LeO.none _)
      | (with_reducible refine LeO.ite ?_ ?_)
      | (with_reducible refine LeO.bind ?_ (fun _ => ?_))
      | exact laws_zzFits2.mono _ _
      | exact LeO.none _
      | refine LeO.ite ?_ ?_
      | refine LeO.bind ?_ (fun _ => ?_)
def laws_logSmall.l0 : Nat → List (List Int) → List (List Int) → Int → Int → Option (Bool)
  | 0, _, _, _, _ => none
  | k + 1, x0, x5, x6, x7 => if x7 < x6 then (if 0 ≤ x7 then (if x7 < (x5.length : Int) then (if ((rd_L4 x5 x7).length : Int) > 5000 then (some false) else (laws_logSmall.l0 k x0 x5 x6 (wrap64 (x7 + 1)))) else (none)) else (none)) else (some (decide ((x0.length : Int) ≤ 300)))
def laws_logSmall.f (k : Nat) (l0 : List (List Int)) : Option (Bool) := laws_logSmall.l0 k l0 l0 (l0.length : Int) 0
theorem laws_logSmall.mono_l : ∀ k, (∀ y0 y1 y2 y3, LeO (laws_logSmall.l0 k y0 y1 y2 y3) (laws_logSmall.l0 (k + 1) y0 y1 y2 y3))
  | 0 => fun _ _ _ _ r h => by simp [laws_logSmall.l0] at h
  | k + 1 => by
    have ih0 := laws_logSmall.mono_l k
    · intro y0 y1 y2 y3
      unfold laws_logSmall.l0
      repeat' first
      | (with_reducible exact ih0 _ _ _ _)
      | (with_reducible exact LeO.refl _)
      | (with_reducible exact LeO.none _)
      | (with_reducible refine LeO.ite ?_ ?_)
      | (with_reducible refine LeO.bind ?_ (fun _ => ?_))
      | exact ih0 _ _ _ _
      | exact LeO.none _
      | refine LeO.ite ?_ ?_
      | refine LeO.bind ?_ (fun _ => ?_)
theorem laws_logSmall.mono : ∀ a0 k, LeO (laws_logSmall.f k a0) (laws_logSmall.f (k + 1) a0) := by
  intro a0 k
  have ih0 := laws_logSmall.mono_l k
  unfold laws_logSmall.f
  repeat' first
      | (with_reducible exact ih0 _ _ _ _)
      | (with_reducible exact LeO.refl _)
      | (with_reducible exact LeO.none _)
      | (with_reducible refine LeO.ite ?_ ?_)
      | (with_reducible refine LeO.bind ?_ (fun _ => ?_))
      | exact ih0 _ _ _ _
      | exact LeO.none _
      | refine LeO.ite ?_ ?_
      | refine LeO.bind ?_ (fun _ => ?_)
set_option maxHeartbeats 8000000 in
set_option maxRecDepth 100000 in
theorem laws_logSmall.calls (k : Nat) (A0 : Option Addr) (c0 : Nat) (l0 : List (List Int)) (r : Bool) (w : World) (hr0 : Kd.C (Kd.slice 5 (Kd.int .u8)) w A0 l0.length l0) (hc0 : l0.length ≤ c0) (h : laws_logSmall.f k l0 = some r) :
    Calls Tryd.prog 28 #[.slice A0 l0.length c0] w fun e w' => e = .returned (.bool r) ∧ Drawn0 w w' := by
  have HR0 := Aside0.mk hr0
  have HC0 := Aside0.mk hc0
  clear hr0 hc0
  have H : (laws_logSmall.l0 k l0 l0 (l0.length : Int) 0) = some r := h
  clear h
  have H' := Aside0.mk H
  clear H
  go_enter Tryd.func28, Tryd.ntmps28
  go_wp2
  try simp only [Act.put, List.setIfInBounds_toArray, List.set_cons_zero, List.set_cons_succ]
  go_loopg [7] k (fun kq v7 w' => ∃ (x7_1 : Int), v7 = .int .i64 x7_1 ∧ Aside0 (laws_logSmall.l0 kq l0 l0 (l0.length : Int) x7_1 = some r) ∧ Aside0 (kq ≤ k) ∧ Drawn0 w w')
  case atStart => exact ⟨(0), (by first | rfl | (simp; done) | (simp [*]; done)), H', ⟨Nat.le_refl _⟩, by repeat (first | exact Drawn0.refl _ | apply Drawn0.step)⟩
  case round =>
    clear H'
    obtain ⟨x7_1, rfl, HA, HK1, ⟨m1, rfl⟩⟩ := hrel
    cases gk with
    | zero => exact absurd HA.out (by simp [laws_logSmall.l0])
    | succ k1 =>
      have H := HA.out
      clear HA
      simp only [laws_logSmall.l0] at H
      by_cases c2 : x7_1 < (l0.length : Int)
      · rw [if_pos c2] at H
        have c2b0 : decide (x7_1 < (l0.length : Int)) = true := decide_eq_true c2
        clear c2
        by_cases c3 : 0 ≤ x7_1
        · rw [if_pos c3] at H
          have c3b0 : decide (0 ≤ x7_1) = true := decide_eq_true c3
          clear c3
          by_cases c4 : x7_1 < (l0.length : Int)
          · rw [if_pos c4] at H
            have c4b0 : decide (x7_1 < (l0.length : Int)) = true := decide_eq_true c4
            clear c4
            by_cases c5 : ((rd_L4 l0 x7_1).length : Int) > 5000
            · rw [if_pos c5] at H
              have c5b0 : decide (5000 < ((rd_L4 l0 x7_1).length : Int)) = true := decide_eq_true c5
              have c5b1 : decide (5000 < (rd_L4 l0 x7_1).length) = true := decide_eq_true (by omega)
              clear c5
              obtain rfl := Option.some.inj H
              have p222 : 0 ≤ (x7_1 : Int) := of_decide_eq_true (by first | (with_reducible assumption) | assumption)
              have q222 : x7_1 < (l0.length : Int) := of_decide_eq_true (by first | (with_reducible assumption) | assumption)
              obtain ⟨ad222, A222_0, c222_0, e222, hx222_0, hl222_0, hi222_0⟩ := at_L4 HR0.out x7_1 p222 q222
              cases e222
              have HR222_0 := Aside0.mk hi222_0
              have HC222_0 := Aside0.mk hl222_0
              clear hi222_0 hl222_0
              replace p222 := eq_true p222
              replace q222 := eq_true q222
              go_wp2
              go_ret
              exact ⟨by first | rfl | (simp; done) | (simp [*]; done), by repeat (first | exact Drawn0.refl _ | apply Drawn0.step)⟩
            · rw [if_neg c5] at H
              have c5b0 : decide (5000 < ((rd_L4 l0 x7_1).length : Int)) = false := decide_eq_false c5
              have c5b1 : decide (5000 < (rd_L4 l0 x7_1).length) = false := decide_eq_false (by omega)
              clear c5
              have H' := Aside0.mk H
              clear H
              have p222 : 0 ≤ (x7_1 : Int) := of_decide_eq_true (by first | (with_reducible assumption) | assumption)
              have q222 : x7_1 < (l0.length : Int) := of_decide_eq_true (by first | (with_reducible assumption) | assumption)
              obtain ⟨ad222, A222_0, c222_0, e222, hx222_0, hl222_0, hi222_0⟩ := at_L4 HR0.out x7_1 p222 q222
              cases e222
              have HR222_0 := Aside0.mk hi222_0
              have HC222_0 := Aside0.mk hl222_0
              clear hi222_0 hl222_0
              replace p222 := eq_true p222
              replace q222 := eq_true q222
              go_wp2
              go_roundg k1
              case measure => have := HK1.out; omega
              case rel => exact ⟨(wrap64 (x7_1 + 1)), (by first | rfl | (simp; done) | (simp [*]; done)), H', ⟨by have := HK1.out; omega⟩, by repeat (first | exact Drawn0.refl _ | apply Drawn0.step)⟩
          · rw [if_neg c4] at H
            exact absurd H (by simp)
        · rw [if_neg c3] at H
          exact absurd H (by simp)
      · rw [if_neg c2] at H
        have c2b0 : decide (x7_1 < (l0.length : Int)) = false := decide_eq_false c2
        clear c2
        obtain rfl := Option.some.inj H
        go_wp2
        go_ret
        exact ⟨by first | rfl | (simp; done) | (simp [*]; done), by repeat (first | exact Drawn0.refl _ | apply Drawn0.step)⟩
end Go.Proofs.YtijldedhcjkhiaaDoor.X
