import Derived.Test.YtijldedhcjkhiaaDoorSI0
namespace Go.Proofs.YtijldedhcjkhiaaDoor.I
open Go.RowKit Go.Proofs.YtijldedhcjkhiaaDoorW.PrintWords Go.Proofs.YtijldedhcjkhiaaDoorW.PrintLast Go.Proofs.YtijldedhcjkhiaaDoorW.PrintMore
attribute [local go_sem] max2_int min2_int max_two min_two max_three min_three max_four min_four   -- for this text's walks alone
set_option linter.unusedVariables false
set_option linter.unusedSimpArgs false
def laws_zzFits2.l0 : Nat → List (List Int) → Int → Int → Option (Bool)
 | 0, _, _, _ => none
 | k + 1, x8, x9, x10 => if x10 < x9 then (if 0 ≤ x10 then (if x10 < (x8.length : Int) then (if ((rd_L1 x8 x10).length : Int) > 2147483647 then (some false) else (laws_zzFits2.l0 k x8 x9 (wrap64 (x10 + 1)))) else (none)) else (none)) else (some true)
def laws_zzFits2.f (k : Nat) (l0 : List (List Int)) : Option (Bool) := if (l0.length : Int) > 2147483647 then (some false) else (laws_zzFits2.l0 k l0 (l0.length : Int) 0)
theorem laws_zzFits2.mono_l : ∀ k, (∀ y0 y1 y2, LeO (laws_zzFits2.l0 k y0 y1 y2) (laws_zzFits2.l0 (k + 1) y0 y1 y2))
 | 0 => fun _ _ _ r h => by simp [laws_zzFits2.l0] at h
 | k + 1 => by
  have ih0 := laws_zzFits2.mono_l k
  ·intro y0 y1 y2
   unfold laws_zzFits2.l0
   repeat' first
   | (with_reducible exact ih0 _ _ _)
   | (with_reducible exact LeO.refl _)
   | (with_reducible exact LeO.none _)
   | (with_reducible refine LeO.ite ?_ ?_)
   | (with_reducible refine LeO.bind ?_ (fun _ => ?_))
   | exact ih0 _ _ _
   | exact LeO.none _
   | refine LeO.ite ?_ ?_
   | refine LeO.bind ?_ (fun _ => ?_)
theorem laws_zzFits2.mono : ∀ a0 k, LeO (laws_zzFits2.f k a0) (laws_zzFits2.f (k + 1) a0) := by
 intro a0 k
 have ih0 := laws_zzFits2.mono_l k
 unfold laws_zzFits2.f
 repeat' first
   | (with_reducible exact ih0 _ _ _)
   | (with_reducible exact LeO.refl _)
   | (with_reducible exact LeO.none _)
   | (with_reducible refine LeO.ite ?_ ?_)
   | (with_reducible refine LeO.bind ?_ (fun _ => ?_))
   | exact ih0 _ _ _
   | exact LeO.none _
   | refine LeO.ite ?_ ?_
   | refine LeO.bind ?_ (fun _ => ?_)
set_option maxHeartbeats 8000000 in
set_option maxRecDepth 100000 in
theorem laws_zzFits2.calls (k : Nat) (A0 : Option Addr) (c0 : Nat) (l0 : List (List Int)) (r : Bool) (w : World) (hr0 : Kd.C (Kd.slice 5 (Kd.int .u8)) w A0 l0.length l0) (hc0 : l0.length ≤ c0) (h : laws_zzFits2.f k l0 = some r) :
  Calls Tryd.prog 27 #[.slice A0 l0.length c0] w fun e w' => e = .returned (.bool r) ∧ Drawn0 w w' := by
 have HR0 := Aside0.mk hr0
 have HC0 := Aside0.mk hc0
 clear hr0 hc0
 have H : (if (l0.length : Int) > 2147483647 then (some false) else (laws_zzFits2.l0 k l0 (l0.length : Int) 0)) = some r := h
 clear h
 by_cases c2 : (l0.length : Int) > 2147483647
 ·rw [if_pos c2] at H
  have c2b0 : decide (2147483647 < (l0.length : Int)) = true := decide_eq_true c2
  have c2b1 : decide (2147483647 < l0.length) = true := decide_eq_true (by omega)
  clear c2
  obtain rfl := Option.some.inj H
  go_enter Tryd.func27, Tryd.ntmps27
  go_wp2
  go_ret
  exact ⟨by first | rfl | (simp; done) | (simp [*]; done), by repeat (first | exact Drawn0.refl _ | apply Drawn0.step)⟩
 ·rw [if_neg c2] at H
  have c2b0 : decide (2147483647 < (l0.length : Int)) = false := decide_eq_false c2
  have c2b1 : decide (2147483647 < l0.length) = false := decide_eq_false (by omega)
  clear c2
  have H' := Aside0.mk H
  clear H
  go_enter Tryd.func27, Tryd.ntmps27
  go_wp2
  try simp only [Act.put, List.setIfInBounds_toArray, List.set_cons_zero, List.set_cons_succ]
  go_loopg [10] k (fun kq v10 w' => ∃ (x10_1 : Int), v10 = .int .i64 x10_1 ∧ Aside0 (laws_zzFits2.l0 kq l0 (l0.length : Int) x10_1 = some r) ∧ Aside0 (kq ≤ k) ∧ Drawn0 w w')
  case atStart => exact ⟨(0), (by first | rfl | (simp; done) | (simp [*]; done)), H', ⟨Nat.le_refl _⟩, by repeat (first | exact Drawn0.refl _ | apply Drawn0.step)⟩
  case round =>
   clear H'
   try clear c2
   try clear c2b0
   try clear c2b1
   try clear p2
   obtain ⟨x10_1, rfl, HA, HK1, ⟨m1, rfl⟩⟩ := hrel
   cases gk with
   | zero => exact absurd HA.out (by simp [laws_zzFits2.l0])
   | succ k1 =>
    have H := HA.out
    clear HA
    simp only [laws_zzFits2.l0] at H
    by_cases c3 : x10_1 < (l0.length : Int)
    ·rw [if_pos c3] at H
     have c3b0 : decide (x10_1 < (l0.length : Int)) = true := decide_eq_true c3
     clear c3
     by_cases c4 : 0 ≤ x10_1
     ·rw [if_pos c4] at H
      have c4b0 : decide (0 ≤ x10_1) = true := decide_eq_true c4
      clear c4
      by_cases c5 : x10_1 < (l0.length : Int)
      ·rw [if_pos c5] at H
       have c5b0 : decide (x10_1 < (l0.length : Int)) = true := decide_eq_true c5
       clear c5
       by_cases c6 : ((rd_L1 l0 x10_1).length : Int) > 2147483647
       ·rw [if_pos c6] at H
        have c6b0 : decide (2147483647 < ((rd_L1 l0 x10_1).length : Int)) = true := decide_eq_true c6
        have c6b1 : decide (2147483647 < (rd_L1 l0 x10_1).length) = true := decide_eq_true (by omega)
        clear c6
        obtain rfl := Option.some.inj H
        have p101 : 0 ≤ (x10_1 : Int) := of_decide_eq_true (by first | (with_reducible assumption) | assumption)
        have q101 : x10_1 < (l0.length : Int) := of_decide_eq_true (by first | (with_reducible assumption) | assumption)
        obtain ⟨ad101, A101_0, c101_0, e101, hx101_0, hl101_0, hi101_0⟩ := at_L1 HR0.out x10_1 p101 q101
        cases e101
        have HR101_0 := Aside0.mk hi101_0
        have HC101_0 := Aside0.mk hl101_0
        clear hi101_0 hl101_0
        replace p101 := eq_true p101
        replace q101 := eq_true q101
        go_wp2
        go_ret
        exact ⟨by first | rfl | (simp; done) | (simp [*]; done), by repeat (first | exact Drawn0.refl _ | apply Drawn0.step)⟩
       ·rw [if_neg c6] at H
        have c6b0 : decide (2147483647 < ((rd_L1 l0 x10_1).length : Int)) = false := decide_eq_false c6
        have c6b1 : decide (2147483647 < (rd_L1 l0 x10_1).length) = false := decide_eq_false (by omega)
        clear c6
        have H' := Aside0.mk H
        clear H
        have p101 : 0 ≤ (x10_1 : Int) := of_decide_eq_true (by first | (with_reducible assumption) | assumption)
        have q101 : x10_1 < (l0.length : Int) := of_decide_eq_true (by first | (with_reducible assumption) | assumption)
        obtain ⟨ad101, A101_0, c101_0, e101, hx101_0, hl101_0, hi101_0⟩ := at_L1 HR0.out x10_1 p101 q101
        cases e101
        have HR101_0 := Aside0.mk hi101_0
        have HC101_0 := Aside0.mk hl101_0
        clear hi101_0 hl101_0
        replace p101 := eq_true p101
        replace q101 := eq_true q101
        go_wp2
        go_roundg k1
        case measure => have := HK1.out; omega
        case rel => exact ⟨(wrap64 (x10_1 + 1)), (by first | rfl | (simp; done) | (simp [*]; done)), H', ⟨by have := HK1.out; omega⟩, by repeat (first | exact Drawn0.refl _ | apply Drawn0.step)⟩
      ·rw [if_neg c5] at H
       exact absurd H (by simp)
     ·rw [if_neg c4] at H
      exact absurd H (by simp)
    ·rw [if_neg c3] at H
     have c3b0 : decide (x10_1 < (l0.length : Int)) = false := decide_eq_false c3
     clear c3
     obtain rfl := Option.some.inj H
     go_wp2
     go_ret
     exact ⟨by first | rfl | (simp; done) | (simp [*]; done), by repeat (first | exact Drawn0.refl _ | apply Drawn0.step)⟩
def laws_logSmall.l0 : Nat → List (List Int) → List (List Int) → Int → Int → Option (Bool)
 | 0, _, _, _, _ => none
 | k + 1, x0, x5, x6, x7 => if x7 < x6 then (if 0 ≤ x7 then (if x7 < (x5.length : Int) then (if ((rd_L1 x5 x7).length : Int) > 5000 then (some false) else (laws_logSmall.l0 k x0 x5 x6 (wrap64 (x7 + 1)))) else (none)) else (none)) else (some (decide ((x0.length : Int) ≤ 300)))
def laws_logSmall.f (k : Nat) (l0 : List (List Int)) : Option (Bool) := laws_logSmall.l0 k l0 l0 (l0.length : Int) 0
theorem laws_logSmall.mono_l : ∀ k, (∀ y0 y1 y2 y3, LeO (laws_logSmall.l0 k y0 y1 y2 y3) (laws_logSmall.l0 (k + 1) y0 y1 y2 y3))
 | 0 => fun _ _ _ _ r h => by simp [laws_logSmall.l0] at h
 | k + 1 => by
  have ih0 := laws_logSmall.mono_l k
  ·intro y0 y1 y2 y3
   unfold laws_logSmall.l0
   repeat' first
   | (with_reducible exact ih0 _ _ _ _)
   | (with_reducible exact LeO.refl _)
   | (with_reducible exact LeO.none _)
   | (with_reducible refine LeO.ite ?_ ?_)
   | (with_reducible refine LeO.bind ?_ (fun _ => ?_))
   | exact ih0 _ _ _ _
   | exact LeO.none _
   | refine LeO.ite ?_ ?_
   | refine LeO.bind ?_ (fun _ => ?_)
theorem laws_logSmall.mono : ∀ a0 k, LeO (laws_logSmall.f k a0) (laws_logSmall.f (k + 1) a0) := by
 intro a0 k
 have ih0 := laws_logSmall.mono_l k
 unfold laws_logSmall.f
 repeat' first
   | (with_reducible exact ih0 _ _ _ _)
   | (with_reducible exact LeO.refl _)
   | (with_reducible exact LeO.none _)
   | (with_reducible refine LeO.ite ?_ ?_)
   | (with_reducible refine LeO.bind ?_ (fun _ => ?_))
   | exact ih0 _ _ _ _
   | exact LeO.none _
   | refine LeO.ite ?_ ?_
   | refine LeO.bind ?_ (fun _ => ?_)
set_option maxHeartbeats 8000000 in
set_option maxRecDepth 100000 in
theorem laws_logSmall.calls (k : Nat) (A0 : Option Addr) (c0 : Nat) (l0 : List (List Int)) (r : Bool) (w : World) (hr0 : Kd.C (Kd.slice 5 (Kd.int .u8)) w A0 l0.length l0) (hc0 : l0.length ≤ c0) (h : laws_logSmall.f k l0 = some r) :
  Calls Tryd.prog 28 #[.slice A0 l0.length c0] w fun e w' => e = .returned (.bool r) ∧ Drawn0 w w' := by
 have HR0 := Aside0.mk hr0
 have HC0 := Aside0.mk hc0
 clear hr0 hc0
 have H : (laws_logSmall.l0 k l0 l0 (l0.length : Int) 0) = some r := h
 clear h
 have H' := Aside0.mk H
 clear H
 go_enter Tryd.func28, Tryd.ntmps28
 go_wp2
 try simp only [Act.put, List.setIfInBounds_toArray, List.set_cons_zero, List.set_cons_succ]
 go_loopg [7] k (fun kq v7 w' => ∃ (x7_1 : Int), v7 = .int .i64 x7_1 ∧ Aside0 (laws_logSmall.l0 kq l0 l0 (l0.length : Int) x7_1 = some r) ∧ Aside0 (kq ≤ k) ∧ Drawn0 w w')
 case atStart => exact ⟨(0), (by first | rfl | (simp; done) | (simp [*]; done)), H', ⟨Nat.le_refl _⟩, by repeat (first | exact Drawn0.refl _ | apply Drawn0.step)⟩
 case round =>
  clear H'
  obtain ⟨x7_1, rfl, HA, HK1, ⟨m1, rfl⟩⟩ := hrel
  cases gk with
  | zero => exact absurd HA.out (by simp [laws_logSmall.l0])
  | succ k1 =>
   have H := HA.out
   clear HA
   simp only [laws_logSmall.l0] at H
   by_cases c2 : x7_1 < (l0.length : Int)
   ·rw [if_pos c2] at H
    have c2b0 : decide (x7_1 < (l0.length : Int)) = true := decide_eq_true c2
    clear c2
    by_cases c3 : 0 ≤ x7_1
    ·rw [if_pos c3] at H
     have c3b0 : decide (0 ≤ x7_1) = true := decide_eq_true c3
     clear c3
     by_cases c4 : x7_1 < (l0.length : Int)
     ·rw [if_pos c4] at H
      have c4b0 : decide (x7_1 < (l0.length : Int)) = true := decide_eq_true c4
      clear c4
      by_cases c5 : ((rd_L1 l0 x7_1).length : Int) > 5000
      ·rw [if_pos c5] at H
       have c5b0 : decide (5000 < ((rd_L1 l0 x7_1).length : Int)) = true := decide_eq_true c5
       have c5b1 : decide (5000 < (rd_L1 l0 x7_1).length) = true := decide_eq_true (by omega)
       clear c5
       obtain rfl := Option.some.inj H
       have p102 : 0 ≤ (x7_1 : Int) := of_decide_eq_true (by first | (with_reducible assumption) | assumption)
       have q102 : x7_1 < (l0.length : Int) := of_decide_eq_true (by first | (with_reducible assumption) | assumption)
       obtain ⟨ad102, A102_0, c102_0, e102, hx102_0, hl102_0, hi102_0⟩ := at_L1 HR0.out x7_1 p102 q102
       cases e102
       have HR102_0 := Aside0.mk hi102_0
       have HC102_0 := Aside0.mk hl102_0
       clear hi102_0 hl102_0
       replace p102 := eq_true p102
       replace q102 := eq_true q102
       go_wp2
       go_ret
       exact ⟨by first | rfl | (simp; done) | (simp [*]; done), by repeat (first | exact Drawn0.refl _ | apply Drawn0.step)⟩
      ·rw [if_neg c5] at H
       have c5b0 : decide (5000 < ((rd_L1 l0 x7_1).length : Int)) = false := decide_eq_false c5
       have c5b1 : decide (5000 < (rd_L1 l0 x7_1).length) = false := decide_eq_false (by omega)
       clear c5
       have H' := Aside0.mk H
       clear H
       have p102 : 0 ≤ (x7_1 : Int) := of_decide_eq_true (by first | (with_reducible assumption) | assumption)
       have q102 : x7_1 < (l0.length : Int) := of_decide_eq_true (by first | (with_reducible assumption) | assumption)
       obtain ⟨ad102, A102_0, c102_0, e102, hx102_0, hl102_0, hi102_0⟩ := at_L1 HR0.out x7_1 p102 q102
       cases e102
       have HR102_0 := Aside0.mk hi102_0
       have HC102_0 := Aside0.mk hl102_0
       clear hi102_0 hl102_0
       replace p102 := eq_true p102
       replace q102 := eq_true q102
       go_wp2
       go_roundg k1
       case measure => have := HK1.out; omega
       case rel => exact ⟨(wrap64 (x7_1 + 1)), (by first | rfl | (simp; done) | (simp [*]; done)), H', ⟨by have := HK1.out; omega⟩, by repeat (first | exact Drawn0.refl _ | apply Drawn0.step)⟩
     ·rw [if_neg c4] at H
      exact absurd H (by simp)
    ·rw [if_neg c3] at H
     exact absurd H (by simp)
   ·rw [if_neg c2] at H
    have c2b0 : decide (x7_1 < (l0.length : Int)) = false := decide_eq_false c2
    clear c2
    obtain rfl := Option.some.inj H
    go_wp2
    go_ret
    exact ⟨by first | rfl | (simp; done) | (simp [*]; done), by repeat (first | exact Drawn0.refl _ | apply Drawn0.step)⟩
def spec_Same.l0 : Nat → List (List Int) → List (List Int) → Int → Int → Option (Bool)
 | 0, _, _, _, _ => none
 | k + 1, x0, x1, x12, x13 => if x13 < x12 then (if 0 ≤ x13 then (if x13 < (x0.length : Int) then (if x13 < (x1.length : Int) then (if (strOfNums (rd_L1 x0 x13)).toList = (strOfNums (rd_L1 x1 x13)).toList then (spec_Same.l0 k x0 x1 x12 (wrap64 (x13 + 1))) else (some false)) else (none)) else (none)) else (none)) else (some true)
def spec_Same.f (k : Nat) (l0 : List (List Int)) (l1 : List (List Int)) : Option (Bool) := if (l0.length : Int) = (l1.length : Int) then (spec_Same.l0 k l0 l1 (l0.length : Int) 0) else (some false)
theorem spec_Same.mono_l : ∀ k, (∀ y0 y1 y2 y3, LeO (spec_Same.l0 k y0 y1 y2 y3) (spec_Same.l0 (k + 1) y0 y1 y2 y3))
 | 0 => fun _ _ _ _ r h => by simp [spec_Same.l0] at h
 | k + 1 => by
  have ih0 := spec_Same.mono_l k
  ·intro y0 y1 y2 y3
   unfold spec_Same.l0
   repeat' first
   | (with_reducible exact ih0 _ _ _ _)
   | (with_reducible exact LeO.refl _)
   | (with_reducible exact LeO.none _)
   | (with_reducible refine LeO.ite ?_ ?_)
   | (with_reducible refine LeO.bind ?_ (fun _ => ?_))
   | exact ih0 _ _ _ _
   | exact LeO.none _
   | refine LeO.ite ?_ ?_
   | refine LeO.bind ?_ (fun _ => ?_)
theorem spec_Same.mono : ∀ a0 a1 k, LeO (spec_Same.f k a0 a1) (spec_Same.f (k + 1) a0 a1) := by
 intro a0 a1 k
 have ih0 := spec_Same.mono_l k
 unfold spec_Same.f
 repeat' first
   | (with_reducible exact ih0 _ _ _ _)
   | (with_reducible exact LeO.refl _)
   | (with_reducible exact LeO.none _)
   | (with_reducible refine LeO.ite ?_ ?_)
   | (with_reducible refine LeO.bind ?_ (fun _ => ?_))
   | exact ih0 _ _ _ _
   | exact LeO.none _
   | refine LeO.ite ?_ ?_
   | refine LeO.bind ?_ (fun _ => ?_)
set_option maxHeartbeats 8000000 in
set_option maxRecDepth 100000 in
theorem spec_Same.calls (k : Nat) (A0 : Option Addr) (c0 : Nat) (l0 : List (List Int)) (A1 : Option Addr) (c1 : Nat) (l1 : List (List Int)) (r : Bool) (w : World) (hr0 : Kd.C (Kd.slice 5 (Kd.int .u8)) w A0 l0.length l0) (hc0 : l0.length ≤ c0) (hr1 : Kd.C (Kd.slice 5 (Kd.int .u8)) w A1 l1.length l1) (hc1 : l1.length ≤ c1) (h : spec_Same.f k l0 l1 = some r) :
  Calls Tryd.prog 31 #[.slice A0 l0.length c0, .slice A1 l1.length c1] w fun e w' => e = .returned (.bool r) ∧ Drawn0 w w' := by
 have HR0 := Aside0.mk hr0
 have HC0 := Aside0.mk hc0
 clear hr0 hc0
 have HR1 := Aside0.mk hr1
 have HC1 := Aside0.mk hc1
 clear hr1 hc1
 have H : (if (l0.length : Int) = (l1.length : Int) then (spec_Same.l0 k l0 l1 (l0.length : Int) 0) else (some false)) = some r := h
 clear h
 by_cases c3 : (l0.length : Int) = (l1.length : Int)
 ·rw [if_pos c3] at H
  have c3b0 : ((l0.length : Int) == (l1.length : Int)) = true := beq_iff_eq.mpr c3
  have c3b1 : ((l0.length : Int) != (l1.length : Int)) = false := bne_eq_false_iff_eq.mpr c3
  have c3b2 : (l0.length == l1.length) = true := by first | simpa using c3 | (simp at c3 ⊢; omega)
  clear c3
  have H' := Aside0.mk H
  clear H
  go_enter Tryd.func31, Tryd.ntmps31
  go_wp2
  repeat (go_quiet (fail); try go_wp2)
  try simp only [Act.put, List.setIfInBounds_toArray, List.set_cons_zero, List.set_cons_succ]
  go_loopg [13] k (fun kq v13 w' => ∃ (x13_1 : Int), v13 = .int .i64 x13_1 ∧ Aside0 (spec_Same.l0 kq l0 l1 (l0.length : Int) x13_1 = some r) ∧ Aside0 (kq ≤ k) ∧ Drawn0 w w')
  case atStart => exact ⟨(0), (by first | rfl | (simp; done) | (simp [*]; done)), H', ⟨Nat.le_refl _⟩, by repeat (first | exact Drawn0.refl _ | apply Drawn0.step)⟩
  case round =>
   clear H'
   try clear c1
   try clear p2
   try clear c3
   try clear c3b0
   try clear c3b1
   try clear c3b2
   obtain ⟨x13_1, rfl, HA, HK1, ⟨m1, rfl⟩⟩ := hrel
   cases gk with
   | zero => exact absurd HA.out (by simp [spec_Same.l0])
   | succ k1 =>
    have H := HA.out
    clear HA
    simp only [spec_Same.l0] at H
    by_cases c4 : x13_1 < (l0.length : Int)
    ·rw [if_pos c4] at H
     have c4b0 : decide (x13_1 < (l0.length : Int)) = true := decide_eq_true c4
     clear c4
     by_cases c5 : 0 ≤ x13_1
     ·rw [if_pos c5] at H
      have c5b0 : decide (0 ≤ x13_1) = true := decide_eq_true c5
      clear c5
      by_cases c6 : x13_1 < (l0.length : Int)
      ·rw [if_pos c6] at H
       have c6b0 : decide (x13_1 < (l0.length : Int)) = true := decide_eq_true c6
       clear c6
       by_cases c7 : x13_1 < (l1.length : Int)
       ·rw [if_pos c7] at H
        have c7b0 : decide (x13_1 < (l1.length : Int)) = true := decide_eq_true c7
        clear c7
        by_cases c8 : (strOfNums (rd_L1 l0 x13_1)).toList = (strOfNums (rd_L1 l1 x13_1)).toList
        ·rw [if_pos c8] at H
         have c8b0 : ((strOfNums (rd_L1 l0 x13_1)).toList == (strOfNums (rd_L1 l1 x13_1)).toList) = true := beq_iff_eq.mpr c8
         have c8b1 : ((strOfNums (rd_L1 l0 x13_1)).toList != (strOfNums (rd_L1 l1 x13_1)).toList) = false := bne_eq_false_iff_eq.mpr c8
         clear c8
         have H' := Aside0.mk H
         clear H
         have p103 : 0 ≤ (x13_1 : Int) := of_decide_eq_true (by first | (with_reducible assumption) | assumption)
         have q103 : x13_1 < (l0.length : Int) := of_decide_eq_true (by first | (with_reducible assumption) | assumption)
         obtain ⟨ad103, A103_0, c103_0, e103, hx103_0, hl103_0, hi103_0⟩ := at_L1 HR0.out x13_1 p103 q103
         cases e103
         have HR103_0 := Aside0.mk hi103_0
         have HC103_0 := Aside0.mk hl103_0
         clear hi103_0 hl103_0
         replace p103 := eq_true p103
         replace q103 := eq_true q103
         have hcv9 := Kd.C_string (P := Tryd.prog) (A := A103_0) (c := c103_0) Tryd.underlying42 Tryd.underlying5 Tryd.underlying9 HR103_0.out
         have hcv10 := fun n_ => Kd.C_string (P := Tryd.prog) (A := A103_0) (c := c103_0) Tryd.underlying42 Tryd.underlying5 Tryd.underlying9 (Kd.C_drewN HR103_0.out n_)
         have hcv11 := fun n_ m_ => Kd.C_string (P := Tryd.prog) (A := A103_0) (c := c103_0) Tryd.underlying42 Tryd.underlying5 Tryd.underlying9 (Kd.C_drewN (Kd.C_drewN HR103_0.out n_) m_)
         have p104 : 0 ≤ (x13_1 : Int) := of_decide_eq_true (by first | (with_reducible assumption) | assumption)
         have q104 : x13_1 < (l1.length : Int) := of_decide_eq_true (by first | (with_reducible assumption) | assumption)
         obtain ⟨ad104, A104_0, c104_0, e104, hx104_0, hl104_0, hi104_0⟩ := at_L1 HR1.out x13_1 p104 q104
         cases e104
         have HR104_0 := Aside0.mk hi104_0
         have HC104_0 := Aside0.mk hl104_0
         clear hi104_0 hl104_0
         replace p104 := eq_true p104
         replace q104 := eq_true q104
         have hcv12 := Kd.C_string (P := Tryd.prog) (A := A104_0) (c := c104_0) Tryd.underlying42 Tryd.underlying5 Tryd.underlying9 HR104_0.out
         have hcv13 := fun n_ => Kd.C_string (P := Tryd.prog) (A := A104_0) (c := c104_0) Tryd.underlying42 Tryd.underlying5 Tryd.underlying9 (Kd.C_drewN HR104_0.out n_)
         have hcv14 := fun n_ m_ => Kd.C_string (P := Tryd.prog) (A := A104_0) (c := c104_0) Tryd.underlying42 Tryd.underlying5 Tryd.underlying9 (Kd.C_drewN (Kd.C_drewN HR104_0.out n_) m_)
         go_wp2
         repeat (go_quiet (fail); try go_wp2)
         go_roundg k1
         case measure => have := HK1.out; omega
         case rel => exact ⟨(wrap64 (x13_1 + 1)), (by first | rfl | (simp; done) | (simp [*]; done)), H', ⟨by have := HK1.out; omega⟩, by repeat (first | exact Drawn0.refl _ | apply Drawn0.step)⟩
        ·rw [if_neg c8] at H
         have c8b0 : ((strOfNums (rd_L1 l0 x13_1)).toList == (strOfNums (rd_L1 l1 x13_1)).toList) = false := beq_eq_false_iff_ne.mpr c8
         have c8b1 : ((strOfNums (rd_L1 l0 x13_1)).toList != (strOfNums (rd_L1 l1 x13_1)).toList) = true := bne_iff_ne.mpr c8
         obtain rfl := Option.some.inj H
         have p103 : 0 ≤ (x13_1 : Int) := of_decide_eq_true (by first | (with_reducible assumption) | assumption)
         have q103 : x13_1 < (l0.length : Int) := of_decide_eq_true (by first | (with_reducible assumption) | assumption)
         obtain ⟨ad103, A103_0, c103_0, e103, hx103_0, hl103_0, hi103_0⟩ := at_L1 HR0.out x13_1 p103 q103
         cases e103
         have HR103_0 := Aside0.mk hi103_0
         have HC103_0 := Aside0.mk hl103_0
         clear hi103_0 hl103_0
         replace p103 := eq_true p103
         replace q103 := eq_true q103
         have hcv15 := Kd.C_string (P := Tryd.prog) (A := A103_0) (c := c103_0) Tryd.underlying42 Tryd.underlying5 Tryd.underlying9 HR103_0.out
         have hcv16 := fun n_ => Kd.C_string (P := Tryd.prog) (A := A103_0) (c := c103_0) Tryd.underlying42 Tryd.underlying5 Tryd.underlying9 (Kd.C_drewN HR103_0.out n_)
         have hcv17 := fun n_ m_ => Kd.C_string (P := Tryd.prog) (A := A103_0) (c := c103_0) Tryd.underlying42 Tryd.underlying5 Tryd.underlying9 (Kd.C_drewN (Kd.C_drewN HR103_0.out n_) m_)
         have p104 : 0 ≤ (x13_1 : Int) := of_decide_eq_true (by first | (with_reducible assumption) | assumption)
         have q104 : x13_1 < (l1.length : Int) := of_decide_eq_true (by first | (with_reducible assumption) | assumption)
         obtain ⟨ad104, A104_0, c104_0, e104, hx104_0, hl104_0, hi104_0⟩ := at_L1 HR1.out x13_1 p104 q104
         cases e104
         have HR104_0 := Aside0.mk hi104_0
         have HC104_0 := Aside0.mk hl104_0
         clear hi104_0 hl104_0
         replace p104 := eq_true p104
         replace q104 := eq_true q104
         have hcv18 := Kd.C_string (P := Tryd.prog) (A := A104_0) (c := c104_0) Tryd.underlying42 Tryd.underlying5 Tryd.underlying9 HR104_0.out
         have hcv19 := fun n_ => Kd.C_string (P := Tryd.prog) (A := A104_0) (c := c104_0) Tryd.underlying42 Tryd.underlying5 Tryd.underlying9 (Kd.C_drewN HR104_0.out n_)
         have hcv20 := fun n_ m_ => Kd.C_string (P := Tryd.prog) (A := A104_0) (c := c104_0) Tryd.underlying42 Tryd.underlying5 Tryd.underlying9 (Kd.C_drewN (Kd.C_drewN HR104_0.out n_) m_)
         go_wp2
         repeat (go_quiet (fail); try go_wp2)
         go_ret
         exact ⟨by first | rfl | (simp; done) | (simp [*]; done), by repeat (first | exact Drawn0.refl _ | apply Drawn0.step)⟩
       ·rw [if_neg c7] at H
        exact absurd H (by simp)
      ·rw [if_neg c6] at H
       exact absurd H (by simp)
     ·rw [if_neg c5] at H
      exact absurd H (by simp)
    ·rw [if_neg c4] at H
     have c4b0 : decide (x13_1 < (l0.length : Int)) = false := decide_eq_false c4
     clear c4
     obtain rfl := Option.some.inj H
     go_wp2
     repeat (go_quiet (fail); try go_wp2)
     go_ret
     exact ⟨by first | rfl | (simp; done) | (simp [*]; done), by repeat (first | exact Drawn0.refl _ | apply Drawn0.step)⟩
 ·rw [if_neg c3] at H
  have c3b0 : ((l0.length : Int) == (l1.length : Int)) = false := beq_eq_false_iff_ne.mpr c3
  have c3b1 : ((l0.length : Int) != (l1.length : Int)) = true := bne_iff_ne.mpr c3
  have c3b2 : (l0.length == l1.length) = false := by first | simpa using c3 | (simp at c3 ⊢; omega)
  obtain rfl := Option.some.inj H
  go_enter Tryd.func31, Tryd.ntmps31
  go_wp2
  repeat (go_quiet (fail); try go_wp2)
  go_ret
  exact ⟨by first | rfl | (simp; done) | (simp [*]; done), by repeat (first | exact Drawn0.refl _ | apply Drawn0.step)⟩
mutual
def impl_word.j0 : Nat → Int → Int → Bool → Option (List Int)
 | 0, _, _, _ => none
 | k + 1, x0, x1, x12 => if x12 = true then (impl_word.j1 k x0 8) else (impl_word.j1 k x0 x1)
def impl_word.j1 : Nat → Int → Int → Option (List Int)
 | 0, _, _ => none
 | k + 1, x0, x1 => if 0 ≤ x1 then (if (x1 : Int).toNat ≤ 281474976710656 then ((some (List.replicate (x1 : Int).toNat 0 : List Int)).bind fun y105 => (impl_word.l0 k x0 x1 y105 (y105.length : Int) 0)) else (none)) else (none)
def impl_word.l0 : Nat → Int → Int → List Int → Int → Int → Option (List Int)
 | 0, _, _, _, _, _ => none
 | k + 1, x0, x1, x5, x16, x17 => if x17 < x16 then (if 0 ≤ (wrap64 (8 * x17)) then (if 0 ≤ (wrap64 ((wrap64 (x1 - 1)) - x17)) then (if (wrap64 ((wrap64 (x1 - 1)) - x17)) < (x5.length : Int) then (impl_word.l0 k x0 x1 (x5.set ((wrap64 ((wrap64 (x1 - 1)) - x17)) : Int).toNat ((shr .u64 x0 (wrap64 (8 * x17))) % 256)) x16 (wrap64 (x17 + 1))) else (none)) else (none)) else (none)) else (some x5)
end
def impl_word.f (k : Nat) (a0 : Int) (a1 : Int) : Option (List Int) := if a1 < 1 then (impl_word.j0 k a0 a1 true) else (impl_word.j0 k a0 a1 (decide (a1 > 8)))
theorem impl_word.mono_l : ∀ k, (∀ y0 y1 y2, LeO (impl_word.j0 k y0 y1 y2) (impl_word.j0 (k + 1) y0 y1 y2)) ∧ (∀ y0 y1, LeO (impl_word.j1 k y0 y1) (impl_word.j1 (k + 1) y0 y1)) ∧ (∀ y0 y1 y2 y3 y4, LeO (impl_word.l0 k y0 y1 y2 y3 y4) (impl_word.l0 (k + 1) y0 y1 y2 y3 y4))
 | 0 => ⟨fun _ _ _ r h => by simp [impl_word.j0] at h, fun _ _ r h => by simp [impl_word.j1] at h, fun _ _ _ _ _ r h => by simp [impl_word.l0] at h⟩
 | k + 1 => by
  obtain ⟨ih0, ih1, ih2⟩ := impl_word.mono_l k
  refine ⟨?_, ?_, ?_⟩
  ·intro y0 y1 y2
   unfold impl_word.j0
   repeat' first
   | (with_reducible exact ih0 _ _ _)
   | (with_reducible exact ih1 _ _)
   | (with_reducible exact ih2 _ _ _ _ _)
   | (with_reducible exact LeO.refl _)
   | (with_reducible exact LeO.none _)
   | (with_reducible refine LeO.ite ?_ ?_)
   | (with_reducible refine LeO.bind ?_ (fun _ => ?_))
   | exact ih0 _ _ _
   | exact ih1 _ _
   | exact ih2 _ _ _ _ _
   | exact LeO.none _
   | refine LeO.ite ?_ ?_
   | refine LeO.bind ?_ (fun _ => ?_)
  ·intro y0 y1
   unfold impl_word.j1
   repeat' first
   | (with_reducible exact ih0 _ _ _)
   | (with_reducible exact ih1 _ _)
   | (with_reducible exact ih2 _ _ _ _ _)
   | (with_reducible exact LeO.refl _)
   | (with_reducible exact LeO.none _)
   | (with_reducible refine LeO.ite ?_ ?_)
   | (with_reducible refine LeO.bind ?_ (fun _ => ?_))
   | exact ih0 _ _ _
   | exact ih1 _ _
   | exact ih2 _ _ _ _ _
   | exact LeO.none _
   | refine LeO.ite ?_ ?_
   | refine LeO.bind ?_ (fun _ => ?_)
  ·intro y0 y1 y2 y3 y4
   unfold impl_word.l0
   repeat' first
   | (with_reducible exact ih0 _ _ _)
   | (with_reducible exact ih1 _ _)
   | (with_reducible exact ih2 _ _ _ _ _)
   | (with_reducible exact LeO.refl _)
   | (with_reducible exact LeO.none _)
   | (with_reducible refine LeO.ite ?_ ?_)
   | (with_reducible refine LeO.bind ?_ (fun _ => ?_))
   | exact ih0 _ _ _
   | exact ih1 _ _
   | exact ih2 _ _ _ _ _
   | exact LeO.none _
   | refine LeO.ite ?_ ?_
   | refine LeO.bind ?_ (fun _ => ?_)
theorem impl_word.mono : ∀ a0 a1 k, LeO (impl_word.f k a0 a1) (impl_word.f (k + 1) a0 a1) := by
 intro a0 a1 k
 obtain ⟨ih0, ih1, ih2⟩ := impl_word.mono_l k
 unfold impl_word.f
 repeat' first
   | (with_reducible exact ih0 _ _ _)
   | (with_reducible exact ih1 _ _)
   | (with_reducible exact ih2 _ _ _ _ _)
   | (with_reducible exact LeO.refl _)
   | (with_reducible exact LeO.none _)
   | (with_reducible refine LeO.ite ?_ ?_)
   | (with_reducible refine LeO.bind ?_ (fun _ => ?_))
   | exact ih0 _ _ _
   | exact ih1 _ _
   | exact ih2 _ _ _ _ _
   | exact LeO.none _
   | refine LeO.ite ?_ ?_
   | refine LeO.bind ?_ (fun _ => ?_)
set_option maxHeartbeats 8000000 in
set_option maxRecDepth 100000 in
theorem impl_word.calls (k : Nat) (a0 : Int) (a1 : Int) (r : List Int) (w : World) (h : impl_word.f k a0 a1 = some r) :
  Calls Tryd.prog 112 #[.int .u64 a0, .int .i64 a1] w fun e w' => ∃ v0_ : Value, e = .returned (v0_) ∧ Kd.R (Kd.int .u8) 5 w' w.heap.size (fun _ => True) v0_ r ∧ Below w.heap.size w w' := by
 have HB := Aside0.mk (Below.refl w.heap.size w)
 have H : (if a1 < 1 then (impl_word.j0 k a0 a1 true) else (impl_word.j0 k a0 a1 (decide (a1 > 8)))) = some r := h
 clear h
 have HC3 := Aside0.mk H
 clear H
 go_enter Tryd.func112, Tryd.ntmps112
 go_upto_region 1 with (fail)
 go_cut [12] (fun v12 wc => ∃ (kq : Nat) (x12_2 : Bool), v12 = .bool x12_2 ∧ Aside0 (impl_word.j0 kq a0 a1 x12_2 = some r) ∧ Aside0 (kq ≤ k) ∧ Aside0 (Below w.heap.size w wc))
 case first =>
  have H := HC3.out
  clear HC3
  by_cases c4 : a1 < 1
  ·rw [if_pos c4] at H
   have c4b0 : decide (a1 < 1) = true := decide_eq_true c4
   clear c4
   (first | rw [c4b0] | (simp only [i64_w, i32_w]; rw [c4b0]) | skip)
   have H' := Aside0.mk H
   clear H
   go_wp2
   go_meet
   case rel => exact ⟨_, (true), (by first | rfl | (simp; done) | (simp [*]; done)), H', ⟨by first | omega | exact Nat.le_refl _⟩, ⟨by repeat (first | (with_reducible first | exact HB.out | apply below_alloc | apply pw_below_drewN | apply below_drew1) | exact HB.out)⟩⟩
  ·rw [if_neg c4] at H
   have c4b0 : decide (a1 < 1) = false := decide_eq_false c4
   clear c4
   (first | rw [c4b0] | (simp only [i64_w, i32_w]; rw [c4b0]) | skip)
   have H' := Aside0.mk H
   clear H
   go_wp2
   go_meet
   case rel => exact ⟨_, (decide (a1 > 8)), (by first | rfl | (simp; done) | (simp [*]; done)), H', ⟨by first | omega | exact Nat.le_refl _⟩, ⟨by repeat (first | (with_reducible first | exact HB.out | apply below_alloc | apply pw_below_drewN | apply below_drew1) | exact HB.out)⟩⟩
 case rest =>
  clear HC3
  try clear c1
  try clear p2
  try clear c4
  try clear c4b0
  obtain ⟨kq, x12_2, rfl, HA, HJ2, HB⟩ := hcut
  cases kq with
  | zero => exact absurd HA.out (by simp [impl_word.j0])
  | succ kj2 =>
   have H := HA.out
   clear HA
   simp only [impl_word.j0] at H
   have HC5 := Aside0.mk H
   clear H
   go_upto_if 12 with (fail)
   go_cut [1] (fun v1 wc => ∃ (kq : Nat) (x1_4 : Int), v1 = .int .i64 x1_4 ∧ Aside0 (impl_word.j1 kq a0 x1_4 = some r) ∧ Aside0 (kq ≤ kj2) ∧ Aside0 (Below w.heap.size w wc))
   case first =>
    have H := HC5.out
    clear HC5
    by_cases c6 : x12_2 = true
    ·subst c6
     have H1 : (impl_word.j1 kj2 a0 8) = some r := by rw [if_pos rfl] at H; exact H
     clear H
     have H := H1
     clear H1
     have H' := Aside0.mk H
     clear H
     go_wp2
     go_meet
     case rel => exact ⟨_, (8), (by first | rfl | (simp; done) | (simp [*]; done)), H', ⟨by have := HJ2.out; first | omega | exact Nat.le_refl _⟩, ⟨by repeat (first | (with_reducible first | exact HB.out | apply below_alloc | apply pw_below_drewN | apply below_drew1) | exact HB.out)⟩⟩
    ·replace c6 := Bool.eq_false_iff.mpr c6
     subst c6
     have H1 : (impl_word.j1 kj2 a0 a1) = some r := by rw [if_neg (show ¬ (false = true) by decide)] at H; exact H
     clear H
     have H := H1
     clear H1
     have H' := Aside0.mk H
     clear H
     go_wp2
     go_meet
     case rel => exact ⟨_, (a1), (by first | rfl | (simp; done) | (simp [*]; done)), H', ⟨by have := HJ2.out; first | omega | exact Nat.le_refl _⟩, ⟨by repeat (first | (with_reducible first | exact HB.out | apply below_alloc | apply pw_below_drewN | apply below_drew1) | exact HB.out)⟩⟩
   case rest =>
    clear HC5
    try clear c1
    try clear p2
    try clear c4
    try clear c4b0
    try clear c6
    try clear p2
    obtain ⟨kq, x1_4, rfl, HA, HJ4, HB⟩ := hcut
    cases kq with
    | zero => exact absurd HA.out (by simp [impl_word.j1])
    | succ kj4 =>
     have H := HA.out
     clear HA
     simp only [impl_word.j1] at H
     by_cases c7 : 0 ≤ x1_4
     ·rw [if_pos c7] at H
      have c7b0 := eq_true c7
      have c7b1 : decide (0 ≤ x1_4) = true := decide_eq_true c7
      clear c7
      by_cases c8 : (x1_4 : Int).toNat ≤ 281474976710656
      ·rw [if_pos c8] at H
       have c8b0 := eq_true c8
       have c8b1 : decide ((x1_4 : Int).toNat ≤ 281474976710656) = true := decide_eq_true c8
       clear c8
       obtain ⟨y105, hy105⟩ : ∃ y_ : List Int, y_ = (List.replicate (x1_4 : Int).toNat 0) := ⟨_, rfl⟩
       replace H : (impl_word.l0 kj4 a0 x1_4 y105 (y105.length : Int) 0) = some r := by first | (rw [hy105]; with_reducible exact H) | (have H2_ := (Option.bind_some _ _).symm.trans H; rw [hy105]; with_reducible exact H2_) | (have H2_ := (Option.bind_some _ _).symm.trans H; with_reducible exact H2_) | with_reducible exact H | (rw [hy105]; exact H) | exact H
       have Ny105 := Aside0.mk hy105
       clear hy105
       have H' := Aside0.mk H
       clear H
       go_wp2_with (first | ((with_reducible refine gate_dst (N := 14) rfl ?_); refine Kd.R_make (Kd.int .u8) _ 5 rfl (N := 14) rfl 42 _ _ rfl x1_4 rfl rfl Tryd.underlying42 (.int .u8 0) 1 info5 rfl (by decide) (by omega) 0 (ok := fun _ => True) (okp := fun _ => True) rfl (fun _ hk => hk) trivial (of_decide_eq_true (by first | (with_reducible assumption) | assumption)) (Nat.le_trans (Nat.mul_le_mul_right _ (of_decide_eq_true (by first | (with_reducible assumption) | assumption) : x1_4.toNat ≤ 281474976710656)) (by omega)) (Below.refl _ _) (Nat.le_refl _) ?_; intro v106 w9 ho10 hb hg_ hnew_; clear hg_ hnew_; (first | rw [← Ny105.out] at ho10 | (simp only [Int.reduceToNat] at ho10; rw [← Ny105.out] at ho10)); have n0_ := Aside0.mk (Kd.R_lower ho10 (below_size (by repeat (first | (with_reducible first | exact HB.out | apply below_alloc | apply pw_below_drewN | apply below_drew1) | exact HB.out)))); have n1_ := Aside0.mk (below_step (by repeat (first | (with_reducible first | exact HB.out | apply below_alloc | apply pw_below_drewN | apply below_drew1) | exact HB.out)) hb); clear HB; have HO107 := n0_; have HB := n1_; clear n0_ n1_; clear hb ho10; obtain ⟨Ao11, co11, eo11⟩ := Kd.R_slice HO107.out; subst eo11))
       try simp only [Act.put, List.setIfInBounds_toArray, List.set_cons_zero, List.set_cons_succ]
       go_loopg [17] kj4 (fun kq v17 w' => ∃ (x5_3 : List Int) (x17_3 : Int), v17 = .int .i64 x17_3 ∧ Aside0 (impl_word.l0 kq a0 x1_4 x5_3 (y105.length : Int) x17_3 = some r) ∧ Aside0 (kq ≤ kj4) ∧ Aside0 (Kd.R (Kd.int .u8) 5 w' w.heap.size (fun _ => True) (.slice Ao11 y105.length co11) x5_3) ∧ Aside0 (Below w.heap.size w w'))
       case atStart => exact ⟨(y105), (0), (by first | rfl | (simp; done) | (simp [*]; done)), H', ⟨Nat.le_refl _⟩, ⟨by (with_reducible repeat (first | apply Kd.R_alloc | apply Kd.R_drewN | apply Kd.R_drew)); exact HO107.out⟩, ⟨by repeat (first | (with_reducible first | exact HB.out | apply below_alloc | apply pw_below_drewN | apply below_drew1) | exact HB.out)⟩⟩
       case round =>
        clear H'
        try clear c1
        try clear p2
        try clear c4
        try clear c4b0
        try clear c6
        try clear c7
        try clear c7b0
        try clear c7b1
        try clear c8
        try clear c8b0
        try clear c8b1
        try clear c11
        try clear p2
        obtain ⟨x5_3, x17_3, rfl, HA, HK3, HO_5, HB⟩ := hrel
        have hl5_3 := (Kd.R_reads' HO_5.out).1
        rw [hl5_3] at HO_5
        (try simp only [hl5_3])
        cases gk with
        | zero => exact absurd HA.out (by simp [impl_word.l0])
        | succ k3 =>
         have H := HA.out
         clear HA
         simp only [impl_word.l0] at H
         by_cases c12 : x17_3 < (y105.length : Int)
         ·rw [if_pos c12] at H
          have c12b0 : decide (x17_3 < (y105.length : Int)) = true := decide_eq_true c12
          (try simp only [hl5_3] at c12b0); (try simp only [hl5_3] at c12b0)
          clear c12
          obtain ⟨ji13, hji13⟩ : ∃ j_ : Int, (wrap64 (8 * x17_3)) = j_ := ⟨_, rfl⟩
          replace H : (if 0 ≤ (ji13) then (if 0 ≤ (wrap64 ((wrap64 (x1_4 - 1)) - x17_3)) then (if (wrap64 ((wrap64 (x1_4 - 1)) - x17_3)) < (x5_3.length : Int) then (impl_word.l0 k3 a0 x1_4 (x5_3.set ((wrap64 ((wrap64 (x1_4 - 1)) - x17_3)) : Int).toNat ((shr .u64 a0 (ji13)) % 256)) (y105.length : Int) (wrap64 (x17_3 + 1))) else (none)) else (none)) else (none)) = some r := by first | (rw [hji13] at H; exact H) | (simp only [hji13] at H ⊢; exact H)
          have hji13w : (IntKind.i64.wrap (8 * x17_3)) = ji13 := (i64_w _).trans hji13
          by_cases c14 : 0 ≤ (ji13)
          ·rw [if_pos c14] at H
           have c14b0 := eq_true c14
           have c14b1 : decide (0 ≤ (ji13)) = true := decide_eq_true c14
           clear c14
           obtain ⟨ji15, hji15⟩ : ∃ j_ : Int, (shr .u64 a0 (ji13)) = j_ := ⟨_, rfl⟩
           replace H : (if 0 ≤ (wrap64 ((wrap64 (x1_4 - 1)) - x17_3)) then (if (wrap64 ((wrap64 (x1_4 - 1)) - x17_3)) < (x5_3.length : Int) then (impl_word.l0 k3 a0 x1_4 (x5_3.set ((wrap64 ((wrap64 (x1_4 - 1)) - x17_3)) : Int).toNat ((ji15) % 256)) (y105.length : Int) (wrap64 (x17_3 + 1))) else (none)) else (none)) = some r := by first | (rw [hji15] at H; exact H) | (simp only [hji15] at H ⊢; exact H)
           have hji15_ : (a0 / 2 ^ min (ji13).toNat 64) = ji15 := hji15
           have hji15z : (ji13) ≤ 64 → (a0 / 2 ^ (ji13).toNat) = ji15 := shr_small hji15
           obtain ⟨ji16, hji16⟩ : ∃ j_ : Int, (wrap64 ((wrap64 (x1_4 - 1)) - x17_3)) = j_ := ⟨_, rfl⟩
           replace H : (if 0 ≤ (ji16) then (if (ji16) < (x5_3.length : Int) then (impl_word.l0 k3 a0 x1_4 (x5_3.set ((ji16) : Int).toNat ((ji15) % 256)) (y105.length : Int) (wrap64 (x17_3 + 1))) else (none)) else (none)) = some r := by first | (rw [hji16] at H; exact H) | (simp only [hji16] at H ⊢; exact H)
           have hji16w : (IntKind.i64.wrap ((wrap64 (x1_4 - 1)) - x17_3)) = ji16 := (i64_w _).trans hji16
           by_cases c17 : 0 ≤ (ji16)
           ·rw [if_pos c17] at H
            have c17b0 : decide (0 ≤ (ji16)) = true := decide_eq_true c17
            clear c17
            by_cases c18 : (ji16) < (x5_3.length : Int)
            ·rw [if_pos c18] at H
             have c18b0 : decide ((ji16) < (x5_3.length : Int)) = true := decide_eq_true c18
             (try simp only [hl5_3] at c18b0); (try simp only [hl5_3] at c18b0)
             clear c18
             obtain ⟨y108, hy108⟩ : ∃ y_ : List Int, y_ = (x5_3.set ((ji16) : Int).toNat ((ji15) % 256)) := ⟨_, rfl⟩
             replace H : (impl_word.l0 k3 a0 x1_4 y108 (y105.length : Int) (wrap64 (x17_3 + 1))) = some r := by first | (rw [hy108]; with_reducible exact H) | (have H2_ := (Option.bind_some _ _).symm.trans H; rw [hy108]; with_reducible exact H2_) | (have H2_ := (Option.bind_some _ _).symm.trans H; with_reducible exact H2_) | with_reducible exact H | (rw [hy108]; exact H) | exact H
             have Ny108 := Aside0.mk hy108
             clear hy108
             have H' := Aside0.mk H
             clear H
             have p19 : 0 ≤ ((ji16) : Int) := of_decide_eq_true (by first | (with_reducible assumption) | assumption)
             have q19 : ((ji16) : Int) < ((x5_3.length : Int) : Int) := of_decide_eq_true (by first | (with_reducible assumption) | assumption)
             obtain ⟨go19, co19, eo19, gb19, gl19, cl19, HG19⟩ := Kd.R_form HO_5.out (by omega)
             (first | cases eo19 | (injection eo19 with ea_ en_ ec_; (first | subst ea_ | (injection ea_ with ea_; subst ea_)); subst ec_; clear en_))
             have GB19 := Aside0.mk gb19
             have GG19 := Aside0.mk HG19
             clear gb19 gl19 HG19
             obtain ⟨hx19_0, hf19_0⟩ := Kd.R_celln 0 HO_5.out ((ji16) : Int) p19 q19
             replace p19 := eq_true p19
             replace q19 := eq_true q19
             have HP20 := Kd.R_putg HO_5.out ((ji16) : Int) ((ji15) % 256)
             go_wp2_with (first | ((with_reducible refine gate_store (t := 5) (p := 30) rfl ?_); refine store_event (t := 5) (p := 30) (v := ?vo_w21) (w1 := (wr.setCell ⟨go19, ((ji16) : Int).toNat, none⟩ (.int .u8 ((ji15) % 256)))) ?hg ?ho ?hn ?hr ?_; (case ho => rfl); (case hg => rfl); (case hn => rfl); (case hr => first | (go_simp; done) | (go_simp; rfl)); intro w21 hw; have hg : wr.grownBy w21 (some go19) := (by rw [hw]; exact HP20.2); have hp_ : Kd.R (Kd.int .u8) 5 w21 w.heap.size (fun _ => True) (.slice (some ⟨go19, 0, none⟩) x5_3.length co11) y108 := (by rw [hw, Ny108.out]; exact HP20.1); clear HP20; have n0_ := Aside0.mk (hp_); have n1_ := Aside0.mk ((by rw [hw]; exact below_set (HB.out) GB19.out : Below w.heap.size w w21)); clear HO_5; clear HB; have HO_5 := n0_; have HB := n1_; clear n0_ n1_; clear hg hw hp_))
             (try simp only [← hl5_3])
             go_roundg k3
             case measure => have := HJ2.out; have := HJ4.out; have := HK3.out; omega
             case rel => exact ⟨(y108), (wrap64 (x17_3 + 1)), (by first | rfl | (simp; done) | (simp [*]; done)), H', ⟨by have := HJ2.out; have := HJ4.out; have := HK3.out; omega⟩, ⟨by (try simp only [hl5_3]); (with_reducible repeat (first | apply Kd.R_alloc | apply Kd.R_drewN | apply Kd.R_drew)); exact HO_5.out⟩, ⟨by repeat (first | (with_reducible first | exact HB.out | apply below_alloc | apply pw_below_drewN | apply below_drew1) | exact HB.out)⟩⟩
            ·rw [if_neg c18] at H
             exact absurd H (by simp)
           ·rw [if_neg c17] at H
            exact absurd H (by simp)
          ·rw [if_neg c14] at H
           exact absurd H (by simp)
         ·rw [if_neg c12] at H
          have c12b0 : decide (x17_3 < (y105.length : Int)) = false := decide_eq_false c12
          (try simp only [hl5_3] at c12b0); (try simp only [hl5_3] at c12b0)
          clear c12
          obtain rfl := Option.some.inj H
          go_wp2
          go_ret
          exact ⟨_, by first | rfl | (simp [errW_none, errW_some] <;> rfl) | (simp [*, errW_none, errW_some] <;> rfl), by (with_reducible repeat (first | apply Kd.R_alloc | apply Kd.R_drewN | apply Kd.R_drew)); exact HO_5.out, by repeat (first | (with_reducible first | exact HB.out | apply below_alloc | apply pw_below_drewN | apply below_drew1) | exact HB.out)⟩
      ·rw [if_neg c8] at H
       exact absurd H (by simp)
     ·rw [if_neg c7] at H
      exact absurd H (by simp)
def impl_mixed.l0 : Nat → Int → List Int → Int → Int → Option (Int)
 | 0, _, _, _, _ => none
 | k + 1, x0, x7, x8, x9 => if x9 < x8 then (if 0 ≤ x9 then (if x9 < (x7.length : Int) then (impl_mixed.l0 k (IntKind.u64.wrap ((Go.bits .xor .u64 x0 (IntKind.u64.wrap (rd x7 x9))) * 1099511628211)) x7 x8 (wrap64 (x9 + 1))) else (none)) else (none)) else (some x0)
def impl_mixed.f (k : Nat) (a0 : Int) (l1 : List Int) : Option (Int) := impl_mixed.l0 k a0 l1 (l1.length : Int) 0
theorem impl_mixed.mono_l : ∀ k, (∀ y0 y1 y2 y3, LeO (impl_mixed.l0 k y0 y1 y2 y3) (impl_mixed.l0 (k + 1) y0 y1 y2 y3))
 | 0 => fun _ _ _ _ r h => by simp [impl_mixed.l0] at h
 | k + 1 => by
  have ih0 := impl_mixed.mono_l k
  ·intro y0 y1 y2 y3
   unfold impl_mixed.l0
   repeat' first
   | (with_reducible exact ih0 _ _ _ _)
   | (with_reducible exact LeO.refl _)
   | (with_reducible exact LeO.none _)
   | (with_reducible refine LeO.ite ?_ ?_)
   | (with_reducible refine LeO.bind ?_ (fun _ => ?_))
   | exact ih0 _ _ _ _
   | exact LeO.none _
   | refine LeO.ite ?_ ?_
   | refine LeO.bind ?_ (fun _ => ?_)
theorem impl_mixed.mono : ∀ a0 a1 k, LeO (impl_mixed.f k a0 a1) (impl_mixed.f (k + 1) a0 a1) := by
 intro a0 a1 k
 have ih0 := impl_mixed.mono_l k
 unfold impl_mixed.f
 repeat' first
   | (with_reducible exact ih0 _ _ _ _)
   | (with_reducible exact LeO.refl _)
   | (with_reducible exact LeO.none _)
   | (with_reducible refine LeO.ite ?_ ?_)
   | (with_reducible refine LeO.bind ?_ (fun _ => ?_))
   | exact ih0 _ _ _ _
   | exact LeO.none _
   | refine LeO.ite ?_ ?_
   | refine LeO.bind ?_ (fun _ => ?_)
set_option maxHeartbeats 8000000 in
set_option maxRecDepth 100000 in
theorem impl_mixed.calls (k : Nat) (a0 : Int) (A1 : Option Addr) (c1 : Nat) (l1 : List Int) (r : Int) (w : World) (hr1 : Kd.C (Kd.int .u8) w A1 l1.length l1) (hc1 : l1.length ≤ c1) (h : impl_mixed.f k a0 l1 = some r) :
  Calls Tryd.prog 113 #[.int .u64 a0, .slice A1 l1.length c1] w fun e w' => e = .returned (.int .u64 r) ∧ Drawn0 w w' := by
 have HR1 := Aside0.mk hr1
 have HC1 := Aside0.mk hc1
 clear hr1 hc1
 have H : (impl_mixed.l0 k a0 l1 (l1.length : Int) 0) = some r := h
 clear h
 have H' := Aside0.mk H
 clear H
 go_enter Tryd.func113, Tryd.ntmps113
 go_wp2
 try simp only [Act.put, List.setIfInBounds_toArray, List.set_cons_zero, List.set_cons_succ]
 go_loopg [0, 9] k (fun kq v0 v9 w' => ∃ (x0_1 : Int) (x9_1 : Int), v0 = .int .u64 x0_1 ∧ v9 = .int .i64 x9_1 ∧ Aside0 (impl_mixed.l0 kq x0_1 l1 (l1.length : Int) x9_1 = some r) ∧ Aside0 (kq ≤ k) ∧ Drawn0 w w')
 case atStart => exact ⟨(a0), (0), (by first | rfl | (simp; done) | (simp [*]; done)), (by first | rfl | (simp; done) | (simp [*]; done)), H', ⟨Nat.le_refl _⟩, by repeat (first | exact Drawn0.refl _ | apply Drawn0.step)⟩
 case round =>
  clear H'
  try clear c1
  try clear p2
  obtain ⟨x0_1, x9_1, rfl, rfl, HA, HK1, ⟨m1, rfl⟩⟩ := hrel
  cases gk with
  | zero => exact absurd HA.out (by simp [impl_mixed.l0])
  | succ k1 =>
   have H := HA.out
   clear HA
   simp only [impl_mixed.l0] at H
   by_cases c3 : x9_1 < (l1.length : Int)
   ·rw [if_pos c3] at H
    have c3b0 : decide (x9_1 < (l1.length : Int)) = true := decide_eq_true c3
    clear c3
    by_cases c4 : 0 ≤ x9_1
    ·rw [if_pos c4] at H
     have c4b0 : decide (0 ≤ x9_1) = true := decide_eq_true c4
     clear c4
     by_cases c5 : x9_1 < (l1.length : Int)
     ·rw [if_pos c5] at H
      have c5b0 : decide (x9_1 < (l1.length : Int)) = true := decide_eq_true c5
      clear c5
      have H' := Aside0.mk H
      clear H
      have p109 : 0 ≤ (x9_1 : Int) := of_decide_eq_true (by first | (with_reducible assumption) | assumption)
      have q109 : x9_1 < (l1.length : Int) := of_decide_eq_true (by first | (with_reducible assumption) | assumption)
      obtain ⟨ad109, e109, hx109_0⟩ := Kd.at_int HR1.out x9_1 p109 q109
      cases e109
      replace p109 := eq_true p109
      replace q109 := eq_true q109
      go_wp2
      go_roundg k1
      case measure => have := HK1.out; omega
      case rel => exact ⟨(IntKind.u64.wrap ((Go.bits .xor .u64 x0_1 (IntKind.u64.wrap (rd l1 x9_1))) * 1099511628211)), (wrap64 (x9_1 + 1)), (by first | rfl | (simp; done) | (simp [*]; done)), (by first | rfl | (simp; done) | (simp [*]; done)), H', ⟨by have := HK1.out; omega⟩, by repeat (first | exact Drawn0.refl _ | apply Drawn0.step)⟩
     ·rw [if_neg c5] at H
      exact absurd H (by simp)
    ·rw [if_neg c4] at H
     exact absurd H (by simp)
   ·rw [if_neg c3] at H
    have c3b0 : decide (x9_1 < (l1.length : Int)) = false := decide_eq_false c3
    clear c3
    obtain rfl := Option.some.inj H
    go_wp2
    go_ret
    exact ⟨by first | rfl | (simp; done) | (simp [*]; done), by repeat (first | exact Drawn0.refl _ | apply Drawn0.step)⟩
end Go.Proofs.YtijldedhcjkhiaaDoor.I
