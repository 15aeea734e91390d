import Derived.Test.YtijldedhcjkhiaaDoorSX0
import Derived.Test.YtijldedhcjkhiaaDoorSX5
import Derived.Test.YtijldedhcjkhiaaDoorSX8
import Derived.Test.YtijldedhcjkhiaaDoorSX13
import Derived.Test.YtijldedhcjkhiaaDoorSX14
namespace Go.Proofs.YtijldedhcjkhiaaDoor.X
open Go.RowKit Go.Proofs.YtijldedhcjkhiaaDoorW.PrintWords Go.Proofs.YtijldedhcjkhiaaDoorW.PrintLast Go.Proofs.YtijldedhcjkhiaaDoorW.PrintMore
attribute [local go_sem] max2_int min2_int max_two min_two max_three min_three max_four min_four   -- for this text's walks alone
set_option linter.unusedVariables false
set_option linter.unusedSimpArgs false
def spec_Inner.l0 : Nat → Int → Int → Int → Option (Int)
  | 0, _, _, _ => none
  | k + 1, x0, x1, x5 => if 0 ≤ x5 then (if (shr .u64 x0 x5) = (shr .u64 (IntKind.u64.wrap (x1 - 1)) x5) then (some x5) else (spec_Inner.l0 k x0 x1 (wrap64 (x5 + 1)))) else (none)
def spec_Inner.f (k : Nat) (a0 : Int) (a1 : Int) : Option (Int) := spec_Inner.l0 k a0 a1 0
theorem spec_Inner.mono_l : ∀ k, (∀ y0 y1 y2, LeO (spec_Inner.l0 k y0 y1 y2) (spec_Inner.l0 (k + 1) y0 y1 y2))
  | 0 => fun _ _ _ r h => by simp [spec_Inner.l0] at h
  | k + 1 => by
    have ih0 := spec_Inner.mono_l k
    · intro y0 y1 y2
      unfold spec_Inner.l0
      repeat' first
      | (with_reducible exact ih0 _ _ _)
      | (with_reducible exact LeO.refl _)
      | (with_reducible exact LeO.none _)
      | (with_reducible refine LeO.ite ?_ ?_)
      | (with_reducible refine LeO.bind ?_ (fun _ => ?_))
      | exact ih0 _ _ _
      | exact LeO.none _
      | refine LeO.ite ?_ ?_
      | refine LeO.bind ?_ (fun _ => ?_)
theorem spec_Inner.mono : ∀ a0 a1 k, LeO (spec_Inner.f k a0 a1) (spec_Inner.f (k + 1) a0 a1) := by
  intro a0 a1 k
  have ih0 := spec_Inner.mono_l k
  unfold spec_Inner.f
  repeat' first
      | (with_reducible exact ih0 _ _ _)
      | (with_reducible exact LeO.refl _)
      | (with_reducible exact LeO.none _)
      | (with_reducible refine LeO.ite ?_ ?_)
      | (with_reducible refine LeO.bind ?_ (fun _ => ?_))
      | exact ih0 _ _ _
      | exact LeO.none _
      | refine LeO.ite ?_ ?_
      | refine LeO.bind ?_ (fun _ => ?_)
set_option maxHeartbeats 8000000 in
set_option maxRecDepth 100000 in
theorem spec_Inner.calls (k : Nat) (a0 : Int) (a1 : Int) (r : Int) (w : World) (h : spec_Inner.f k a0 a1 = some r) :
    Calls Tryd.prog 35 #[.int .u64 a0, .int .u64 a1] w fun e w' => e = .returned (.int .i64 r) ∧ Drawn0 w w' := by
  have H : (spec_Inner.l0 k a0 a1 0) = some r := h
  clear h
  have H' := Aside0.mk H
  clear H
  go_enter Tryd.func35, Tryd.ntmps35
  go_wp2
  repeat (go_quiet (fail); try go_wp2)
  try simp only [Act.put, List.setIfInBounds_toArray, List.set_cons_zero, List.set_cons_succ]
  go_loopg [5] k (fun kq v5 w' => ∃ (x5_1 : Int), v5 = .int .i64 x5_1 ∧ Aside0 (spec_Inner.l0 kq a0 a1 x5_1 = some r) ∧ Aside0 (kq ≤ k) ∧ Drawn0 w w')
  case atStart => exact ⟨(0), (by first | rfl | (simp; done) | (simp [*]; done)), H', ⟨Nat.le_refl _⟩, by repeat (first | exact Drawn0.refl _ | apply Drawn0.step)⟩
  case round =>
    clear H'
    try clear p2
    obtain ⟨x5_1, rfl, HA, HK1, ⟨m1, rfl⟩⟩ := hrel
    cases gk with
    | zero => exact absurd HA.out (by simp [spec_Inner.l0])
    | succ k1 =>
      have H := HA.out
      clear HA
      simp only [spec_Inner.l0] at H
      by_cases c3 : 0 ≤ x5_1
      · rw [if_pos c3] at H
        have c3b0 := eq_true c3
        have c3b1 : decide (0 ≤ x5_1) = true := decide_eq_true c3
        clear c3
        obtain ⟨ji4, hji4⟩ : ∃ j_ : Int, (shr .u64 a0 x5_1) = j_ := ⟨_, rfl⟩
        replace H : (if (ji4) = (shr .u64 (IntKind.u64.wrap (a1 - 1)) x5_1) then (some x5_1) else (spec_Inner.l0 k1 a0 a1 (wrap64 (x5_1 + 1)))) = some r := by first | (rw [hji4] at H; exact H) | (simp only [hji4] at H ⊢; exact H)
        have hji4_ : (a0 / 2 ^ min x5_1.toNat 64) = ji4 := hji4
        have hji4z : x5_1 ≤ 64 → (a0 / 2 ^ x5_1.toNat) = ji4 := shr_small hji4
        have c5b0 := eq_true (of_decide_eq_true (by first | (with_reducible assumption) | assumption) : 0 ≤ x5_1)
        obtain ⟨ji6, hji6⟩ : ∃ j_ : Int, (shr .u64 (IntKind.u64.wrap (a1 - 1)) x5_1) = j_ := ⟨_, rfl⟩
        replace H : (if (ji4) = (ji6) then (some x5_1) else (spec_Inner.l0 k1 a0 a1 (wrap64 (x5_1 + 1)))) = some r := by first | (rw [hji6] at H; exact H) | (simp only [hji6] at H ⊢; exact H)
        have hji6_ : ((IntKind.u64.wrap (a1 - 1)) / 2 ^ min x5_1.toNat 64) = ji6 := hji6
        have hji6z : x5_1 ≤ 64 → ((IntKind.u64.wrap (a1 - 1)) / 2 ^ x5_1.toNat) = ji6 := shr_small hji6
        by_cases c7 : (ji4) = (ji6)
        · rw [if_pos c7] at H
          have c7b0 : ((ji4) == (ji6)) = true := beq_iff_eq.mpr c7
          have c7b1 : ((ji4) != (ji6)) = false := bne_eq_false_iff_eq.mpr c7
          clear c7
          obtain rfl := Option.some.inj H
          go_wp2
          repeat (go_quiet (fail); try go_wp2)
          go_ret
          exact ⟨by first | rfl | (simp; done) | (simp only [← hji4, ← hji6] <;> (first | rfl | simp)) | (simp [*]; done), by repeat (first | exact Drawn0.refl _ | apply Drawn0.step)⟩
        · rw [if_neg c7] at H
          have c7b0 : ((ji4) == (ji6)) = false := beq_eq_false_iff_ne.mpr c7
          have c7b1 : ((ji4) != (ji6)) = true := bne_iff_ne.mpr c7
          have H' := Aside0.mk H
          clear H
          go_wp2
          repeat (go_quiet (fail); try go_wp2)
          go_roundg k1
          case measure => have := HK1.out; omega
          case rel => exact ⟨(wrap64 (x5_1 + 1)), (by first | rfl | (simp; done) | (simp [*]; done)), H', ⟨by have := HK1.out; omega⟩, by repeat (first | exact Drawn0.refl _ | apply Drawn0.step)⟩
      · rw [if_neg c3] at H
        exact absurd H (by simp)
mutual
def spec_Chained.l0 : Nat → List Int → Int → Bool → List (List Int) → Int → Int → Int → Int → Int → Int → Int → Int → Option (List Int)
  | 0, _, _, _, _, _, _, _, _, _, _, _, _ => none
  | k + 1, x1, x3, x4, x13, x14, x15, x680000, x680001, x680002, x680003, x680004, x680005 => if x15 < x14 then (if 0 ≤ x15 then (if x15 < (x13.length : Int) then (if x15 < 64 then (spec_Chained.j1 k x1 x3 x4 (rd_L4 x13 x15) x13 x14 x15 ((Go.bits .and .u64 (shr .u64 x3 x15) 1) == 1) x680000 x680001 x680002 x680003 x680004 x680005) else (spec_Chained.j1 k x1 x3 x4 (rd_L4 x13 x15) x13 x14 x15 false x680000 x680001 x680002 x680003 x680004 x680005)) else (none)) else (none)) else (some x1)
def spec_Chained.j1 : Nat → List Int → Int → Bool → List Int → List (List Int) → Int → Int → Bool → Int → Int → Int → Int → Int → Int → Option (List Int)
  | 0, _, _, _, _, _, _, _, _, _, _, _, _, _, _ => none
  | k + 1, x1, x3, x4, x12, x13, x14, x15, x28, x680000, x680001, x680002, x680003, x680004, x680005 => if x28 = true then ((spec_HashChildren.f k x680000 x680001 x680002 x680003 x680004 x680005 x12 x1).bind fun t681 => (spec_Chained.l0 k t681 x3 x4 x13 x14 (wrap64 (x15 + 1)) x680000 x680001 x680002 x680003 x680004 x680005)) else (if x4 = true then (spec_Chained.l0 k x1 x3 x4 x13 x14 (wrap64 (x15 + 1)) x680000 x680001 x680002 x680003 x680004 x680005) else ((spec_HashChildren.f k x680000 x680001 x680002 x680003 x680004 x680005 x1 x12).bind fun t684 => (spec_Chained.l0 k t684 x3 x4 x13 x14 (wrap64 (x15 + 1)) x680000 x680001 x680002 x680003 x680004 x680005)))
end
def spec_Chained.f (k : Nat) (a0_0 : Int) (a0_1 : Int) (a0_2 : Int) (a0_3 : Int) (a0_4 : Int) (a0_5 : Int) (l1 : List Int) (l2 : List (List Int)) (a3 : Int) (a4 : Bool) : Option (List Int) := spec_Chained.l0 k l1 a3 a4 l2 (l2.length : Int) 0 a0_0 a0_1 a0_2 a0_3 a0_4 a0_5
theorem spec_Chained.mono_l : ∀ k, (∀ y0 y1 y2 y3 y4 y5 y6 y7 y8 y9 y10 y11, LeO (spec_Chained.l0 k y0 y1 y2 y3 y4 y5 y6 y7 y8 y9 y10 y11) (spec_Chained.l0 (k + 1) y0 y1 y2 y3 y4 y5 y6 y7 y8 y9 y10 y11)) ∧ (∀ y0 y1 y2 y3 y4 y5 y6 y7 y8 y9 y10 y11 y12 y13, LeO (spec_Chained.j1 k y0 y1 y2 y3 y4 y5 y6 y7 y8 y9 y10 y11 y12 y13) (spec_Chained.j1 (k + 1) y0 y1 y2 y3 y4 y5 y6 y7 y8 y9 y10 y11 y12 y13))
  | 0 => ⟨fun _ _ _ _ _ _ _ _ _ _ _ _ r h => by simp [spec_Chained.l0] at h, fun _ _ _ _ _ _ _ _ _ _ _ _ _ _ r h => by simp [spec_Chained.j1] at h⟩
  | k + 1 => by
    obtain ⟨ih0, ih1⟩ := spec_Chained.mono_l k
    refine ⟨?_, ?_⟩
    · intro y0 y1 y2 y3 y4 y5 y6 y7 y8 y9 y10 y11
      unfold spec_Chained.l0
      repeat' first
      | (with_reducible exact ih0 _ _ _ _ _ _ _ _ _ _ _ _)
      | (with_reducible exact ih1 _ _ _ _ _ _ _ _ _ _ _ _ _ _)
      | (with_reducible exact spec_HashChildren.mono _ _ _ _ _ _ _ _ _)
      | (with_reducible exact LeO.refl _)
      | (with_reducible exact LeO.none _)
      | (with_reducible refine LeO.ite ?_ ?_)
      | (with_reducible refine LeO.bind ?_ (fun _ => ?_))
      | exact ih0 _ _ _ _ _ _ _ _ _ _ _ _
      | exact ih1 _ _ _ _ _ _ _ _ _ _ _ _ _ _
      | exact spec_HashChildren.mono _ _ _ _ _ _ _ _ _
      | exact LeO.none _
      | refine LeO.ite ?_ ?_
      | refine LeO.bind ?_ (fun _ => ?_)
    · intro y0 y1 y2 y3 y4 y5 y6 y7 y8 y9 y10 y11 y12 y13
      unfold spec_Chained.j1
      repeat' first
      | (with_reducible exact ih0 _ _ _ _ _ _ _ _ _ _ _ _)
      | (with_reducible exact ih1 _ _ _ _ _ _ _ _ _ _ _ _ _ _)
      | (with_reducible exact spec_HashChildren.mono _ _ _ _ _ _ _ _ _)
      | (with_reducible exact LeO.refl _)
      | (with_reducible exact LeO.none _)
      | (with_reducible refine LeO.ite ?_ ?_)
      | (with_reducible refine LeO.bind ?_ (fun _ => ?_))
      | exact ih0 _ _ _ _ _ _ _ _ _ _ _ _
      | exact ih1 _ _ _ _ _ _ _ _ _ _ _ _ _ _
      | exact spec_HashChildren.mono _ _ _ _ _ _ _ _ _
      | exact LeO.none _
      | refine LeO.ite ?_ ?_
      | refine LeO.bind ?_ (fun _ => ?_)
theorem spec_Chained.mono : ∀ a0 a1 a2 a3 a4 a5 a6 a7 a8 a9 k, LeO (spec_Chained.f k a0 a1 a2 a3 a4 a5 a6 a7 a8 a9) (spec_Chained.f (k + 1) a0 a1 a2 a3 a4 a5 a6 a7 a8 a9) := by
  intro a0 a1 a2 a3 a4 a5 a6 a7 a8 a9 k
  obtain ⟨ih0, ih1⟩ := spec_Chained.mono_l k
  unfold spec_Chained.f
  repeat' first
      | (with_reducible exact ih0 _ _ _ _ _ _ _ _ _ _ _ _)
      | (with_reducible exact ih1 _ _ _ _ _ _ _ _ _ _ _ _ _ _)
      | (with_reducible exact spec_HashChildren.mono _ _ _ _ _ _ _ _ _)
      | (with_reducible exact LeO.refl _)
      | (with_reducible exact LeO.none _)
      | (with_reducible refine LeO.ite ?_ ?_)
      | (with_reducible refine LeO.bind ?_ (fun _ => ?_))
      | exact ih0 _ _ _ _ _ _ _ _ _ _ _ _
      | exact ih1 _ _ _ _ _ _ _ _ _ _ _ _ _ _
      | exact spec_HashChildren.mono _ _ _ _ _ _ _ _ _
      | exact LeO.none _
      | refine LeO.ite ?_ ?_
      | refine LeO.bind ?_ (fun _ => ?_)
set_option maxHeartbeats 8000000 in
set_option maxRecDepth 100000 in
theorem spec_Chained.calls (k : Nat) (a0_0 : Int) (a0_1 : Int) (a0_2 : Int) (a0_3 : Int) (a0_4 : Int) (a0_5 : Int) (P1_ : Nat → Prop) (A1 : Option Addr) (c1 : Nat) (l1 : List Int) (A2 : Option Addr) (c2 : Nat) (l2 : List (List Int)) (a3 : Int) (a4 : Bool) (r : List Int) (w : World) (hs1 : Kd.V (Kd.int .u8) 5 w w.heap.size (fun k_ => P1_ k_) (.slice A1 l1.length c1) l1) (hr2 : Kd.C (Kd.slice 5 (Kd.int .u8)) w A2 l2.length l2) (hc2 : l2.length ≤ c2) (h : spec_Chained.f k a0_0 a0_1 a0_2 a0_3 a0_4 a0_5 l1 l2 a3 a4 = some r) :
    Calls Tryd.prog 36 #[.agg #[.int .i64 a0_0, .int .i64 a0_1, .int .i64 a0_2, .int .u64 a0_3, .int .u64 a0_4, .int .u64 a0_5], .slice A1 l1.length c1, .slice A2 l2.length c2, .int .u64 a3, .bool a4] w fun e w' => ∃ v0_ : Value, e = .returned (v0_) ∧ Kd.V (Kd.int .u8) 5 w' w.heap.size (fun k_ => (P1_ k_ ∨ w.heap.size ≤ k_)) v0_ r ∧ Below w.heap.size w w' := by
  have hu37 := Tryd.underlying37
  have HO1 := Aside0.mk (show Kd.V (Kd.int .u8) 5 w w.heap.size (fun k_ => (P1_ k_ ∨ w.heap.size ≤ k_)) (.slice A1 l1.length c1) l1 from Kd.V_mono hs1 (fun k_ hk => .inl hk))
  have HR2 := Aside0.mk hr2
  have HC2 := Aside0.mk hc2
  clear hr2 hc2
  have HB := Aside0.mk (Below.refl w.heap.size w)
  have H : (spec_Chained.l0 k l1 a3 a4 l2 (l2.length : Int) 0 a0_0 a0_1 a0_2 a0_3 a0_4 a0_5) = some r := h
  clear h
  have H' := Aside0.mk H
  clear H
  go_enter Tryd.func36, Tryd.ntmps36
  go_wp2_with (first | ((with_reducible refine gate_dst (N := 5) rfl ?_); refine box_event ?hg (N := 5) ?hd (cs := #[.int .i64 a0_0, .int .i64 a0_1, .int .i64 a0_2, .int .u64 a0_3, .int .u64 a0_4, .int .u64 a0_5]) (t := 37) ?hr ?_; (case hd => rfl); (case hg => rfl); (case hr => first | (go_simp; done) | (go_simp; rfl)); intro gb679 hg w6 hbox hb; have n0_ := Aside0.mk (Kd.V_below (Kd.V_elderB (by (with_reducible repeat (first | apply Kd.V_alloc | apply Kd.V_drewN | apply Kd.V_drew)); exact HO1.out) gb679 (Nat.le_of_eq hg.symm)) hb); have n1_ := Aside0.mk (below_step (by repeat (first | (with_reducible first | exact HB.out | apply below_alloc | apply pw_below_drewN | apply below_drew1) | exact HB.out)) hb); have n2_ := Aside0.mk (hbox); have n3_ := Aside0.mk ((by rw [hg]; exact (below_size (by repeat (first | (with_reducible first | exact HB.out | apply below_alloc | apply pw_below_drewN | apply below_drew1) | exact HB.out))) : w.heap.size ≤ gb679)); have n4_ := Aside0.mk ((by rw [hg]; exact (below_size (by repeat (first | (with_reducible first | exact HB.out | apply below_alloc | apply pw_below_drewN | apply below_drew1) | exact HB.out))) : w.heap.size ≤ gb679)); clear HO1; clear HB; have HO1 := n0_; have HB := n1_; have BK679 := n2_; have GW679 := n3_; have GE679 := n4_; clear n0_ n1_ n2_ n3_ n4_; clear hb hbox hg))
  try simp only [Act.put, List.setIfInBounds_toArray, List.set_cons_zero, List.set_cons_succ]
  go_loopg [1, 15] k (fun kq v1 v15 w' => ∃ (x1_1 : List Int) (x15_1 : Int), v15 = .int .i64 x15_1 ∧ Aside0 (spec_Chained.l0 kq x1_1 a3 a4 l2 (l2.length : Int) x15_1 a0_0 a0_1 a0_2 a0_3 a0_4 a0_5 = some r) ∧ Aside0 (kq ≤ k) ∧ Aside0 (Kd.V (Kd.int .u8) 5 w' w.heap.size (fun k_ => (P1_ k_ ∨ w.heap.size ≤ k_) ∧ k_ ≠ gb679) v1 x1_1) ∧ Aside0 (w'.heap[gb679]? = some (.cells #[.int .i64 a0_0, .int .i64 a0_1, .int .i64 a0_2, .int .u64 a0_3, .int .u64 a0_4, .int .u64 a0_5] 37 (0, 0))) ∧ Aside0 (Below w.heap.size w w'))
  case atStart => exact ⟨(l1), (0), (by first | rfl | (simp; done) | (simp [*]; done)), H', ⟨Nat.le_refl _⟩, ⟨by (with_reducible repeat (first | apply Kd.V_alloc | apply Kd.V_drewN | apply Kd.V_drew)); exact HO1.out⟩, ⟨by (with_reducible repeat (first | refine blk_drewN ?_ _ | refine blk_drew ?_ | refine blk_alloc ?_ _)); exact BK679.out⟩, ⟨by repeat (first | (with_reducible first | exact HB.out | apply below_alloc | apply pw_below_drewN | apply below_drew1 | refine below_set ?_ GE679.out) | exact HB.out)⟩⟩
  case round =>
    clear H'
    try clear c1
    try clear c2
    try clear p2
    try clear c3
    obtain ⟨x1_1, x15_1, rfl, HA, HK1, HO_1, BK679, HB⟩ := hrel
    cases gk with
    | zero => exact absurd HA.out (by simp [spec_Chained.l0])
    | succ k1 =>
      have H := HA.out
      clear HA
      simp only [spec_Chained.l0] at H
      by_cases c7 : x15_1 < (l2.length : Int)
      · rw [if_pos c7] at H
        have c7b0 : decide (x15_1 < (l2.length : Int)) = true := decide_eq_true c7
        clear c7
        by_cases c8 : 0 ≤ x15_1
        · rw [if_pos c8] at H
          have c8b0 : decide (0 ≤ x15_1) = true := decide_eq_true c8
          clear c8
          by_cases c9 : x15_1 < (l2.length : Int)
          · rw [if_pos c9] at H
            have c9b0 : decide (x15_1 < (l2.length : Int)) = true := decide_eq_true c9
            clear c9
            have HC10 := Aside0.mk H
            clear H
            have p680 : 0 ≤ (x15_1 : Int) := of_decide_eq_true (by first | (with_reducible assumption) | assumption)
            have q680 : x15_1 < (l2.length : Int) := of_decide_eq_true (by first | (with_reducible assumption) | assumption)
            obtain ⟨ad680, A680_0, c680_0, e680, hx680_0, hl680_0, hi680_0⟩ := at_L4 HR2.out x15_1 p680 q680
            cases e680
            replace hx680_0 := (HB.out.cell (World.block_lt_of_cell? w _ hx680_0)).trans hx680_0
            have HR680_0 := Aside0.mk hi680_0
            have HC680_0 := Aside0.mk hl680_0
            clear hi680_0 hl680_0
            replace p680 := eq_true p680
            replace q680 := eq_true q680
            go_upto_region 4 with (fail)
            go_cut [28] (fun v28 wc => ∃ (kq : Nat) (x28_9 : Bool), v28 = .bool x28_9 ∧ Aside0 (spec_Chained.j1 kq x1_1 a3 a4 (rd_L4 l2 x15_1) l2 (l2.length : Int) x15_1 x28_9 a0_0 a0_1 a0_2 a0_3 a0_4 a0_5 = some r) ∧ Aside0 (kq ≤ k1) ∧ Aside0 (Kd.V (Kd.int .u8) 5 wc w.heap.size (fun k_ => (P1_ k_ ∨ w.heap.size ≤ k_) ∧ k_ ≠ gb679) u1 x1_1) ∧ Aside0 (wc.heap[gb679]? = some (.cells #[.int .i64 a0_0, .int .i64 a0_1, .int .i64 a0_2, .int .u64 a0_3, .int .u64 a0_4, .int .u64 a0_5] 37 (0, 0))) ∧ Aside0 (Below w.heap.size w wc))
            case first =>
              have H := HC10.out
              clear HC10
              by_cases c11 : x15_1 < 64
              · rw [if_pos c11] at H
                have c11b0 : decide (x15_1 < 64) = true := decide_eq_true c11
                clear c11
                (first | rw [c11b0] | (simp only [i64_w, i32_w]; rw [c11b0]) | skip)
                have c12b0 := eq_true (of_decide_eq_true (by first | (with_reducible assumption) | assumption) : 0 ≤ x15_1)
                obtain ⟨ji13, hji13⟩ : ∃ j_ : Int, (shr .u64 a3 x15_1) = j_ := ⟨_, rfl⟩
                replace H : (spec_Chained.j1 k1 x1_1 a3 a4 (rd_L4 l2 x15_1) l2 (l2.length : Int) x15_1 ((Go.bits .and .u64 (ji13) 1) == 1) a0_0 a0_1 a0_2 a0_3 a0_4 a0_5) = some r := by first | (rw [hji13] at H; exact H) | (simp only [hji13] at H ⊢; exact H)
                have hji13_ : (a3 / 2 ^ min x15_1.toNat 64) = ji13 := hji13
                have hji13z : x15_1 ≤ 64 → (a3 / 2 ^ x15_1.toNat) = ji13 := shr_small hji13
                have H' := Aside0.mk H
                clear H
                go_wp2
                go_meet
                case rel => exact ⟨_, (((Go.bits .and .u64 (ji13) 1) == 1)), (by first | rfl | (simp; done) | (simp only [← hji13] <;> (first | rfl | simp)) | (simp [*]; done)), H', ⟨by have := HK1.out; first | omega | exact Nat.le_refl _⟩, ⟨by (with_reducible repeat (first | apply Kd.V_alloc | apply Kd.V_drewN | apply Kd.V_drew)); exact HO_1.out⟩, ⟨by (with_reducible repeat (first | refine blk_drewN ?_ _ | refine blk_drew ?_ | refine blk_alloc ?_ _)); exact BK679.out⟩, ⟨by repeat (first | (with_reducible first | exact HB.out | apply below_alloc | apply pw_below_drewN | apply below_drew1 | refine below_set ?_ GE679.out) | exact HB.out)⟩⟩
              · rw [if_neg c11] at H
                have c11b0 : decide (x15_1 < 64) = false := decide_eq_false c11
                clear c11
                (first | rw [c11b0] | (simp only [i64_w, i32_w]; rw [c11b0]) | skip)
                have H' := Aside0.mk H
                clear H
                go_wp2
                go_meet
                case rel => exact ⟨_, (false), (by first | rfl | (simp; done) | (simp [*]; done)), H', ⟨by have := HK1.out; first | omega | exact Nat.le_refl _⟩, ⟨by (with_reducible repeat (first | apply Kd.V_alloc | apply Kd.V_drewN | apply Kd.V_drew)); exact HO_1.out⟩, ⟨by (with_reducible repeat (first | refine blk_drewN ?_ _ | refine blk_drew ?_ | refine blk_alloc ?_ _)); exact BK679.out⟩, ⟨by repeat (first | (with_reducible first | exact HB.out | apply below_alloc | apply pw_below_drewN | apply below_drew1 | refine below_set ?_ GE679.out) | exact HB.out)⟩⟩
            case rest =>
              clear HC10
              try clear c1
              try clear c2
              try clear p2
              try clear c3
              try clear c6
              try clear p6
              try clear q6
              try clear hx6
              try clear c7
              try clear c7b0
              try clear c8
              try clear c8b0
              try clear c9
              try clear c9b0
              try clear c11
              try clear c11b0
              try clear c12
              try clear c12b0
              try clear hx680_0
              try clear p2
              try clear p680
              try clear q680
              obtain ⟨kq, x28_9, rfl, HA, HJ9, HO_1, BK679, HB⟩ := hcut
              cases kq with
              | zero => exact absurd HA.out (by simp [spec_Chained.j1])
              | succ kj9 =>
                have H := HA.out
                clear HA
                simp only [spec_Chained.j1] at H
                by_cases c14 : x28_9 = true
                · subst c14
                  have H1 : ((spec_HashChildren.f kj9 a0_0 a0_1 a0_2 a0_3 a0_4 a0_5 (rd_L4 l2 x15_1) x1_1).bind fun t681 => (spec_Chained.l0 kj9 t681 a3 a4 l2 (l2.length : Int) (wrap64 (x15_1 + 1)) a0_0 a0_1 a0_2 a0_3 a0_4 a0_5)) = some r := by rw [if_pos rfl] at H; exact H
                  clear H
                  have H := H1
                  clear H1
                  replace H := Option.bind_eq_some_iff.mp H
                  obtain ⟨t681, A150, H⟩ := H
                  replace H : (spec_Chained.l0 kj9 t681 a3 a4 l2 (l2.length : Int) (wrap64 (x15_1 + 1)) a0_0 a0_1 a0_2 a0_3 a0_4 a0_5) = some r := H
                  have A15 := Aside0.mk A150
                  clear A150
                  have H' := Aside0.mk H
                  clear H
                  have hcz16_0 : wc.cell? ⟨gb679, 0, none⟩ = some (.int .i64 a0_0) := (blk_cell BK679.out 0).trans rfl
                  have hcz16_1 : wc.cell? ⟨gb679, 1, none⟩ = some (.int .i64 a0_1) := (blk_cell BK679.out 1).trans rfl
                  have hcz16_2 : wc.cell? ⟨gb679, 2, none⟩ = some (.int .i64 a0_2) := (blk_cell BK679.out 2).trans rfl
                  have hcz16_3 : wc.cell? ⟨gb679, 3, none⟩ = some (.int .u64 a0_3) := (blk_cell BK679.out 3).trans rfl
                  have hcz16_4 : wc.cell? ⟨gb679, 4, none⟩ = some (.int .u64 a0_4) := (blk_cell BK679.out 4).trans rfl
                  have hcz16_5 : wc.cell? ⟨gb679, 5, none⟩ = some (.int .u64 a0_5) := (blk_cell BK679.out 5).trans rfl
                  have hfz16_0 := blk_frozen BK679.out 0
                  have hfz16_1 := blk_frozen BK679.out 1
                  have hfz16_2 := blk_frozen BK679.out 2
                  have hfz16_3 := blk_frozen BK679.out 3
                  have hfz16_4 := blk_frozen BK679.out 4
                  have hfz16_5 := blk_frozen BK679.out 5
                  obtain ⟨Ao17, co17, eo17⟩ := Kd.V_slice HO_1.out
                  subst eo17
                  go_wp2_with (first | ((with_reducible refine gate_callee (f := 75) rfl ?_); refine goesL_ (some 32) rfl rfl Tryd.func75 (by kernel_rfl) rfl #[.agg #[.int .i64 a0_0, .int .i64 a0_1, .int .i64 a0_2, .int .u64 a0_3, .int .u64 a0_4, .int .u64 a0_5], .slice A680_0 (rd_L4 l2 x15_1).length c680_0, .slice Ao17 x1_1.length co17] rfl (by (try simp only [List.map_toArray, List.map_cons, List.map_nil]); first | done | rfl | (simp only [List.length_drop, List.length_take]; rfl)) ?_; (with_reducible refine (spec_HashChildren.calls kj9 a0_0 a0_1 a0_2 a0_3 a0_4 a0_5 _ _ (rd_L4 l2 x15_1) _ _ x1_1 t681 _ ?side1 ?side2 ?side3 ?side4 A15.out).mono ?_); (case side1 => repeat (first | exact (Kd.C_below HR680_0.out HB.out) | (with_reducible refine Kd.C_alloc ?_ _) | (with_reducible refine Kd.C_drewN ?_ _) | (with_reducible refine Kd.C_drew ?_))); (case side2 => exact HC680_0.out); (case side3 => repeat (first | exact (Kd.V_reads' HO_1.out).2.2 | (with_reducible refine Kd.C_alloc ?_ _) | (with_reducible refine Kd.C_drewN ?_ _) | (with_reducible refine Kd.C_drew ?_))); (case side4 => exact (Kd.V_reads' HO_1.out).2.1); rintro e w18 ⟨v682, rfl, ho0, hb⟩; refine ⟨_, rfl, ?_⟩; have n0_ := Aside0.mk (Kd.V_elder' (by (with_reducible repeat (first | apply Kd.V_alloc | apply Kd.V_drewN | apply Kd.V_drew)); exact HO_1.out) (Kd.R_base ho0) hb); have n1_ := Aside0.mk (Kd.R_lower (Kd.R_newM (M := fun k_ => (w.heap.size ≤ k_)) ho0 (below_size (by repeat (first | (with_reducible first | exact HB.out | apply below_alloc | apply pw_below_drewN | apply below_drew1 | refine below_set ?_ GE679.out) | exact HB.out))) (fun k_ h_ => h_)) (below_size (by repeat (first | (with_reducible first | exact HB.out | apply below_alloc | apply pw_below_drewN | apply below_drew1 | refine below_set ?_ GE679.out) | exact HB.out)))); have n2_ := Aside0.mk (blk_below (g := gb679) (o := .cells #[.int .i64 a0_0, .int .i64 a0_1, .int .i64 a0_2, .int .u64 a0_3, .int .u64 a0_4, .int .u64 a0_5] 37 (0, 0)) (by (with_reducible repeat (first | refine blk_drewN ?_ _ | refine blk_drew ?_ | refine blk_alloc ?_ _)); exact BK679.out) hb); have n3_ := Aside0.mk (below_step (by repeat (first | (with_reducible first | exact HB.out | apply below_alloc | apply pw_below_drewN | apply below_drew1 | refine below_set ?_ GE679.out) | exact HB.out)) hb); clear HO_1; clear BK679; clear HB; have HO_1 := n0_; have HO683 := n1_; have BK679 := n2_; have HB := n3_; clear n0_ n1_ n2_ n3_; (try clear hb); (try clear hb2); (try clear hk); (try clear hi); (try clear ho0)))
                  go_roundg kj9
                  case measure => have := HK1.out; have := HJ9.out; omega
                  case rel => exact ⟨(t681), (wrap64 (x15_1 + 1)), (by first | rfl | (simp; done) | (simp [*]; done)), H', ⟨by have := HK1.out; have := HJ9.out; omega⟩, ⟨Kd.V_mono (Kd.R_V (by (with_reducible repeat (first | apply Kd.R_alloc | apply Kd.R_drewN | apply Kd.R_drew)); exact Kd.R_mono (ok' := fun k_ => (w.heap.size ≤ k_) ∧ k_ ≠ gb679) (Kd.R_types HO683.out BK679.out (by decide)) (fun _ hk => ⟨hk.1.1, hk.2⟩))) (fun k_ hk => by first | exact ⟨(.inr (hk.1)), hk.2⟩ | exact (.inr (hk)))⟩, ⟨by (with_reducible repeat (first | refine blk_drewN ?_ _ | refine blk_drew ?_ | refine blk_alloc ?_ _)); exact BK679.out⟩, ⟨by repeat (first | (with_reducible first | exact HB.out | apply below_alloc | apply pw_below_drewN | apply below_drew1 | refine below_set ?_ GE679.out) | exact HB.out)⟩⟩
                · replace c14 := Bool.eq_false_iff.mpr c14
                  subst c14
                  have H1 : (if a4 = true then (spec_Chained.l0 kj9 x1_1 a3 a4 l2 (l2.length : Int) (wrap64 (x15_1 + 1)) a0_0 a0_1 a0_2 a0_3 a0_4 a0_5) else ((spec_HashChildren.f kj9 a0_0 a0_1 a0_2 a0_3 a0_4 a0_5 x1_1 (rd_L4 l2 x15_1)).bind fun t684 => (spec_Chained.l0 kj9 t684 a3 a4 l2 (l2.length : Int) (wrap64 (x15_1 + 1)) a0_0 a0_1 a0_2 a0_3 a0_4 a0_5))) = some r := by rw [if_neg (show ¬ (false = true) by decide)] at H; exact H
                  clear H
                  have H := H1
                  clear H1
                  by_cases c19 : a4 = true
                  · subst c19
                    have H1 : (spec_Chained.l0 kj9 x1_1 a3 true l2 (l2.length : Int) (wrap64 (x15_1 + 1)) a0_0 a0_1 a0_2 a0_3 a0_4 a0_5) = some r := by rw [if_pos rfl] at H; exact H
                    clear H
                    have H := H1
                    clear H1
                    have H' := Aside0.mk H
                    clear H
                    go_wp2
                    go_roundg kj9
                    case measure => have := HK1.out; have := HJ9.out; omega
                    case rel => exact ⟨(x1_1), (wrap64 (x15_1 + 1)), (by first | rfl | (simp; done) | (simp [*]; done)), H', ⟨by have := HK1.out; have := HJ9.out; omega⟩, ⟨by (with_reducible repeat (first | apply Kd.V_alloc | apply Kd.V_drewN | apply Kd.V_drew)); exact HO_1.out⟩, ⟨by (with_reducible repeat (first | refine blk_drewN ?_ _ | refine blk_drew ?_ | refine blk_alloc ?_ _)); exact BK679.out⟩, ⟨by repeat (first | (with_reducible first | exact HB.out | apply below_alloc | apply pw_below_drewN | apply below_drew1 | refine below_set ?_ GE679.out) | exact HB.out)⟩⟩
                  · replace c19 := Bool.eq_false_iff.mpr c19
                    subst c19
                    have H1 : ((spec_HashChildren.f kj9 a0_0 a0_1 a0_2 a0_3 a0_4 a0_5 x1_1 (rd_L4 l2 x15_1)).bind fun t684 => (spec_Chained.l0 kj9 t684 a3 false l2 (l2.length : Int) (wrap64 (x15_1 + 1)) a0_0 a0_1 a0_2 a0_3 a0_4 a0_5)) = some r := by rw [if_neg (show ¬ (false = true) by decide)] at H; exact H
                    clear H
                    have H := H1
                    clear H1
                    replace H := Option.bind_eq_some_iff.mp H
                    obtain ⟨t684, A200, H⟩ := H
                    replace H : (spec_Chained.l0 kj9 t684 a3 false l2 (l2.length : Int) (wrap64 (x15_1 + 1)) a0_0 a0_1 a0_2 a0_3 a0_4 a0_5) = some r := H
                    have A20 := Aside0.mk A200
                    clear A200
                    have H' := Aside0.mk H
                    clear H
                    have hcz21_0 : wc.cell? ⟨gb679, 0, none⟩ = some (.int .i64 a0_0) := (blk_cell BK679.out 0).trans rfl
                    have hcz21_1 : wc.cell? ⟨gb679, 1, none⟩ = some (.int .i64 a0_1) := (blk_cell BK679.out 1).trans rfl
                    have hcz21_2 : wc.cell? ⟨gb679, 2, none⟩ = some (.int .i64 a0_2) := (blk_cell BK679.out 2).trans rfl
                    have hcz21_3 : wc.cell? ⟨gb679, 3, none⟩ = some (.int .u64 a0_3) := (blk_cell BK679.out 3).trans rfl
                    have hcz21_4 : wc.cell? ⟨gb679, 4, none⟩ = some (.int .u64 a0_4) := (blk_cell BK679.out 4).trans rfl
                    have hcz21_5 : wc.cell? ⟨gb679, 5, none⟩ = some (.int .u64 a0_5) := (blk_cell BK679.out 5).trans rfl
                    have hfz21_0 := blk_frozen BK679.out 0
                    have hfz21_1 := blk_frozen BK679.out 1
                    have hfz21_2 := blk_frozen BK679.out 2
                    have hfz21_3 := blk_frozen BK679.out 3
                    have hfz21_4 := blk_frozen BK679.out 4
                    have hfz21_5 := blk_frozen BK679.out 5
                    obtain ⟨Ao22, co22, eo22⟩ := Kd.V_slice HO_1.out
                    subst eo22
                    go_wp2_with (first | ((with_reducible refine gate_callee (f := 75) rfl ?_); refine goesL_ (some 38) rfl rfl Tryd.func75 (by kernel_rfl) rfl #[.agg #[.int .i64 a0_0, .int .i64 a0_1, .int .i64 a0_2, .int .u64 a0_3, .int .u64 a0_4, .int .u64 a0_5], .slice Ao22 x1_1.length co22, .slice A680_0 (rd_L4 l2 x15_1).length c680_0] rfl (by (try simp only [List.map_toArray, List.map_cons, List.map_nil]); first | done | rfl | (simp only [List.length_drop, List.length_take]; rfl)) ?_; (with_reducible refine (spec_HashChildren.calls kj9 a0_0 a0_1 a0_2 a0_3 a0_4 a0_5 _ _ x1_1 _ _ (rd_L4 l2 x15_1) t684 _ ?side1 ?side2 ?side3 ?side4 A20.out).mono ?_); (case side1 => repeat (first | exact (Kd.V_reads' HO_1.out).2.2 | (with_reducible refine Kd.C_alloc ?_ _) | (with_reducible refine Kd.C_drewN ?_ _) | (with_reducible refine Kd.C_drew ?_))); (case side2 => exact (Kd.V_reads' HO_1.out).2.1); (case side3 => repeat (first | exact (Kd.C_below HR680_0.out HB.out) | (with_reducible refine Kd.C_alloc ?_ _) | (with_reducible refine Kd.C_drewN ?_ _) | (with_reducible refine Kd.C_drew ?_))); (case side4 => exact HC680_0.out); rintro e w23 ⟨v685, rfl, ho0, hb⟩; refine ⟨_, rfl, ?_⟩; have n0_ := Aside0.mk (Kd.V_elder' (by (with_reducible repeat (first | apply Kd.V_alloc | apply Kd.V_drewN | apply Kd.V_drew)); exact HO_1.out) (Kd.R_base ho0) hb); have n1_ := Aside0.mk (Kd.R_lower (Kd.R_newM (M := fun k_ => (w.heap.size ≤ k_)) ho0 (below_size (by repeat (first | (with_reducible first | exact HB.out | apply below_alloc | apply pw_below_drewN | apply below_drew1 | refine below_set ?_ GE679.out) | exact HB.out))) (fun k_ h_ => h_)) (below_size (by repeat (first | (with_reducible first | exact HB.out | apply below_alloc | apply pw_below_drewN | apply below_drew1 | refine below_set ?_ GE679.out) | exact HB.out)))); have n2_ := Aside0.mk (blk_below (g := gb679) (o := .cells #[.int .i64 a0_0, .int .i64 a0_1, .int .i64 a0_2, .int .u64 a0_3, .int .u64 a0_4, .int .u64 a0_5] 37 (0, 0)) (by (with_reducible repeat (first | refine blk_drewN ?_ _ | refine blk_drew ?_ | refine blk_alloc ?_ _)); exact BK679.out) hb); have n3_ := Aside0.mk (below_step (by repeat (first | (with_reducible first | exact HB.out | apply below_alloc | apply pw_below_drewN | apply below_drew1 | refine below_set ?_ GE679.out) | exact HB.out)) hb); clear HO_1; clear BK679; clear HB; have HO_1 := n0_; have HO686 := n1_; have BK679 := n2_; have HB := n3_; clear n0_ n1_ n2_ n3_; (try clear hb); (try clear hb2); (try clear hk); (try clear hi); (try clear ho0)))
                    go_roundg kj9
                    case measure => have := HK1.out; have := HJ9.out; omega
                    case rel => exact ⟨(t684), (wrap64 (x15_1 + 1)), (by first | rfl | (simp; done) | (simp [*]; done)), H', ⟨by have := HK1.out; have := HJ9.out; omega⟩, ⟨Kd.V_mono (Kd.R_V (by (with_reducible repeat (first | apply Kd.R_alloc | apply Kd.R_drewN | apply Kd.R_drew)); exact Kd.R_mono (ok' := fun k_ => (w.heap.size ≤ k_) ∧ k_ ≠ gb679) (Kd.R_types HO686.out BK679.out (by decide)) (fun _ hk => ⟨hk.1.1, hk.2⟩))) (fun k_ hk => by first | exact ⟨(.inr (hk.1)), hk.2⟩ | exact (.inr (hk)))⟩, ⟨by (with_reducible repeat (first | refine blk_drewN ?_ _ | refine blk_drew ?_ | refine blk_alloc ?_ _)); exact BK679.out⟩, ⟨by repeat (first | (with_reducible first | exact HB.out | apply below_alloc | apply pw_below_drewN | apply below_drew1 | refine below_set ?_ GE679.out) | exact HB.out)⟩⟩
          · rw [if_neg c9] at H
            exact absurd H (by simp)
        · rw [if_neg c8] at H
          exact absurd H (by simp)
      · rw [if_neg c7] at H
        have c7b0 : decide (x15_1 < (l2.length : Int)) = false := decide_eq_false c7
        clear c7
        obtain rfl := Option.some.inj H
        go_wp2
        go_ret
        exact ⟨_, by first | rfl | (simp [errW_none, errW_some] <;> rfl) | (simp [*, errW_none, errW_some] <;> rfl), by (with_reducible repeat (first | apply Kd.V_alloc | apply Kd.V_drewN | apply Kd.V_drew)); exact Kd.V_mono HO_1.out (fun _ hk => hk.1), by repeat (first | (with_reducible first | exact HB.out | apply below_alloc | apply pw_below_drewN | apply below_drew1 | refine below_set ?_ GE679.out) | exact HB.out)⟩
mutual
def laws_FnVerifyConsistencyFar.j0 : Nat → Int → Int → List (List Int) → List Int → List Int → Bool → Int → Int → Int → Int → Int → Int → Option (Bool)
  | 0, _, _, _, _, _, _, _, _, _, _, _, _ => none
  | k + 1, x1, x2, x3, x4, x5, x35, x688000, x688001, x688002, x688003, x688004, x688005 => if x35 = true then (some true) else (laws_FnVerifyConsistencyFar.j1 k x1 x2 x3 x4 x5 x688000 x688001 x688002 x688003 x688004 x688005)
def laws_FnVerifyConsistencyFar.j1 : Nat → Int → Int → List (List Int) → List Int → List Int → Int → Int → Int → Int → Int → Int → Option (Bool)
  | 0, _, _, _, _, _, _, _, _, _, _, _ => none
  | k + 1, x1, x2, x3, x4, x5, x688000, x688001, x688002, x688003, x688004, x688005 => (laws_logSmall.f k x3).bind fun t689 => (if t689 = true then (if (x4.length : Int) > 5000 then (laws_FnVerifyConsistencyFar.j2 k x1 x2 x3 x4 x5 true x688000 x688001 x688002 x688003 x688004 x688005) else (if x1 = 0 then (laws_FnVerifyConsistencyFar.j2 k x1 x2 x3 x4 x5 true x688000 x688001 x688002 x688003 x688004 x688005) else (laws_FnVerifyConsistencyFar.j2 k x1 x2 x3 x4 x5 (decide (x1 ≥ x2)) x688000 x688001 x688002 x688003 x688004 x688005))) else (laws_FnVerifyConsistencyFar.j2 k x1 x2 x3 x4 x5 true x688000 x688001 x688002 x688003 x688004 x688005))
def laws_FnVerifyConsistencyFar.j2 : Nat → Int → Int → List (List Int) → List Int → List Int → Bool → Int → Int → Int → Int → Int → Int → Option (Bool)
  | 0, _, _, _, _, _, _, _, _, _, _, _, _ => none
  | k + 1, x1, x2, x3, x4, x5, x52, x688000, x688001, x688002, x688003, x688004, x688005 => if x52 = true then (some true) else (laws_FnVerifyConsistencyFar.j3 k x1 x2 x3 x4 x5 x688000 x688001 x688002 x688003 x688004 x688005)
def laws_FnVerifyConsistencyFar.j3 : Nat → Int → Int → List (List Int) → List Int → List Int → Int → Int → Int → Int → Int → Int → Option (Bool)
  | 0, _, _, _, _, _, _, _, _, _, _, _ => none
  | k + 1, x1, x2, x3, x4, x5, x688000, x688001, x688002, x688003, x688004, x688005 => (impl_VerifyConsistency.f k x688000 x688001 x688002 x688003 x688004 x688005 x1 x2 x3 x4 x5).bind fun bt690 => ((spec_ProofParts.f k x1 x2).bind fun t694 => (if (x3.length : Int) = (t694.length : Int) then (laws_FnVerifyConsistencyFar.j4 k x1 x2 x3 x4 x5 bt690.1 x688000 x688001 x688002 x688003 x688004 x688005) else (some (bt690.1 == 2))))
def laws_FnVerifyConsistencyFar.j4 : Nat → Int → Int → List (List Int) → List Int → List Int → Int → Int → Int → Int → Int → Int → Int → Option (Bool)
  | 0, _, _, _, _, _, _, _, _, _, _, _, _ => none
  | k + 1, x1, x2, x3, x4, x5, x13, x688000, x688001, x688002, x688003, x688004, x688005 => laws_FnVerifyConsistencyFar.l0 k x1 x2 x3 x4 x5 x13 0 x4 x3 x688000 x688001 x688002 x688003 x688004 x688005
def laws_FnVerifyConsistencyFar.j6 : Nat → Int → Int → List (List Int) → List Int → List Int → Int → Int → List Int → List (List Int) → Int → Int → Int → Int → Int → Int → Option (Bool)
  | 0, _, _, _, _, _, _, _, _, _, _, _, _, _, _, _ => none
  | k + 1, x1, x2, x3, x4, x5, x13, x15, x16, x17, x688000, x688001, x688002, x688003, x688004, x688005 => if 0 ≤ x15 then (if x1 = (shl .u64 1 x15) then ((spec_Inner.f k (shr .u64 (IntKind.u64.wrap (x1 - 1)) x15) (IntKind.u64.wrap ((shr .u64 (IntKind.u64.wrap (x2 - 1)) x15) + 1))).bind fun t697 => (if 0 ≤ t697 then (if t697 ≤ (x17.length : Int) then ((spec_Chained.f k x688000 x688001 x688002 x688003 x688004 x688005 x16 (x17.take (t697 : Int).toNat) (shr .u64 (IntKind.u64.wrap (x1 - 1)) x15) true).bind fun t702 => ((spec_Chained.f k x688000 x688001 x688002 x688003 x688004 x688005 t702 (x17.drop (t697 : Int).toNat) 18446744073709551615 true).bind fun t709 => ((spec_Chained.f k x688000 x688001 x688002 x688003 x688004 x688005 x16 (x17.take (t697 : Int).toNat) (shr .u64 (IntKind.u64.wrap (x1 - 1)) x15) false).bind fun t716 => ((spec_Chained.f k x688000 x688001 x688002 x688003 x688004 x688005 t716 (x17.drop (t697 : Int).toNat) 18446744073709551615 true).bind fun t723 => ((spec_SameText.f t709 x4).bind fun t726 => (if t726 = true then ((spec_SameText.f t723 x5).bind fun t727 => (if t727 = true then (some (x13 == 0)) else (some (x13 == 1)))) else (some (x13 == 1)))))))) else (none)) else (none))) else (if 0 < (x3.length : Int) then (if 1 ≤ (x3.length : Int) then ((some (x3.drop 1 : List (List Int))).bind fun y729 => ((spec_Inner.f k (shr .u64 (IntKind.u64.wrap (x1 - 1)) x15) (IntKind.u64.wrap ((shr .u64 (IntKind.u64.wrap (x2 - 1)) x15) + 1))).bind fun t733 => (if 0 ≤ t733 then (if t733 ≤ (y729.length : Int) then ((spec_Chained.f k x688000 x688001 x688002 x688003 x688004 x688005 (rd_L4 x3 0) (y729.take (t733 : Int).toNat) (shr .u64 (IntKind.u64.wrap (x1 - 1)) x15) true).bind fun t738 => ((spec_Chained.f k x688000 x688001 x688002 x688003 x688004 x688005 t738 (y729.drop (t733 : Int).toNat) 18446744073709551615 true).bind fun t745 => ((spec_Chained.f k x688000 x688001 x688002 x688003 x688004 x688005 (rd_L4 x3 0) (y729.take (t733 : Int).toNat) (shr .u64 (IntKind.u64.wrap (x1 - 1)) x15) false).bind fun t752 => ((spec_Chained.f k x688000 x688001 x688002 x688003 x688004 x688005 t752 (y729.drop (t733 : Int).toNat) 18446744073709551615 true).bind fun t759 => ((spec_SameText.f t745 x4).bind fun t762 => (if t762 = true then ((spec_SameText.f t759 x5).bind fun t763 => (if t763 = true then (some (x13 == 0)) else (some (x13 == 1)))) else (some (x13 == 1)))))))) else (none)) else (none)))) else (none)) else (none))) else (none)
def laws_FnVerifyConsistencyFar.l0 : Nat → Int → Int → List (List Int) → List Int → List Int → Int → Int → List Int → List (List Int) → Int → Int → Int → Int → Int → Int → Option (Bool)
  | 0, _, _, _, _, _, _, _, _, _, _, _, _, _, _, _ => none
  | k + 1, x1, x2, x3, x4, x5, x13, x15, x16, x17, x688000, x688001, x688002, x688003, x688004, x688005 => if 0 ≤ x15 then (if (Go.bits .and .u64 (shr .u64 x1 x15) 1) = 0 then (laws_FnVerifyConsistencyFar.l0 k x1 x2 x3 x4 x5 x13 (wrap64 (x15 + 1)) x16 x17 x688000 x688001 x688002 x688003 x688004 x688005) else (laws_FnVerifyConsistencyFar.j6 k x1 x2 x3 x4 x5 x13 x15 x16 x17 x688000 x688001 x688002 x688003 x688004 x688005)) else (none)
end
def laws_FnVerifyConsistencyFar.f (k : Nat) (a0_0 : Int) (a0_1 : Int) (a0_2 : Int) (a0_3 : Int) (a0_4 : Int) (a0_5 : Int) (a1 : Int) (a2 : Int) (l3 : List (List Int)) (l4 : List Int) (l5 : List Int) : Option (Bool) := (laws_zzFits2.f k l3).bind fun t688 => (if t688 = true then (if (l4.length : Int) > 2147483647 then (laws_FnVerifyConsistencyFar.j0 k a1 a2 l3 l4 l5 true a0_0 a0_1 a0_2 a0_3 a0_4 a0_5) else (laws_FnVerifyConsistencyFar.j0 k a1 a2 l3 l4 l5 (decide ((l5.length : Int) > 2147483647)) a0_0 a0_1 a0_2 a0_3 a0_4 a0_5)) else (laws_FnVerifyConsistencyFar.j0 k a1 a2 l3 l4 l5 true a0_0 a0_1 a0_2 a0_3 a0_4 a0_5))
theorem laws_FnVerifyConsistencyFar.mono_l : ∀ k, (∀ y0 y1 y2 y3 y4 y5 y6 y7 y8 y9 y10 y11, LeO (laws_FnVerifyConsistencyFar.j0 k y0 y1 y2 y3 y4 y5 y6 y7 y8 y9 y10 y11) (laws_FnVerifyConsistencyFar.j0 (k + 1) y0 y1 y2 y3 y4 y5 y6 y7 y8 y9 y10 y11)) ∧ (∀ y0 y1 y2 y3 y4 y5 y6 y7 y8 y9 y10, LeO (laws_FnVerifyConsistencyFar.j1 k y0 y1 y2 y3 y4 y5 y6 y7 y8 y9 y10) (laws_FnVerifyConsistencyFar.j1 (k + 1) y0 y1 y2 y3 y4 y5 y6 y7 y8 y9 y10)) ∧ (∀ y0 y1 y2 y3 y4 y5 y6 y7 y8 y9 y10 y11, LeO (laws_FnVerifyConsistencyFar.j2 k y0 y1 y2 y3 y4 y5 y6 y7 y8 y9 y10 y11) (laws_FnVerifyConsistencyFar.j2 (k + 1) y0 y1 y2 y3 y4 y5 y6 y7 y8 y9 y10 y11)) ∧ (∀ y0 y1 y2 y3 y4 y5 y6 y7 y8 y9 y10, LeO (laws_FnVerifyConsistencyFar.j3 k y0 y1 y2 y3 y4 y5 y6 y7 y8 y9 y10) (laws_FnVerifyConsistencyFar.j3 (k + 1) y0 y1 y2 y3 y4 y5 y6 y7 y8 y9 y10)) ∧ (∀ y0 y1 y2 y3 y4 y5 y6 y7 y8 y9 y10 y11, LeO (laws_FnVerifyConsistencyFar.j4 k y0 y1 y2 y3 y4 y5 y6 y7 y8 y9 y10 y11) (laws_FnVerifyConsistencyFar.j4 (k + 1) y0 y1 y2 y3 y4 y5 y6 y7 y8 y9 y10 y11)) ∧ (∀ y0 y1 y2 y3 y4 y5 y6 y7 y8 y9 y10 y11 y12 y13 y14, LeO (laws_FnVerifyConsistencyFar.j6 k y0 y1 y2 y3 y4 y5 y6 y7 y8 y9 y10 y11 y12 y13 y14) (laws_FnVerifyConsistencyFar.j6 (k + 1) y0 y1 y2 y3 y4 y5 y6 y7 y8 y9 y10 y11 y12 y13 y14)) ∧ (∀ y0 y1 y2 y3 y4 y5 y6 y7 y8 y9 y10 y11 y12 y13 y14, LeO (laws_FnVerifyConsistencyFar.l0 k y0 y1 y2 y3 y4 y5 y6 y7 y8 y9 y10 y11 y12 y13 y14) (laws_FnVerifyConsistencyFar.l0 (k + 1) y0 y1 y2 y3 y4 y5 y6 y7 y8 y9 y10 y11 y12 y13 y14))
  | 0 => ⟨fun _ _ _ _ _ _ _ _ _ _ _ _ r h => by simp [laws_FnVerifyConsistencyFar.j0] at h, fun _ _ _ _ _ _ _ _ _ _ _ r h => by simp [laws_FnVerifyConsistencyFar.j1] at h, fun _ _ _ _ _ _ _ _ _ _ _ _ r h => by simp [laws_FnVerifyConsistencyFar.j2] at h, fun _ _ _ _ _ _ _ _ _ _ _ r h => by simp [laws_FnVerifyConsistencyFar.j3] at h, fun _ _ _ _ _ _ _ _ _ _ _ _ r h => by simp [laws_FnVerifyConsistencyFar.j4] at h, fun _ _ _ _ _ _ _ _ _ _ _ _ _ _ _ r h => by simp [laws_FnVerifyConsistencyFar.j6] at h, fun _ _ _ _ _ _ _ _ _ _ _ _ _ _ _ r h => by simp [laws_FnVerifyConsistencyFar.l0] at h⟩
  | k + 1 => by
    obtain ⟨ih0, ih1, ih2, ih3, ih4, ih5, ih6⟩ := laws_FnVerifyConsistencyFar.mono_l k
    refine ⟨?_, ?_, ?_, ?_, ?_, ?_, ?_⟩
    · intro y0 y1 y2 y3 y4 y5 y6 y7 y8 y9 y10 y11
      unfold laws_FnVerifyConsistencyFar.j0
      repeat' first
      | (with_reducible exact ih0 _ _ _ _ _ _ _ _ _ _ _ _)
      | (with_reducible exact ih1 _ _ _ _ _ _ _ _ _ _ _)
      | (with_reducible exact ih2 _ _ _ _ _ _ _ _ _ _ _ _)
      | (with_reducible exact ih3 _ _ _ _ _ _ _ _ _ _ _)
      | (with_reducible exact ih4 _ _ _ _ _ _ _ _ _ _ _ _)
      | (with_reducible exact ih5 _ _ _ _ _ _ _ _ _ _ _ _ _ _ _)
      | (with_reducible exact ih6 _ _ _ _ _ _ _ _ _ _ _ _ _ _ _)
      | (with_reducible exact impl_VerifyConsistency.mono _ _ _ _ _ _ _ _ _ _ _ _)
      | (with_reducible exact laws_logSmall.mono _ _)
      | (with_reducible exact laws_zzFits2.mono _ _)
      | (with_reducible exact spec_Chained.mono _ _ _ _ _ _ _ _ _ _ _)
      | (with_reducible exact spec_Inner.mono _ _ _)
      | (with_reducible exact spec_ProofParts.mono _ _ _)
      | (with_reducible exact LeO.refl _)
      | (with_reducible exact LeO.none _)
      | (with_reducible refine LeO.ite ?_ ?_)
      | (with_reducible refine LeO.bind ?_ (fun _ => ?_))
      | exact ih0 _ _ _ _ _ _ _ _ _ _ _ _
      | exact ih1 _ _ _ _ _ _ _ _ _ _ _
      | exact ih2 _ _ _ _ _ _ _ _ _ _ _ _
      | exact ih3 _ _ _ _ _ _ _ _ _ _ _
      | exact ih4 _ _ _ _ _ _ _ _ _ _ _ _
      | exact ih5 _ _ _ _ _ _ _ _ _ _ _ _ _ _ _
      | exact ih6 _ _ _ _ _ _ _ _ _ _ _ _ _ _ _
      | exact impl_VerifyConsistency.mono _ _ _ _ _ _ _ _ _ _ _ _
      | exact laws_logSmall.mono _ _
      | exact laws_zzFits2.mono _ _
      | exact spec_Chained.mono _ _ _ _ _ _ _ _ _ _ _
      | exact spec_Inner.mono _ _ _
      | exact spec_ProofParts.mono _ _ _
      | exact LeO.none _
      | refine LeO.ite ?_ ?_
      | refine LeO.bind ?_ (fun _ => ?_)
    · intro y0 y1 y2 y3 y4 y5 y6 y7 y8 y9 y10
      unfold laws_FnVerifyConsistencyFar.j1
      repeat' first
      | (with_reducible exact ih0 _ _ _ _ _ _ _ _ _ _ _ _)
      | (with_reducible exact ih1 _ _ _ _ _ _ _ _ _ _ _)
      | (with_reducible exact ih2 _ _ _ _ _ _ _ _ _ _ _ _)
      | (with_reducible exact ih3 _ _ _ _ _ _ _ _ _ _ _)
      | (with_reducible exact ih4 _ _ _ _ _ _ _ _ _ _ _ _)
      | (with_reducible exact ih5 _ _ _ _ _ _ _ _ _ _ _ _ _ _ _)
      | (with_reducible exact ih6 _ _ _ _ _ _ _ _ _ _ _ _ _ _ _)
      | (with_reducible exact impl_VerifyConsistency.mono _ _ _ _ _ _ _ _ _ _ _ _)
      | (with_reducible exact laws_logSmall.mono _ _)
      | (with_reducible exact laws_zzFits2.mono _ _)
      | (with_reducible exact spec_Chained.mono _ _ _ _ _ _ _ _ _ _ _)
      | (with_reducible exact spec_Inner.mono _ _ _)
      | (with_reducible exact spec_ProofParts.mono _ _ _)
      | (with_reducible exact LeO.refl _)
      | (with_reducible exact LeO.none _)
      | (with_reducible refine LeO.ite ?_ ?_)
      | (with_reducible refine LeO.bind ?_ (fun _ => ?_))
      | exact ih0 _ _ _ _ _ _ _ _ _ _ _ _
      | exact ih1 _ _ _ _ _ _ _ _ _ _ _
      | exact ih2 _ _ _ _ _ _ _ _ _ _ _ _
      | exact ih3 _ _ _ _ _ _ _ _ _ _ _
      | exact ih4 _ _ _ _ _ _ _ _ _ _ _ _
      | exact ih5 _ _ _ _ _ _ _ _ _ _ _ _ _ _ _
      | exact ih6 _ _ _ _ _ _ _ _ _ _ _ _ _ _ _
      | exact impl_VerifyConsistency.mono _ _ _ _ _ _ _ _ _ _ _ _
      | exact laws_logSmall.mono _ _
      | exact laws_zzFits2.mono _ _
      | exact spec_Chained.mono _ _ _ _ _ _ _ _ _ _ _
      | exact spec_Inner.mono _ _ _
      | exact spec_ProofParts.mono _ _ _
      | exact LeO.none _
      | refine LeO.ite ?_ ?_
      | refine LeO.bind ?_ (fun _ => ?_)
    · intro y0 y1 y2 y3 y4 y5 y6 y7 y8 y9 y10 y11
      unfold laws_FnVerifyConsistencyFar.j2
      repeat' first
      | (with_reducible exact ih0 _ _ _ _ _ _ _ _ _ _ _ _)
      | (with_reducible exact ih1 _ _ _ _ _ _ _ _ _ _ _)
      | (with_reducible exact ih2 _ _ _ _ _ _ _ _ _ _ _ _)
      | (with_reducible exact ih3 _ _ _ _ _ _ _ _ _ _ _)
      | (with_reducible exact ih4 _ _ _ _ _ _ _ _ _ _ _ _)
      | (with_reducible exact ih5 _ _ _ _ _ _ _ _ _ _ _ _ _ _ _)
      | (with_reducible exact ih6 _ _ _ _ _ _ _ _ _ _ _ _ _ _ _)
      | (with_reducible exact impl_VerifyConsistency.mono _ _ _ _ _ _ _ _ _ _ _ _)
      | (with_reducible exact laws_logSmall.mono _ _)
      | (with_reducible exact laws_zzFits2.mono _ _)
      | (with_reducible exact spec_Chained.mono _ _ _ _ _ _ _ _ _ _ _)
      | (with_reducible exact spec_Inner.mono _ _ _)
      | (with_reducible exact spec_ProofParts.mono _ _ _)
      | (with_reducible exact LeO.refl _)
      | (with_reducible exact LeO.none _)
      | (with_reducible refine LeO.ite ?_ ?_)
      | (with_reducible refine LeO.bind ?_ (fun _ => ?_))
      | exact ih0 _ _ _ _ _ _ _ _ _ _ _ _
      | exact ih1 _ _ _ _ _ _ _ _ _ _ _
      | exact ih2 _ _ _ _ _ _ _ _ _ _ _ _
      | exact ih3 _ _ _ _ _ _ _ _ _ _ _
      | exact ih4 _ _ _ _ _ _ _ _ _ _ _ _
      | exact ih5 _ _ _ _ _ _ _ _ _ _ _ _ _ _ _
      | exact ih6 _ _ _ _ _ _ _ _ _ _ _ _ _ _ _
      | exact impl_VerifyConsistency.mono _ _ _ _ _ _ _ _ _ _ _ _
      | exact laws_logSmall.mono _ _
      | exact laws_zzFits2.mono _ _
      | exact spec_Chained.mono _ _ _ _ _ _ _ _ _ _ _
      | exact spec_Inner.mono _ _ _
      | exact spec_ProofParts.mono _ _ _
      | exact LeO.none _
      | refine LeO.ite ?_ ?_
      | refine LeO.bind ?_ (fun _ => ?_)
    · intro y0 y1 y2 y3 y4 y5 y6 y7 y8 y9 y10
      unfold laws_FnVerifyConsistencyFar.j3
      repeat' first
      | (with_reducible exact ih0 _ _ _ _ _ _ _ _ _ _ _ _)
      | (with_reducible exact ih1 _ _ _ _ _ _ _ _ _ _ _)
      | (with_reducible exact ih2 _ _ _ _ _ _ _ _ _ _ _ _)
      | (with_reducible exact ih3 _ _ _ _ _ _ _ _ _ _ _)
      | (with_reducible exact ih4 _ _ _ _ _ _ _ _ _ _ _ _)
      | (with_reducible exact ih5 _ _ _ _ _ _ _ _ _ _ _ _ _ _ _)
      | (with_reducible exact ih6 _ _ _ _ _ _ _ _ _ _ _ _ _ _ _)
      | (with_reducible exact impl_VerifyConsistency.mono _ _ _ _ _ _ _ _ _ _ _ _)
      | (with_reducible exact laws_logSmall.mono _ _)
      | (with_reducible exact laws_zzFits2.mono _ _)
      | (with_reducible exact spec_Chained.mono _ _ _ _ _ _ _ _ _ _ _)
      | (with_reducible exact spec_Inner.mono _ _ _)
      | (with_reducible exact spec_ProofParts.mono _ _ _)
      | (with_reducible exact LeO.refl _)
      | (with_reducible exact LeO.none _)
      | (with_reducible refine LeO.ite ?_ ?_)
      | (with_reducible refine LeO.bind ?_ (fun _ => ?_))
      | exact ih0 _ _ _ _ _ _ _ _ _ _ _ _
      | exact ih1 _ _ _ _ _ _ _ _ _ _ _
      | exact ih2 _ _ _ _ _ _ _ _ _ _ _ _
      | exact ih3 _ _ _ _ _ _ _ _ _ _ _
      | exact ih4 _ _ _ _ _ _ _ _ _ _ _ _
      | exact ih5 _ _ _ _ _ _ _ _ _ _ _ _ _ _ _
      | exact ih6 _ _ _ _ _ _ _ _ _ _ _ _ _ _ _
      | exact impl_VerifyConsistency.mono _ _ _ _ _ _ _ _ _ _ _ _
      | exact laws_logSmall.mono _ _
      | exact laws_zzFits2.mono _ _
      | exact spec_Chained.mono _ _ _ _ _ _ _ _ _ _ _
      | exact spec_Inner.mono _ _ _
      | exact spec_ProofParts.mono _ _ _
      | exact LeO.none _
      | refine LeO.ite ?_ ?_
      | refine LeO.bind ?_ (fun _ => ?_)
    · intro y0 y1 y2 y3 y4 y5 y6 y7 y8 y9 y10 y11
      unfold laws_FnVerifyConsistencyFar.j4
      repeat' first
      | (with_reducible exact ih0 _ _ _ _ _ _ _ _ _ _ _ _)
      | (with_reducible exact ih1 _ _ _ _ _ _ _ _ _ _ _)
      | (with_reducible exact ih2 _ _ _ _ _ _ _ _ _ _ _ _)
      | (with_reducible exact ih3 _ _ _ _ _ _ _ _ _ _ _)
      | (with_reducible exact ih4 _ _ _ _ _ _ _ _ _ _ _ _)
      | (with_reducible exact ih5 _ _ _ _ _ _ _ _ _ _ _ _ _ _ _)
      | (with_reducible exact ih6 _ _ _ _ _ _ _ _ _ _ _ _ _ _ _)
      | (with_reducible exact impl_VerifyConsistency.mono _ _ _ _ _ _ _ _ _ _ _ _)
      | (with_reducible exact laws_logSmall.mono _ _)
      | (with_reducible exact laws_zzFits2.mono _ _)
      | (with_reducible exact spec_Chained.mono _ _ _ _ _ _ _ _ _ _ _)
      | (with_reducible exact spec_Inner.mono _ _ _)
      | (with_reducible exact spec_ProofParts.mono _ _ _)
      | (with_reducible exact LeO.refl _)
      | (with_reducible exact LeO.none _)
      | (with_reducible refine LeO.ite ?_ ?_)
      | (with_reducible refine LeO.bind ?_ (fun _ => ?_))
      | exact ih0 _ _ _ _ _ _ _ _ _ _ _ _
      | exact ih1 _ _ _ _ _ _ _ _ _ _ _
      | exact ih2 _ _ _ _ _ _ _ _ _ _ _ _
      | exact ih3 _ _ _ _ _ _ _ _ _ _ _
      | exact ih4 _ _ _ _ _ _ _ _ _ _ _ _
      | exact ih5 _ _ _ _ _ _ _ _ _ _ _ _ _ _ _
      | exact ih6 _ _ _ _ _ _ _ _ _ _ _ _ _ _ _
      | exact impl_VerifyConsistency.mono _ _ _ _ _ _ _ _ _ _ _ _
      | exact laws_logSmall.mono _ _
      | exact laws_zzFits2.mono _ _
      | exact spec_Chained.mono _ _ _ _ _ _ _ _ _ _ _
      | exact spec_Inner.mono _ _ _
      | exact spec_ProofParts.mono _ _ _
      | exact LeO.none _
      | refine LeO.ite ?_ ?_
      | refine LeO.bind ?_ (fun _ => ?_)
    · intro y0 y1 y2 y3 y4 y5 y6 y7 y8 y9 y10 y11 y12 y13 y14
      unfold laws_FnVerifyConsistencyFar.j6
      repeat' first
      | (with_reducible exact ih0 _ _ _ _ _ _ _ _ _ _ _ _)
      | (with_reducible exact ih1 _ _ _ _ _ _ _ _ _ _ _)
      | (with_reducible exact ih2 _ _ _ _ _ _ _ _ _ _ _ _)
      | (with_reducible exact ih3 _ _ _ _ _ _ _ _ _ _ _)
      | (with_reducible exact ih4 _ _ _ _ _ _ _ _ _ _ _ _)
      | (with_reducible exact ih5 _ _ _ _ _ _ _ _ _ _ _ _ _ _ _)
      | (with_reducible exact ih6 _ _ _ _ _ _ _ _ _ _ _ _ _ _ _)
      | (with_reducible exact impl_VerifyConsistency.mono _ _ _ _ _ _ _ _ _ _ _ _)
      | (with_reducible exact laws_logSmall.mono _ _)
      | (with_reducible exact laws_zzFits2.mono _ _)
      | (with_reducible exact spec_Chained.mono _ _ _ _ _ _ _ _ _ _ _)
      | (with_reducible exact spec_Inner.mono _ _ _)
      | (with_reducible exact spec_ProofParts.mono _ _ _)
      | (with_reducible exact LeO.refl _)
      | (with_reducible exact LeO.none _)
      | (with_reducible refine LeO.ite ?_ ?_)
      | (with_reducible refine LeO.bind ?_ (fun _ => ?_))
      | exact ih0 _ _ _ _ _ _ _ _ _ _ _ _
      | exact ih1 _ _ _ _ _ _ _ _ _ _ _
      | exact ih2 _ _ _ _ _ _ _ _ _ _ _ _
      | exact ih3 _ _ _ _ _ _ _ _ _ _ _
      | exact ih4 _ _ _ _ _ _ _ _ _ _ _ _
      | exact ih5 _ _ _ _ _ _ _ _ _ _ _ _ _ _ _
      | exact ih6 _ _ _ _ _ _ _ _ _ _ _ _ _ _ _
      | exact impl_VerifyConsistency.mono _ _ _ _ _ _ _ _ _ _ _ _
      | exact laws_logSmall.mono _ _
      | exact laws_zzFits2.mono _ _
      | exact spec_Chained.mono _ _ _ _ _ _ _ _ _ _ _
      | exact spec_Inner.mono _ _ _
      | exact spec_ProofParts.mono _ _ _
      | exact LeO.none _
      | refine LeO.ite ?_ ?_
      | refine LeO.bind ?_ (fun _ => ?_)
    intro y0 y1 y2 y3 y4 y5 y6 y7 y8 y9 y10 y11 y12 y13 y14
    unfold laws_FnVerifyConsistencyFar.l0
    repeat' first
    | (with_reducible exact ih0 _ _ _ _ _ _ _ _ _ _ _ _)
    | (with_reducible exact ih1 _ _ _ _ _ _ _ _ _ _ _)
    | (with_reducible exact ih2 _ _ _ _ _ _ _ _ _ _ _ _)
    | (with_reducible exact ih3 _ _ _ _ _ _ _ _ _ _ _)
    | (with_reducible exact ih4 _ _ _ _ _ _ _ _ _ _ _ _)
    | (with_reducible exact ih5 _ _ _ _ _ _ _ _ _ _ _ _ _ _ _)
    | (with_reducible exact ih6 _ _ _ _ _ _ _ _ _ _ _ _ _ _ _)
    | (with_reducible exact impl_VerifyConsistency.mono _ _ _ _ _ _ _ _ _ _ _ _)
    | (with_reducible exact laws_logSmall.mono _ _)
    | (with_reducible exact laws_zzFits2.mono _ _)
    | (with_reducible exact spec_Chained.mono _ _ _ _ _ _ _ _ _ _ _)
    | (with_reducible exact spec_Inner.mono _ _ _)
    | (with_reducible exact spec_ProofParts.mono _ _ _)
    | (with_reducible exact LeO.refl _)
    | (with_reducible exact LeO.none _)
    | (with_reducible refine LeO.ite ?_ ?_)
    | (with_reducible refine LeO.bind ?_ (fun _ => ?_))
    | exact ih0 _ _ _ _ _ _ _ _ _ _ _ _
    | exact ih1 _ _ _ _ _ _ _ _ _ _ _
    | exact ih2 _ _ _ _ _ _ _ _ _ _ _ _
    | exact ih3 _ _ _ _ _ _ _ _ _ _ _
    | exact ih4 _ _ _ _ _ _ _ _ _ _ _ _
    | exact ih5 _ _ _ _ _ _ _ _ _ _ _ _ _ _ _
    | exact ih6 _ _ _ _ _ _ _ _ _ _ _ _ _ _ _
    | exact impl_VerifyConsistency.mono _ _ _ _ _ _ _ _ _ _ _ _
    | exact laws_logSmall.mono _ _
    | exact laws_zzFits2.mono _ _
    | exact spec_Chained.mono _ _ _ _ _ _ _ _ _ _ _
    | exact spec_Inner.mono _ _ _
    | exact spec_ProofParts.mono _ _ _
    | exact LeO.none _
    | refine LeO.ite ?_ ?_
    | refine LeO.bind ?_ (fun _ => ?_)
theorem laws_FnVerifyConsistencyFar.mono : ∀ a0 a1 a2 a3 a4 a5 a6 a7 a8 a9 a10 k, LeO (laws_FnVerifyConsistencyFar.f k a0 a1 a2 a3 a4 a5 a6 a7 a8 a9 a10) (laws_FnVerifyConsistencyFar.f (k + 1) a0 a1 a2 a3 a4 a5 a6 a7 a8 a9 a10) := by
  intro a0 a1 a2 a3 a4 a5 a6 a7 a8 a9 a10 k
  obtain ⟨ih0, ih1, ih2, ih3, ih4, ih5, ih6⟩ := laws_FnVerifyConsistencyFar.mono_l k
  unfold laws_FnVerifyConsistencyFar.f
  repeat' first
      | (with_reducible exact ih0 _ _ _ _ _ _ _ _ _ _ _ _)
      | (with_reducible exact ih1 _ _ _ _ _ _ _ _ _ _ _)
      | (with_reducible exact ih2 _ _ _ _ _ _ _ _ _ _ _ _)
      | (with_reducible exact ih3 _ _ _ _ _ _ _ _ _ _ _)
      | (with_reducible exact ih4 _ _ _ _ _ _ _ _ _ _ _ _)
      | (with_reducible exact ih5 _ _ _ _ _ _ _ _ _ _ _ _ _ _ _)
      | (with_reducible exact ih6 _ _ _ _ _ _ _ _ _ _ _ _ _ _ _)
      | (with_reducible exact impl_VerifyConsistency.mono _ _ _ _ _ _ _ _ _ _ _ _)
      | (with_reducible exact laws_logSmall.mono _ _)
      | (with_reducible exact laws_zzFits2.mono _ _)
      | (with_reducible exact spec_Chained.mono _ _ _ _ _ _ _ _ _ _ _)
      | (with_reducible exact spec_Inner.mono _ _ _)
      | (with_reducible exact spec_ProofParts.mono _ _ _)
      | (with_reducible exact LeO.refl _)
      | (with_reducible exact LeO.none _)
      | (with_reducible refine LeO.ite ?_ ?_)
      | (with_reducible refine LeO.bind ?_ (fun _ => ?_))
      | exact ih0 _ _ _ _ _ _ _ _ _ _ _ _
      | exact ih1 _ _ _ _ _ _ _ _ _ _ _
      | exact ih2 _ _ _ _ _ _ _ _ _ _ _ _
      | exact ih3 _ _ _ _ _ _ _ _ _ _ _
      | exact ih4 _ _ _ _ _ _ _ _ _ _ _ _
      | exact ih5 _ _ _ _ _ _ _ _ _ _ _ _ _ _ _
      | exact ih6 _ _ _ _ _ _ _ _ _ _ _ _ _ _ _
      | exact impl_VerifyConsistency.mono _ _ _ _ _ _ _ _ _ _ _ _
      | exact laws_logSmall.mono _ _
      | exact laws_zzFits2.mono _ _
      | exact spec_Chained.mono _ _ _ _ _ _ _ _ _ _ _
      | exact spec_Inner.mono _ _ _
      | exact spec_ProofParts.mono _ _ _
      | exact LeO.none _
      | refine LeO.ite ?_ ?_
      | refine LeO.bind ?_ (fun _ => ?_)
def laws_FnVerifyConsistencyFar.T15 : Bool × List (List Nat × List Nat) := (true, [([], []), ([], []), ([], []), ([], []), ([], []), ([3, 4], [3, 4]), ([], []), ([1, 2, 5, 6], [1, 2, 5, 6]), ([], []), ([], []), ([8, 9], [8, 9]), ([0, 7, 10, 7], [0, 7, 10]), ([11, 11, 0, 1, 2, 3, 4, 5, 6, 7, 8, 9, 10, 11], [11])])
def laws_FnVerifyConsistencyFar.B15 : List Nat := [0, 0, 0, 0, 0, 24, 0, 126, 0, 0, 768, 2047, 4095]
theorem laws_FnVerifyConsistencyFar.tab15 : rtab .any (opsOf Tryd.f6 15) = laws_FnVerifyConsistencyFar.T15 := by kernel_rfl
theorem laws_FnVerifyConsistencyFar.bits15 : waitsOk laws_FnVerifyConsistencyFar.T15.2 laws_FnVerifyConsistencyFar.B15 = true := by kernel_rfl
def laws_FnVerifyConsistencyFar.T16 : Bool × List (List Nat × List Nat) := (true, [([], []), ([], []), ([], []), ([], []), ([], []), ([3, 4], [3, 4]), ([], []), ([1, 2, 5, 6], [1, 2, 5, 6]), ([], []), ([], []), ([8, 9], [8, 9]), ([0, 7, 10, 7], [0, 7, 10]), ([11, 11, 0, 1, 2, 3, 4, 5, 6, 7, 8, 9, 10, 11], [11])])
def laws_FnVerifyConsistencyFar.B16 : List Nat := [0, 0, 0, 0, 0, 24, 0, 126, 0, 0, 768, 2047, 4095]
theorem laws_FnVerifyConsistencyFar.tab16 : rtab .any (opsOf Tryd.f6 16) = laws_FnVerifyConsistencyFar.T16 := by kernel_rfl
theorem laws_FnVerifyConsistencyFar.bits16 : waitsOk laws_FnVerifyConsistencyFar.T16.2 laws_FnVerifyConsistencyFar.B16 = true := by kernel_rfl
end Go.Proofs.YtijldedhcjkhiaaDoor.X
