import Derived.Test.YtijldedhcjkhiaaDoorSTT0
import Derived.Test.YtijldedhcjkhiaaDoorSTT1
import Derived.Test.YtijldedhcjkhiaaDoorSTT2
import Derived.Test.YtijldedhcjkhiaaDoorSTT5
import Derived.Test.YtijldedhcjkhiaaDoorSTT10
import Derived.Test.YtijldedhcjkhiaaDoorSTT11
namespace Go.Proofs.YtijldedhcjkhiaaDoor.T
open Go.RowKit Go.Proofs.YtijldedhcjkhiaaDoorW.PrintWords Go.Proofs.YtijldedhcjkhiaaDoorW.PrintLast Go.Proofs.YtijldedhcjkhiaaDoorW.PrintMore
attribute [local go_sem] max2_int min2_int max_two min_two max_three min_three max_four min_four   -- for this text's walks alone
set_option linter.unusedVariables false
set_option linter.unusedSimpArgs false
mutual
def laws_FnRangeFromLast.j0 : Nat → Int → List Int → List (List Int) → Bool → Int → Int → Int → Int → Int → Int → Option (Bool)
  | 0, _, _, _, _, _, _, _, _, _, _ => none
  | k + 1, x1, x2, x3, x22, x237000, x237001, x237002, x237003, x237004, x237005 => if x22 = true then (some true) else ((laws_logSmall.f k x3).bind fun t238 => (if t238 = true then (if (x2.length : Int) = x237001 then (if (x2.length : Int) > 5000 then (laws_FnRangeFromLast.j1 k x1 x2 x3 true x237000 x237001 x237002 x237003 x237004 x237005) else (if (IntKind.u64.wrap (x1 + 1)) = 0 then (laws_FnRangeFromLast.j1 k x1 x2 x3 true x237000 x237001 x237002 x237003 x237004 x237005) else ((spec_PathParts.f k x1 (IntKind.u64.wrap (x1 + 1))).bind fun t239 => (laws_FnRangeFromLast.j1 k x1 x2 x3 ((x3.length : Int) != (t239.length : Int)) x237000 x237001 x237002 x237003 x237004 x237005)))) else (laws_FnRangeFromLast.j1 k x1 x2 x3 true x237000 x237001 x237002 x237003 x237004 x237005)) else (laws_FnRangeFromLast.j1 k x1 x2 x3 true x237000 x237001 x237002 x237003 x237004 x237005)))
def laws_FnRangeFromLast.j1 : Nat → Int → List Int → List (List Int) → Bool → Int → Int → Int → Int → Int → Int → Option (Bool)
  | 0, _, _, _, _, _, _, _, _, _, _ => none
  | k + 1, x1, x2, x3, x52, x237000, x237001, x237002, x237003, x237004, x237005 => if x52 = true then (some true) else (laws_FnRangeFromLast.l0 k x1 x2 x3 (wrap64 ((x3.length : Int) - 1)) x237000 x237001 x237002 x237003 x237004 x237005 0 x1 ([] : List (List Int)))
def laws_FnRangeFromLast.l0 : Nat → Int → List Int → List (List Int) → Int → Int → Int → Int → Int → Int → Int → Int → Int → List (List Int) → Option (Bool)
  | 0, _, _, _, _, _, _, _, _, _, _, _, _, _ => none
  | k + 1, x1, x2, x3, x10, x237000, x237001, x237002, x237003, x237004, x237005, x243000, x243001, x243002 => if x10 ≥ 0 then (if 0 ≤ x10 then (if x10 < (x3.length : Int) then (if x243002.length < 5864062014805 then (laws_FnRangeFromLast.l0 k x1 x2 x3 (wrap64 (x10 - 1)) x237000 x237001 x237002 x237003 x237004 x237005 x243000 x243001 (x243002 ++ [rd_L1 x3 x10])) else (none)) else (none)) else (none)) else ((impl_RootOfInclusion.f k x237000 x237001 x237002 x237003 x237004 x237005 x1 (IntKind.u64.wrap (x1 + 1)) x2 x3).bind fun bt247 => ((laws_growthLeaf.f x1 x2).bind fun bt251 => ((laws_growthRoot.f k x237000 x237001 x237002 x237003 x237004 x237005 (([(⟨x243000, x243001, x243002⟩ : S40), (⟨bt251.1, bt251.2.1, bt251.2.2⟩ : S40)] : List (S40)))).bind fun bt259 => (if bt247.2 = true then (if bt259.2 = true then ((impl_NewRange.f k x243000 x243001 x243002).bind fun t263 => (if t263 = true then ((spec_SameText.f bt247.1 bt259.1).bind fun t264 => (some t264)) else (none))) else (none)) else (none)))))
end
def laws_FnRangeFromLast.f (k : Nat) (a0_0 : Int) (a0_1 : Int) (a0_2 : Int) (a0_3 : Int) (a0_4 : Int) (a0_5 : Int) (a1 : Int) (l2 : List Int) (l3 : List (List Int)) : Option (Bool) := if (l2.length : Int) > 2147483647 then (laws_FnRangeFromLast.j0 k a1 l2 l3 true a0_0 a0_1 a0_2 a0_3 a0_4 a0_5) else ((laws_zzFits2.f k l3).bind fun t237 => (laws_FnRangeFromLast.j0 k a1 l2 l3 (!t237) a0_0 a0_1 a0_2 a0_3 a0_4 a0_5))
theorem laws_FnRangeFromLast.mono_l : ∀ k, (∀ y0 y1 y2 y3 y4 y5 y6 y7 y8 y9, LeO (laws_FnRangeFromLast.j0 k y0 y1 y2 y3 y4 y5 y6 y7 y8 y9) (laws_FnRangeFromLast.j0 (k + 1) y0 y1 y2 y3 y4 y5 y6 y7 y8 y9)) ∧ (∀ y0 y1 y2 y3 y4 y5 y6 y7 y8 y9, LeO (laws_FnRangeFromLast.j1 k y0 y1 y2 y3 y4 y5 y6 y7 y8 y9) (laws_FnRangeFromLast.j1 (k + 1) y0 y1 y2 y3 y4 y5 y6 y7 y8 y9)) ∧ (∀ y0 y1 y2 y3 y4 y5 y6 y7 y8 y9 y10 y11 y12, LeO (laws_FnRangeFromLast.l0 k y0 y1 y2 y3 y4 y5 y6 y7 y8 y9 y10 y11 y12) (laws_FnRangeFromLast.l0 (k + 1) y0 y1 y2 y3 y4 y5 y6 y7 y8 y9 y10 y11 y12))
  | 0 => ⟨fun _ _ _ _ _ _ _ _ _ _ r h => by simp [laws_FnRangeFromLast.j0] at h, fun _ _ _ _ _ _ _ _ _ _ r h => by simp [laws_FnRangeFromLast.j1] at h, fun _ _ _ _ _ _ _ _ _ _ _ _ _ r h => by simp [laws_FnRangeFromLast.l0] at h⟩
  | k + 1 => by
    obtain ⟨ih0, ih1, ih2⟩ := laws_FnRangeFromLast.mono_l k
    refine ⟨?_, ?_, ?_⟩
    · intro y0 y1 y2 y3 y4 y5 y6 y7 y8 y9
      unfold laws_FnRangeFromLast.j0
      repeat' first
      | (with_reducible exact ih0 _ _ _ _ _ _ _ _ _ _)
      | (with_reducible exact ih1 _ _ _ _ _ _ _ _ _ _)
      | (with_reducible exact ih2 _ _ _ _ _ _ _ _ _ _ _ _ _)
      | (with_reducible exact impl_NewRange.mono _ _ _ _)
      | (with_reducible exact impl_RootOfInclusion.mono _ _ _ _ _ _ _ _ _ _ _)
      | (with_reducible exact laws_growthRoot.mono _ _ _ _ _ _ _ _)
      | (with_reducible exact laws_logSmall.mono _ _)
      | (with_reducible exact laws_zzFits2.mono _ _)
      | (with_reducible exact spec_PathParts.mono _ _ _)
      | (with_reducible exact LeO.refl _)
      | (with_reducible exact LeO.none _)
      | (with_reducible refine LeO.ite ?_ ?_)
      | (with_reducible refine LeO.bind ?_ (fun _ => ?_))
      | exact ih0 _ _ _ _ _ _ _ _ _ _
      | exact ih1 _ _ _ _ _ _ _ _ _ _
      | exact ih2 _ _ _ _ _ _ _ _ _ _ _ _ _
      | exact impl_NewRange.mono _ _ _ _
      | exact impl_RootOfInclusion.mono _ _ _ _ _ _ _ _ _ _ _
      | exact laws_growthRoot.mono _ _ _ _ _ _ _ _
      | exact laws_logSmall.mono _ _
      | exact laws_zzFits2.mono _ _
      | exact spec_PathParts.mono _ _ _
      | exact LeO.none _
      | refine LeO.ite ?_ ?_
      | refine LeO.bind ?_ (fun _ => ?_)
    · intro y0 y1 y2 y3 y4 y5 y6 y7 y8 y9
      unfold laws_FnRangeFromLast.j1
      repeat' first
      | (with_reducible exact ih0 _ _ _ _ _ _ _ _ _ _)
      | (with_reducible exact ih1 _ _ _ _ _ _ _ _ _ _)
      | (with_reducible exact ih2 _ _ _ _ _ _ _ _ _ _ _ _ _)
      | (with_reducible exact impl_NewRange.mono _ _ _ _)
      | (with_reducible exact impl_RootOfInclusion.mono _ _ _ _ _ _ _ _ _ _ _)
      | (with_reducible exact laws_growthRoot.mono _ _ _ _ _ _ _ _)
      | (with_reducible exact laws_logSmall.mono _ _)
      | (with_reducible exact laws_zzFits2.mono _ _)
      | (with_reducible exact spec_PathParts.mono _ _ _)
      | (with_reducible exact LeO.refl _)
      | (with_reducible exact LeO.none _)
      | (with_reducible refine LeO.ite ?_ ?_)
      | (with_reducible refine LeO.bind ?_ (fun _ => ?_))
      | exact ih0 _ _ _ _ _ _ _ _ _ _
      | exact ih1 _ _ _ _ _ _ _ _ _ _
      | exact ih2 _ _ _ _ _ _ _ _ _ _ _ _ _
      | exact impl_NewRange.mono _ _ _ _
      | exact impl_RootOfInclusion.mono _ _ _ _ _ _ _ _ _ _ _
      | exact laws_growthRoot.mono _ _ _ _ _ _ _ _
      | exact laws_logSmall.mono _ _
      | exact laws_zzFits2.mono _ _
      | exact spec_PathParts.mono _ _ _
      | exact LeO.none _
      | refine LeO.ite ?_ ?_
      | refine LeO.bind ?_ (fun _ => ?_)
    · intro y0 y1 y2 y3 y4 y5 y6 y7 y8 y9 y10 y11 y12
      unfold laws_FnRangeFromLast.l0
      repeat' first
      | (with_reducible exact ih0 _ _ _ _ _ _ _ _ _ _)
      | (with_reducible exact ih1 _ _ _ _ _ _ _ _ _ _)
      | (with_reducible exact ih2 _ _ _ _ _ _ _ _ _ _ _ _ _)
      | (with_reducible exact impl_NewRange.mono _ _ _ _)
      | (with_reducible exact impl_RootOfInclusion.mono _ _ _ _ _ _ _ _ _ _ _)
      | (with_reducible exact laws_growthRoot.mono _ _ _ _ _ _ _ _)
      | (with_reducible exact laws_logSmall.mono _ _)
      | (with_reducible exact laws_zzFits2.mono _ _)
      | (with_reducible exact spec_PathParts.mono _ _ _)
      | (with_reducible exact LeO.refl _)
      | (with_reducible exact LeO.none _)
      | (with_reducible refine LeO.ite ?_ ?_)
      | (with_reducible refine LeO.bind ?_ (fun _ => ?_))
      | exact ih0 _ _ _ _ _ _ _ _ _ _
      | exact ih1 _ _ _ _ _ _ _ _ _ _
      | exact ih2 _ _ _ _ _ _ _ _ _ _ _ _ _
      | exact impl_NewRange.mono _ _ _ _
      | exact impl_RootOfInclusion.mono _ _ _ _ _ _ _ _ _ _ _
      | exact laws_growthRoot.mono _ _ _ _ _ _ _ _
      | exact laws_logSmall.mono _ _
      | exact laws_zzFits2.mono _ _
      | exact spec_PathParts.mono _ _ _
      | exact LeO.none _
      | refine LeO.ite ?_ ?_
      | refine LeO.bind ?_ (fun _ => ?_)
theorem laws_FnRangeFromLast.mono : ∀ a0 a1 a2 a3 a4 a5 a6 a7 a8 k, LeO (laws_FnRangeFromLast.f k a0 a1 a2 a3 a4 a5 a6 a7 a8) (laws_FnRangeFromLast.f (k + 1) a0 a1 a2 a3 a4 a5 a6 a7 a8) := by
  intro a0 a1 a2 a3 a4 a5 a6 a7 a8 k
  obtain ⟨ih0, ih1, ih2⟩ := laws_FnRangeFromLast.mono_l k
  unfold laws_FnRangeFromLast.f
  repeat' first
      | (with_reducible exact ih0 _ _ _ _ _ _ _ _ _ _)
      | (with_reducible exact ih1 _ _ _ _ _ _ _ _ _ _)
      | (with_reducible exact ih2 _ _ _ _ _ _ _ _ _ _ _ _ _)
      | (with_reducible exact impl_NewRange.mono _ _ _ _)
      | (with_reducible exact impl_RootOfInclusion.mono _ _ _ _ _ _ _ _ _ _ _)
      | (with_reducible exact laws_growthRoot.mono _ _ _ _ _ _ _ _)
      | (with_reducible exact laws_logSmall.mono _ _)
      | (with_reducible exact laws_zzFits2.mono _ _)
      | (with_reducible exact spec_PathParts.mono _ _ _)
      | (with_reducible exact LeO.refl _)
      | (with_reducible exact LeO.none _)
      | (with_reducible refine LeO.ite ?_ ?_)
      | (with_reducible refine LeO.bind ?_ (fun _ => ?_))
      | exact ih0 _ _ _ _ _ _ _ _ _ _
      | exact ih1 _ _ _ _ _ _ _ _ _ _
      | exact ih2 _ _ _ _ _ _ _ _ _ _ _ _ _
      | exact impl_NewRange.mono _ _ _ _
      | exact impl_RootOfInclusion.mono _ _ _ _ _ _ _ _ _ _ _
      | exact laws_growthRoot.mono _ _ _ _ _ _ _ _
      | exact laws_logSmall.mono _ _
      | exact laws_zzFits2.mono _ _
      | exact spec_PathParts.mono _ _ _
      | exact LeO.none _
      | refine LeO.ite ?_ ?_
      | refine LeO.bind ?_ (fun _ => ?_)
def laws_FnRangeFromLast.T9 : Bool × List (List Nat × List Nat) := (true, [([], []), ([0], [0]), ([], []), ([], []), ([2, 3], [2, 3]), ([4], [4]), ([5], [5]), ([1, 6], [1, 6]), ([0, 1, 2, 3, 4, 5, 6, 7], []), ([8, 7, 7, 0, 1, 2, 3, 4, 5, 6, 7], [7, 8])])
def laws_FnRangeFromLast.B9 : List Nat := [0, 1, 0, 0, 12, 28, 60, 127, 255, 511]
theorem laws_FnRangeFromLast.tab9 : rtab .any (opsOf Tryd.f11 9) = laws_FnRangeFromLast.T9 := by kernel_rfl
theorem laws_FnRangeFromLast.bits9 : waitsOk laws_FnRangeFromLast.T9.2 laws_FnRangeFromLast.B9 = true := by kernel_rfl
def laws_FnRangeFromLast.T11 : Bool × List (List Nat × List Nat) := (true, [([], []), ([], []), ([], []), ([], []), ([2, 3], [2, 3]), ([1, 4], [1, 4]), ([0, 5, 4], [0, 5]), ([6], [6]), ([7], [7]), ([7], [7]), ([8, 6, 0, 1, 2, 3, 4, 5, 6, 7, 8], [8]), ([9, 10, 0, 1, 2, 3, 4, 5, 6, 7, 8, 9, 10], [9])])
def laws_FnRangeFromLast.B11 : List Nat := [0, 0, 0, 0, 12, 30, 63, 127, 255, 255, 511, 2047]
theorem laws_FnRangeFromLast.tab11 : rtab .any (opsOf Tryd.f11 11) = laws_FnRangeFromLast.T11 := by kernel_rfl
theorem laws_FnRangeFromLast.bits11 : waitsOk laws_FnRangeFromLast.T11.2 laws_FnRangeFromLast.B11 = true := by kernel_rfl
set_option maxHeartbeats 8000000 in
set_option maxRecDepth 100000 in
theorem laws_FnRangeFromLast.calls (k : Nat) (a0_0 : Int) (a0_1 : Int) (a0_2 : Int) (a0_3 : Int) (a0_4 : Int) (a0_5 : Int) (a1 : Int) (P2_ : Nat → Prop) (A2 : Option Addr) (c2 : Nat) (l2 : List Int) (P3_ : Nat → Prop) (A3 : Option Addr) (c3 : Nat) (l3 : List (List Int)) (r : Bool) (w : World) (hGT : GlobT w) (hs2 : Kd.V (Kd.int .u8) 5 w w.heap.size (fun k_ => P2_ k_) (.slice A2 l2.length c2) l2) (hs3 : Kd.V (Kd.slice 5 (Kd.int .u8)) 42 w w.heap.size (fun k_ => P3_ k_) (.slice A3 l3.length c3) l3) (h : laws_FnRangeFromLast.f k a0_0 a0_1 a0_2 a0_3 a0_4 a0_5 a1 l2 l3 = some r) :
    Calls Tryd.prog 11 #[.agg #[.int .i64 a0_0, .int .i64 a0_1, .int .i64 a0_2, .int .u64 a0_3, .int .u64 a0_4, .int .u64 a0_5], .int .u64 a1, .slice A2 l2.length c2, .slice A3 l3.length c3] w fun e w' => e = .returned (.bool r) ∧ Below w.heap.size w w' := by
  have hu37 := Tryd.underlying37
  have hu40 := Tryd.underlying40
  have HO2 := Aside0.mk (show Kd.V (Kd.int .u8) 5 w w.heap.size (fun k_ => ((P2_ k_ ∨ P3_ k_) ∨ w.heap.size ≤ k_)) (.slice A2 l2.length c2) l2 from Kd.V_mono hs2 (fun k_ hk => .inl (.inl hk)))
  have HO3 := Aside0.mk (show Kd.V (Kd.slice 5 (Kd.int .u8)) 42 w w.heap.size (fun k_ => ((P2_ k_ ∨ P3_ k_) ∨ w.heap.size ≤ k_)) (.slice A3 l3.length c3) l3 from Kd.V_mono hs3 (fun k_ hk => .inl (.inr hk)))
  have HB := Aside0.mk (Below.refl w.heap.size w)
  have H : (if (l2.length : Int) > 2147483647 then (laws_FnRangeFromLast.j0 k a1 l2 l3 true a0_0 a0_1 a0_2 a0_3 a0_4 a0_5) else ((laws_zzFits2.f k l3).bind fun t237 => (laws_FnRangeFromLast.j0 k a1 l2 l3 (!t237) a0_0 a0_1 a0_2 a0_3 a0_4 a0_5))) = some r := h
  clear h
  have HC5 := Aside0.mk H
  clear H
  go_enter Tryd.func11, Tryd.ntmps11
  go_upto_region 1 with (first | ((with_reducible refine gate_dst (N := 4) rfl ?_); (try (refine gate_guard (by rfl) ?_; dsimp only)); refine box_event ?hg (N := 4) ?hd (cs := #[.int .i64 a0_0, .int .i64 a0_1, .int .i64 a0_2, .int .u64 a0_3, .int .u64 a0_4, .int .u64 a0_5]) (t := 37) ?hr ?_; (case hd => rfl); (case hg => rfl); (case hr => first | (go_simp; done) | (go_simp; rfl)); intro gb236 hg w6 hbox hb; have n0_ := Aside0.mk (Kd.V_below (Kd.V_elderB (by (with_reducible repeat (first | apply Kd.V_alloc | apply Kd.V_drewN | apply Kd.V_drew)); exact HO2.out) gb236 (Nat.le_of_eq hg.symm)) hb); have n1_ := Aside0.mk (Kd.V_below (Kd.V_elderB (by (with_reducible repeat (first | apply Kd.V_alloc | apply Kd.V_drewN | apply Kd.V_drew)); exact HO3.out) gb236 (Nat.le_of_eq hg.symm)) hb); have n2_ := Aside0.mk (below_step (by repeat (first | (with_reducible first | exact HB.out | apply below_alloc | apply pw_below_drewN | apply below_drew1) | exact HB.out)) hb); have n3_ := Aside0.mk (hbox); have n4_ := Aside0.mk ((by rw [hg]; exact (below_size (by repeat (first | (with_reducible first | exact HB.out | apply below_alloc | apply pw_below_drewN | apply below_drew1) | exact HB.out))) : w.heap.size ≤ gb236)); have n5_ := Aside0.mk ((by rw [hg]; exact (below_size (by repeat (first | (with_reducible first | exact HB.out | apply below_alloc | apply pw_below_drewN | apply below_drew1) | exact HB.out))) : w.heap.size ≤ gb236)); clear HO2; clear HO3; clear HB; have HO2 := n0_; have HO3 := n1_; have HB := n2_; have BK236 := n3_; have GW236 := n4_; have GE236 := n5_; clear n0_ n1_ n2_ n3_ n4_ n5_; clear hb hbox hg))
  (try simp only [Act.put, List.setIfInBounds_toArray, List.set_cons_zero, List.set_cons_succ])
  go_cut [22] (fun v22 wc => ∃ (kq : Nat) (x22_4 : Bool), v22 = .bool x22_4 ∧ Aside0 (laws_FnRangeFromLast.j0 kq a1 l2 l3 x22_4 a0_0 a0_1 a0_2 a0_3 a0_4 a0_5 = some r) ∧ Aside0 (kq ≤ k) ∧ Aside0 (Kd.V (Kd.int .u8) 5 wc w.heap.size (fun k_ => ((P2_ k_ ∨ P3_ k_) ∨ w.heap.size ≤ k_) ∧ k_ ≠ gb236) (.slice A2 l2.length c2) l2) ∧ Aside0 (Kd.V (Kd.slice 5 (Kd.int .u8)) 42 wc w.heap.size (fun k_ => ((P2_ k_ ∨ P3_ k_) ∨ w.heap.size ≤ k_) ∧ k_ ≠ gb236) (.slice A3 l3.length c3) l3) ∧ Aside0 (wc.heap[gb236]? = some (.cells #[.int .i64 a0_0, .int .i64 a0_1, .int .i64 a0_2, .int .u64 a0_3, .int .u64 a0_4, .int .u64 a0_5] 37 (0, 0))) ∧ Aside0 (Below w.heap.size w wc))
  case first =>
    have H := HC5.out
    clear HC5
    by_cases c7 : (l2.length : Int) > 2147483647
    · rw [if_pos c7] at H
      have c7b0 : decide (2147483647 < (l2.length : Int)) = true := decide_eq_true c7
      have c7b1 : decide (2147483647 < l2.length) = true := decide_eq_true (by omega)
      clear c7
      (first | rw [c7b0] | (simp only [i64_w, i32_w]; rw [c7b0]) | skip)
      have H' := Aside0.mk H
      clear H
      go_wp2
      go_meet
      case rel => exact ⟨_, (true), (by first | rfl | (simp; done) | (simp [*]; done)), H', ⟨by first | omega | exact Nat.le_refl _⟩, ⟨by (with_reducible repeat (first | apply Kd.V_alloc | apply Kd.V_drewN | apply Kd.V_drew)); exact HO2.out⟩, ⟨by (with_reducible repeat (first | apply Kd.V_alloc | apply Kd.V_drewN | apply Kd.V_drew)); exact HO3.out⟩, ⟨by (with_reducible repeat (first | refine blk_drewN ?_ _ | refine blk_drew ?_ | refine blk_alloc ?_ _)); exact BK236.out⟩, ⟨by repeat (first | (with_reducible first | exact HB.out | apply below_alloc | apply pw_below_drewN | apply below_drew1 | refine below_set ?_ GE236.out) | exact HB.out)⟩⟩
    · rw [if_neg c7] at H
      have c7b0 : decide (2147483647 < (l2.length : Int)) = false := decide_eq_false c7
      have c7b1 : decide (2147483647 < l2.length) = false := decide_eq_false (by omega)
      clear c7
      (first | rw [c7b0] | (simp only [i64_w, i32_w]; rw [c7b0]) | skip)
      replace H := Option.bind_eq_some_iff.mp H
      obtain ⟨t237, A80, H⟩ := H
      replace H : (laws_FnRangeFromLast.j0 k a1 l2 l3 (!t237) a0_0 a0_1 a0_2 a0_3 a0_4 a0_5) = some r := H
      have A8 := Aside0.mk A80
      clear A80
      have H' := Aside0.mk H
      clear H
      go_wp2_with (first | (go_at_call 27; (with_reducible refine (laws_zzFits2.calls k _ _ l3 t237 _ ?side1 ?side2 A8.out).mono ?_); (case side1 => repeat (first | exact (Kd.V_reads' HO3.out).2.2 | (with_reducible refine Kd.C_alloc ?_ _) | (with_reducible refine Kd.C_drewN ?_ _) | (with_reducible refine Kd.C_drew ?_))); (case side2 => exact (Kd.V_reads' HO3.out).2.1); rintro e w' ⟨rfl, ⟨nd, rfl⟩⟩))
      go_meet
      case rel => exact ⟨_, (!t237), (by first | rfl | (simp; done) | (simp [*]; done)), H', ⟨by first | omega | exact Nat.le_refl _⟩, ⟨by (with_reducible repeat (first | apply Kd.V_alloc | apply Kd.V_drewN | apply Kd.V_drew)); exact HO2.out⟩, ⟨by (with_reducible repeat (first | apply Kd.V_alloc | apply Kd.V_drewN | apply Kd.V_drew)); exact HO3.out⟩, ⟨by (with_reducible repeat (first | refine blk_drewN ?_ _ | refine blk_drew ?_ | refine blk_alloc ?_ _)); exact BK236.out⟩, ⟨by repeat (first | (with_reducible first | exact HB.out | apply below_alloc | apply pw_below_drewN | apply below_drew1 | refine below_set ?_ GE236.out) | exact HB.out)⟩⟩
  case rest =>
    clear HC5
    try clear c1
    try clear c2
    try clear p2
    try clear c3
    try clear c7
    try clear c7b0
    try clear c7b1
    obtain ⟨kq, x22_4, rfl, HA, HJ4, HO_2, HO_3, BK236, HB⟩ := hcut
    cases kq with
    | zero => exact absurd HA.out (by simp [laws_FnRangeFromLast.j0])
    | succ kj4 =>
      have H := HA.out
      clear HA
      simp only [laws_FnRangeFromLast.j0] at H
      by_cases c9 : x22_4 = true
      · subst c9
        have H1 : (some true) = some r := by rw [if_pos rfl] at H; exact H
        clear H
        have H := H1
        clear H1
        obtain rfl := Option.some.inj H
        go_wp2
        go_ret
        exact ⟨by first | rfl | (simp [errW_none, errW_some] <;> rfl) | (simp [*, errW_none, errW_some] <;> rfl), by repeat (first | (with_reducible first | exact HB.out | apply below_alloc | apply pw_below_drewN | apply below_drew1 | refine below_set ?_ GE236.out) | exact HB.out)⟩
      · replace c9 := Bool.eq_false_iff.mpr c9
        subst c9
        have H1 : ((laws_logSmall.f kj4 l3).bind fun t238 => (if t238 = true then (if (l2.length : Int) = a0_1 then (if (l2.length : Int) > 5000 then (laws_FnRangeFromLast.j1 kj4 a1 l2 l3 true a0_0 a0_1 a0_2 a0_3 a0_4 a0_5) else (if (IntKind.u64.wrap (a1 + 1)) = 0 then (laws_FnRangeFromLast.j1 kj4 a1 l2 l3 true a0_0 a0_1 a0_2 a0_3 a0_4 a0_5) else ((spec_PathParts.f kj4 a1 (IntKind.u64.wrap (a1 + 1))).bind fun t239 => (laws_FnRangeFromLast.j1 kj4 a1 l2 l3 ((l3.length : Int) != (t239.length : Int)) a0_0 a0_1 a0_2 a0_3 a0_4 a0_5)))) else (laws_FnRangeFromLast.j1 kj4 a1 l2 l3 true a0_0 a0_1 a0_2 a0_3 a0_4 a0_5)) else (laws_FnRangeFromLast.j1 kj4 a1 l2 l3 true a0_0 a0_1 a0_2 a0_3 a0_4 a0_5))) = some r := by rw [if_neg (show ¬ (false = true) by decide)] at H; exact H
        clear H
        have H := H1
        clear H1
        have HC10 := Aside0.mk H
        clear H
        go_upto_region 3 with (fail)
        go_cut [52] (fun v52 wc => ∃ (kq : Nat) (x52_9 : Bool), v52 = .bool x52_9 ∧ Aside0 (laws_FnRangeFromLast.j1 kq a1 l2 l3 x52_9 a0_0 a0_1 a0_2 a0_3 a0_4 a0_5 = some r) ∧ Aside0 (kq ≤ kj4) ∧ Aside0 (Kd.V (Kd.int .u8) 5 wc w.heap.size (fun k_ => ((P2_ k_ ∨ P3_ k_) ∨ w.heap.size ≤ k_) ∧ k_ ≠ gb236) (.slice A2 l2.length c2) l2) ∧ Aside0 (Kd.V (Kd.slice 5 (Kd.int .u8)) 42 wc w.heap.size (fun k_ => ((P2_ k_ ∨ P3_ k_) ∨ w.heap.size ≤ k_) ∧ k_ ≠ gb236) (.slice A3 l3.length c3) l3) ∧ Aside0 (wc.heap[gb236]? = some (.cells #[.int .i64 a0_0, .int .i64 a0_1, .int .i64 a0_2, .int .u64 a0_3, .int .u64 a0_4, .int .u64 a0_5] 37 (0, 0))) ∧ Aside0 (Below w.heap.size w wc))
        case first =>
          have H := HC10.out
          clear HC10
          replace H := Option.bind_eq_some_iff.mp H
          obtain ⟨t238, A110, H⟩ := H
          replace H : (if t238 = true then (if (l2.length : Int) = a0_1 then (if (l2.length : Int) > 5000 then (laws_FnRangeFromLast.j1 kj4 a1 l2 l3 true a0_0 a0_1 a0_2 a0_3 a0_4 a0_5) else (if (IntKind.u64.wrap (a1 + 1)) = 0 then (laws_FnRangeFromLast.j1 kj4 a1 l2 l3 true a0_0 a0_1 a0_2 a0_3 a0_4 a0_5) else ((spec_PathParts.f kj4 a1 (IntKind.u64.wrap (a1 + 1))).bind fun t239 => (laws_FnRangeFromLast.j1 kj4 a1 l2 l3 ((l3.length : Int) != (t239.length : Int)) a0_0 a0_1 a0_2 a0_3 a0_4 a0_5)))) else (laws_FnRangeFromLast.j1 kj4 a1 l2 l3 true a0_0 a0_1 a0_2 a0_3 a0_4 a0_5)) else (laws_FnRangeFromLast.j1 kj4 a1 l2 l3 true a0_0 a0_1 a0_2 a0_3 a0_4 a0_5)) = some r := H
          have A11 := Aside0.mk A110
          clear A110
          by_cases c12 : t238 = true
          · subst c12
            have H1 : (if (l2.length : Int) = a0_1 then (if (l2.length : Int) > 5000 then (laws_FnRangeFromLast.j1 kj4 a1 l2 l3 true a0_0 a0_1 a0_2 a0_3 a0_4 a0_5) else (if (IntKind.u64.wrap (a1 + 1)) = 0 then (laws_FnRangeFromLast.j1 kj4 a1 l2 l3 true a0_0 a0_1 a0_2 a0_3 a0_4 a0_5) else ((spec_PathParts.f kj4 a1 (IntKind.u64.wrap (a1 + 1))).bind fun t239 => (laws_FnRangeFromLast.j1 kj4 a1 l2 l3 ((l3.length : Int) != (t239.length : Int)) a0_0 a0_1 a0_2 a0_3 a0_4 a0_5)))) else (laws_FnRangeFromLast.j1 kj4 a1 l2 l3 true a0_0 a0_1 a0_2 a0_3 a0_4 a0_5)) = some r := by rw [if_pos rfl] at H; exact H
            clear H
            have H := H1
            clear H1
            by_cases c13 : (l2.length : Int) = a0_1
            · rw [if_pos c13] at H
              have c13b0 : ((l2.length : Int) == a0_1) = true := beq_iff_eq.mpr c13
              have c13b1 : ((l2.length : Int) != a0_1) = false := bne_eq_false_iff_eq.mpr c13
              clear c13
              (first | rw [c13b0] | (simp only [i64_w, i32_w]; rw [c13b0]) | skip)
              by_cases c14 : (l2.length : Int) > 5000
              · rw [if_pos c14] at H
                have c14b0 : decide (5000 < (l2.length : Int)) = true := decide_eq_true c14
                have c14b1 : decide (5000 < l2.length) = true := decide_eq_true (by omega)
                clear c14
                have H' := Aside0.mk H
                clear H
                go_wp2_with (first | ((with_reducible refine gate_callee (f := 28) rfl ?_); refine goesL_ (some 24) rfl rfl Tryd.func28 (by kernel_rfl) rfl #[.slice A3 l3.length c3] rfl (by (try simp only [List.map_toArray, List.map_cons, List.map_nil]); first | done | rfl | (simp only [List.length_drop, List.length_take]; rfl)) ?_; (with_reducible refine (laws_logSmall.calls kj4 _ _ l3 true _ ?side1 ?side2 A11.out).mono ?_); (case side1 => repeat (first | exact (Kd.V_reads' HO_3.out).2.2 | (with_reducible refine Kd.C_alloc ?_ _) | (with_reducible refine Kd.C_drewN ?_ _) | (with_reducible refine Kd.C_drew ?_))); (case side2 => exact (Kd.V_reads' HO_3.out).2.1); rintro e w' ⟨rfl, ⟨nd, rfl⟩⟩; refine ⟨_, rfl, ?_⟩; have hcz15_0 : wc.cell? ⟨gb236, 0, none⟩ = some (.int .i64 a0_0) := (blk_cell BK236.out 0).trans rfl; have hcz15_1 : wc.cell? ⟨gb236, 1, none⟩ = some (.int .i64 a0_1) := (blk_cell BK236.out 1).trans rfl; have hcz15_2 : wc.cell? ⟨gb236, 2, none⟩ = some (.int .i64 a0_2) := (blk_cell BK236.out 2).trans rfl; have hcz15_3 : wc.cell? ⟨gb236, 3, none⟩ = some (.int .u64 a0_3) := (blk_cell BK236.out 3).trans rfl; have hcz15_4 : wc.cell? ⟨gb236, 4, none⟩ = some (.int .u64 a0_4) := (blk_cell BK236.out 4).trans rfl; have hcz15_5 : wc.cell? ⟨gb236, 5, none⟩ = some (.int .u64 a0_5) := (blk_cell BK236.out 5).trans rfl; have hfz15_0 := blk_frozen BK236.out 0; have hfz15_1 := blk_frozen BK236.out 1; have hfz15_2 := blk_frozen BK236.out 2; have hfz15_3 := blk_frozen BK236.out 3; have hfz15_4 := blk_frozen BK236.out 4; have hfz15_5 := blk_frozen BK236.out 5))
                go_meet
                case rel => exact ⟨_, (true), (by first | rfl | (simp; done) | (simp [*]; done)), H', ⟨by have := HJ4.out; first | omega | exact Nat.le_refl _⟩, ⟨by (with_reducible repeat (first | apply Kd.V_alloc | apply Kd.V_drewN | apply Kd.V_drew)); exact HO_2.out⟩, ⟨by (with_reducible repeat (first | apply Kd.V_alloc | apply Kd.V_drewN | apply Kd.V_drew)); exact HO_3.out⟩, ⟨by (with_reducible repeat (first | refine blk_drewN ?_ _ | refine blk_drew ?_ | refine blk_alloc ?_ _)); exact BK236.out⟩, ⟨by repeat (first | (with_reducible first | exact HB.out | apply below_alloc | apply pw_below_drewN | apply below_drew1 | refine below_set ?_ GE236.out) | exact HB.out)⟩⟩
              · rw [if_neg c14] at H
                have c14b0 : decide (5000 < (l2.length : Int)) = false := decide_eq_false c14
                have c14b1 : decide (5000 < l2.length) = false := decide_eq_false (by omega)
                clear c14
                by_cases c16 : (IntKind.u64.wrap (a1 + 1)) = 0
                · rw [if_pos c16] at H
                  have c16b0 : ((IntKind.u64.wrap (a1 + 1)) == 0) = true := beq_iff_eq.mpr c16
                  have c16b1 : ((IntKind.u64.wrap (a1 + 1)) != 0) = false := bne_eq_false_iff_eq.mpr c16
                  clear c16
                  have H' := Aside0.mk H
                  clear H
                  go_wp2_with (first | ((with_reducible refine gate_callee (f := 28) rfl ?_); refine goesL_ (some 24) rfl rfl Tryd.func28 (by kernel_rfl) rfl #[.slice A3 l3.length c3] rfl (by (try simp only [List.map_toArray, List.map_cons, List.map_nil]); first | done | rfl | (simp only [List.length_drop, List.length_take]; rfl)) ?_; (with_reducible refine (laws_logSmall.calls kj4 _ _ l3 true _ ?side1 ?side2 A11.out).mono ?_); (case side1 => repeat (first | exact (Kd.V_reads' HO_3.out).2.2 | (with_reducible refine Kd.C_alloc ?_ _) | (with_reducible refine Kd.C_drewN ?_ _) | (with_reducible refine Kd.C_drew ?_))); (case side2 => exact (Kd.V_reads' HO_3.out).2.1); rintro e w' ⟨rfl, ⟨nd, rfl⟩⟩; refine ⟨_, rfl, ?_⟩; have hcz17_0 : wc.cell? ⟨gb236, 0, none⟩ = some (.int .i64 a0_0) := (blk_cell BK236.out 0).trans rfl; have hcz17_1 : wc.cell? ⟨gb236, 1, none⟩ = some (.int .i64 a0_1) := (blk_cell BK236.out 1).trans rfl; have hcz17_2 : wc.cell? ⟨gb236, 2, none⟩ = some (.int .i64 a0_2) := (blk_cell BK236.out 2).trans rfl; have hcz17_3 : wc.cell? ⟨gb236, 3, none⟩ = some (.int .u64 a0_3) := (blk_cell BK236.out 3).trans rfl; have hcz17_4 : wc.cell? ⟨gb236, 4, none⟩ = some (.int .u64 a0_4) := (blk_cell BK236.out 4).trans rfl; have hcz17_5 : wc.cell? ⟨gb236, 5, none⟩ = some (.int .u64 a0_5) := (blk_cell BK236.out 5).trans rfl; have hfz17_0 := blk_frozen BK236.out 0; have hfz17_1 := blk_frozen BK236.out 1; have hfz17_2 := blk_frozen BK236.out 2; have hfz17_3 := blk_frozen BK236.out 3; have hfz17_4 := blk_frozen BK236.out 4; have hfz17_5 := blk_frozen BK236.out 5))
                  go_meet
                  case rel => exact ⟨_, (true), (by first | rfl | (simp; done) | (simp [*]; done)), H', ⟨by have := HJ4.out; first | omega | exact Nat.le_refl _⟩, ⟨by (with_reducible repeat (first | apply Kd.V_alloc | apply Kd.V_drewN | apply Kd.V_drew)); exact HO_2.out⟩, ⟨by (with_reducible repeat (first | apply Kd.V_alloc | apply Kd.V_drewN | apply Kd.V_drew)); exact HO_3.out⟩, ⟨by (with_reducible repeat (first | refine blk_drewN ?_ _ | refine blk_drew ?_ | refine blk_alloc ?_ _)); exact BK236.out⟩, ⟨by repeat (first | (with_reducible first | exact HB.out | apply below_alloc | apply pw_below_drewN | apply below_drew1 | refine below_set ?_ GE236.out) | exact HB.out)⟩⟩
                · rw [if_neg c16] at H
                  have c16b0 : ((IntKind.u64.wrap (a1 + 1)) == 0) = false := beq_eq_false_iff_ne.mpr c16
                  have c16b1 : ((IntKind.u64.wrap (a1 + 1)) != 0) = true := bne_iff_ne.mpr c16
                  replace H := Option.bind_eq_some_iff.mp H
                  obtain ⟨t239, A180, H⟩ := H
                  replace H : (laws_FnRangeFromLast.j1 kj4 a1 l2 l3 ((l3.length : Int) != (t239.length : Int)) a0_0 a0_1 a0_2 a0_3 a0_4 a0_5) = some r := H
                  have A18 := Aside0.mk A180
                  clear A180
                  have H' := Aside0.mk H
                  clear H
                  go_wp2_with (first | ((with_reducible refine gate_callee (f := 28) rfl ?_); refine goesL_ (some 24) rfl rfl Tryd.func28 (by kernel_rfl) rfl #[.slice A3 l3.length c3] rfl (by (try simp only [List.map_toArray, List.map_cons, List.map_nil]); first | done | rfl | (simp only [List.length_drop, List.length_take]; rfl)) ?_; (with_reducible refine (laws_logSmall.calls kj4 _ _ l3 true _ ?side1 ?side2 A11.out).mono ?_); (case side1 => repeat (first | exact (Kd.V_reads' HO_3.out).2.2 | (with_reducible refine Kd.C_alloc ?_ _) | (with_reducible refine Kd.C_drewN ?_ _) | (with_reducible refine Kd.C_drew ?_))); (case side2 => exact (Kd.V_reads' HO_3.out).2.1); rintro e w' ⟨rfl, ⟨nd, rfl⟩⟩; refine ⟨_, rfl, ?_⟩; have hcz19_0 : wc.cell? ⟨gb236, 0, none⟩ = some (.int .i64 a0_0) := (blk_cell BK236.out 0).trans rfl; have hcz19_1 : wc.cell? ⟨gb236, 1, none⟩ = some (.int .i64 a0_1) := (blk_cell BK236.out 1).trans rfl; have hcz19_2 : wc.cell? ⟨gb236, 2, none⟩ = some (.int .i64 a0_2) := (blk_cell BK236.out 2).trans rfl; have hcz19_3 : wc.cell? ⟨gb236, 3, none⟩ = some (.int .u64 a0_3) := (blk_cell BK236.out 3).trans rfl; have hcz19_4 : wc.cell? ⟨gb236, 4, none⟩ = some (.int .u64 a0_4) := (blk_cell BK236.out 4).trans rfl; have hcz19_5 : wc.cell? ⟨gb236, 5, none⟩ = some (.int .u64 a0_5) := (blk_cell BK236.out 5).trans rfl; have hfz19_0 := blk_frozen BK236.out 0; have hfz19_1 := blk_frozen BK236.out 1; have hfz19_2 := blk_frozen BK236.out 2; have hfz19_3 := blk_frozen BK236.out 3; have hfz19_4 := blk_frozen BK236.out 4; have hfz19_5 := blk_frozen BK236.out 5) | (go_at_call 49; (with_reducible refine (spec_PathParts.calls kj4 a1 (IntKind.u64.wrap (a1 + 1)) t239 _ A18.out).mono ?_); rintro e w20 ⟨v240, rfl, ho0, hb⟩; have n0_ := Aside0.mk (Kd.V_elder' (by (with_reducible repeat (first | apply Kd.V_alloc | apply Kd.V_drewN | apply Kd.V_drew)); exact HO_2.out) (Kd.R_base ho0) hb); have n1_ := Aside0.mk (Kd.V_elder' (by (with_reducible repeat (first | apply Kd.V_alloc | apply Kd.V_drewN | apply Kd.V_drew)); exact HO_3.out) (Kd.R_base ho0) hb); have n2_ := Aside0.mk (Kd.R_lower (Kd.R_newM (M := fun k_ => (w.heap.size ≤ k_)) ho0 (below_size (by repeat (first | (with_reducible first | exact HB.out | apply below_alloc | apply pw_below_drewN | apply below_drew1 | refine below_set ?_ GE236.out) | exact HB.out))) (fun k_ h_ => h_)) (below_size (by repeat (first | (with_reducible first | exact HB.out | apply below_alloc | apply pw_below_drewN | apply below_drew1 | refine below_set ?_ GE236.out) | exact HB.out)))); have n3_ := Aside0.mk (blk_below (g := gb236) (o := .cells #[.int .i64 a0_0, .int .i64 a0_1, .int .i64 a0_2, .int .u64 a0_3, .int .u64 a0_4, .int .u64 a0_5] 37 (0, 0)) (by (with_reducible repeat (first | refine blk_drewN ?_ _ | refine blk_drew ?_ | refine blk_alloc ?_ _)); exact BK236.out) hb); have n4_ := Aside0.mk (below_step (by repeat (first | (with_reducible first | exact HB.out | apply below_alloc | apply pw_below_drewN | apply below_drew1 | refine below_set ?_ GE236.out) | exact HB.out)) hb); clear HO_2; clear HO_3; clear BK236; clear HB; have HO_2 := n0_; have HO_3 := n1_; have HO241 := n2_; have BK236 := n3_; have HB := n4_; clear n0_ n1_ n2_ n3_ n4_; (try clear hb); (try clear hb2); (try clear hk); (try clear hi); (try clear ho0); obtain ⟨Ao21, co21, eo21⟩ := Kd.R_slice HO241.out; subst eo21))
                  go_meet
                  case rel => exact ⟨_, (((l3.length : Int) != (t239.length : Int))), (by first | rfl | (simp; done) | (simp [*]; done)), H', ⟨by have := HJ4.out; first | omega | exact Nat.le_refl _⟩, ⟨by (with_reducible repeat (first | apply Kd.V_alloc | apply Kd.V_drewN | apply Kd.V_drew)); exact Kd.V_mono HO_2.out (fun _ hk => ⟨hk.1.1, hk.1.2⟩)⟩, ⟨by (with_reducible repeat (first | apply Kd.V_alloc | apply Kd.V_drewN | apply Kd.V_drew)); exact Kd.V_mono HO_3.out (fun _ hk => ⟨hk.1.1, hk.1.2⟩)⟩, ⟨by (with_reducible repeat (first | refine blk_drewN ?_ _ | refine blk_drew ?_ | refine blk_alloc ?_ _)); exact BK236.out⟩, ⟨by repeat (first | (with_reducible first | exact HB.out | apply below_alloc | apply pw_below_drewN | apply below_drew1 | refine below_set ?_ GE236.out) | exact HB.out)⟩⟩
            · rw [if_neg c13] at H
              have c13b0 : ((l2.length : Int) == a0_1) = false := beq_eq_false_iff_ne.mpr c13
              have c13b1 : ((l2.length : Int) != a0_1) = true := bne_iff_ne.mpr c13
              (first | rw [c13b0] | (simp only [i64_w, i32_w]; rw [c13b0]) | skip)
              have H' := Aside0.mk H
              clear H
              go_wp2_with (first | ((with_reducible refine gate_callee (f := 28) rfl ?_); refine goesL_ (some 24) rfl rfl Tryd.func28 (by kernel_rfl) rfl #[.slice A3 l3.length c3] rfl (by (try simp only [List.map_toArray, List.map_cons, List.map_nil]); first | done | rfl | (simp only [List.length_drop, List.length_take]; rfl)) ?_; (with_reducible refine (laws_logSmall.calls kj4 _ _ l3 true _ ?side1 ?side2 A11.out).mono ?_); (case side1 => repeat (first | exact (Kd.V_reads' HO_3.out).2.2 | (with_reducible refine Kd.C_alloc ?_ _) | (with_reducible refine Kd.C_drewN ?_ _) | (with_reducible refine Kd.C_drew ?_))); (case side2 => exact (Kd.V_reads' HO_3.out).2.1); rintro e w' ⟨rfl, ⟨nd, rfl⟩⟩; refine ⟨_, rfl, ?_⟩; have hcz22_0 : wc.cell? ⟨gb236, 0, none⟩ = some (.int .i64 a0_0) := (blk_cell BK236.out 0).trans rfl; have hcz22_1 : wc.cell? ⟨gb236, 1, none⟩ = some (.int .i64 a0_1) := (blk_cell BK236.out 1).trans rfl; have hcz22_2 : wc.cell? ⟨gb236, 2, none⟩ = some (.int .i64 a0_2) := (blk_cell BK236.out 2).trans rfl; have hcz22_3 : wc.cell? ⟨gb236, 3, none⟩ = some (.int .u64 a0_3) := (blk_cell BK236.out 3).trans rfl; have hcz22_4 : wc.cell? ⟨gb236, 4, none⟩ = some (.int .u64 a0_4) := (blk_cell BK236.out 4).trans rfl; have hcz22_5 : wc.cell? ⟨gb236, 5, none⟩ = some (.int .u64 a0_5) := (blk_cell BK236.out 5).trans rfl; have hfz22_0 := blk_frozen BK236.out 0; have hfz22_1 := blk_frozen BK236.out 1; have hfz22_2 := blk_frozen BK236.out 2; have hfz22_3 := blk_frozen BK236.out 3; have hfz22_4 := blk_frozen BK236.out 4; have hfz22_5 := blk_frozen BK236.out 5))
              go_meet
              case rel => exact ⟨_, (true), (by first | rfl | (simp; done) | (simp [*]; done)), H', ⟨by have := HJ4.out; first | omega | exact Nat.le_refl _⟩, ⟨by (with_reducible repeat (first | apply Kd.V_alloc | apply Kd.V_drewN | apply Kd.V_drew)); exact HO_2.out⟩, ⟨by (with_reducible repeat (first | apply Kd.V_alloc | apply Kd.V_drewN | apply Kd.V_drew)); exact HO_3.out⟩, ⟨by (with_reducible repeat (first | refine blk_drewN ?_ _ | refine blk_drew ?_ | refine blk_alloc ?_ _)); exact BK236.out⟩, ⟨by repeat (first | (with_reducible first | exact HB.out | apply below_alloc | apply pw_below_drewN | apply below_drew1 | refine below_set ?_ GE236.out) | exact HB.out)⟩⟩
          · replace c12 := Bool.eq_false_iff.mpr c12
            subst c12
            have H1 : (laws_FnRangeFromLast.j1 kj4 a1 l2 l3 true a0_0 a0_1 a0_2 a0_3 a0_4 a0_5) = some r := by rw [if_neg (show ¬ (false = true) by decide)] at H; exact H
            clear H
            have H := H1
            clear H1
            have H' := Aside0.mk H
            clear H
            go_wp2_with (first | ((with_reducible refine gate_callee (f := 28) rfl ?_); refine goesL_ (some 24) rfl rfl Tryd.func28 (by kernel_rfl) rfl #[.slice A3 l3.length c3] rfl (by (try simp only [List.map_toArray, List.map_cons, List.map_nil]); first | done | rfl | (simp only [List.length_drop, List.length_take]; rfl)) ?_; (with_reducible refine (laws_logSmall.calls kj4 _ _ l3 false _ ?side1 ?side2 A11.out).mono ?_); (case side1 => repeat (first | exact (Kd.V_reads' HO_3.out).2.2 | (with_reducible refine Kd.C_alloc ?_ _) | (with_reducible refine Kd.C_drewN ?_ _) | (with_reducible refine Kd.C_drew ?_))); (case side2 => exact (Kd.V_reads' HO_3.out).2.1); rintro e w' ⟨rfl, ⟨nd, rfl⟩⟩; refine ⟨_, rfl, ?_⟩))
            go_meet
            case rel => exact ⟨_, (true), (by first | rfl | (simp; done) | (simp [*]; done)), H', ⟨by have := HJ4.out; first | omega | exact Nat.le_refl _⟩, ⟨by (with_reducible repeat (first | apply Kd.V_alloc | apply Kd.V_drewN | apply Kd.V_drew)); exact HO_2.out⟩, ⟨by (with_reducible repeat (first | apply Kd.V_alloc | apply Kd.V_drewN | apply Kd.V_drew)); exact HO_3.out⟩, ⟨by (with_reducible repeat (first | refine blk_drewN ?_ _ | refine blk_drew ?_ | refine blk_alloc ?_ _)); exact BK236.out⟩, ⟨by repeat (first | (with_reducible first | exact HB.out | apply below_alloc | apply pw_below_drewN | apply below_drew1 | refine below_set ?_ GE236.out) | exact HB.out)⟩⟩
        case rest =>
          clear HC10
          try clear c1
          try clear c2
          try clear p2
          try clear c3
          try clear c7
          try clear c7b0
          try clear c7b1
          try clear c9
          try clear c11
          try clear c12
          try clear c13
          try clear c13b0
          try clear c13b1
          try clear c14
          try clear c14b0
          try clear c14b1
          try clear c16
          try clear c16b0
          try clear c16b1
          try clear hcz15_0
          try clear hcz15_1
          try clear hcz15_2
          try clear hcz15_3
          try clear hcz15_4
          try clear hcz15_5
          try clear hcz17_0
          try clear hcz17_1
          try clear hcz17_2
          try clear hcz17_3
          try clear hcz17_4
          try clear hcz17_5
          try clear hcz19_0
          try clear hcz19_1
          try clear hcz19_2
          try clear hcz19_3
          try clear hcz19_4
          try clear hcz19_5
          try clear hcz22_0
          try clear hcz22_1
          try clear hcz22_2
          try clear hcz22_3
          try clear hcz22_4
          try clear hcz22_5
          try clear hfz15_0
          try clear hfz15_1
          try clear hfz15_2
          try clear hfz15_3
          try clear hfz15_4
          try clear hfz15_5
          try clear hfz17_0
          try clear hfz17_1
          try clear hfz17_2
          try clear hfz17_3
          try clear hfz17_4
          try clear hfz17_5
          try clear hfz19_0
          try clear hfz19_1
          try clear hfz19_2
          try clear hfz19_3
          try clear hfz19_4
          try clear hfz19_5
          try clear hfz22_0
          try clear hfz22_1
          try clear hfz22_2
          try clear hfz22_3
          try clear hfz22_4
          try clear hfz22_5
          try clear p2
          obtain ⟨kq, x52_9, rfl, HA, HJ9, HO_2, HO_3, BK236, HB⟩ := hcut
          cases kq with
          | zero => exact absurd HA.out (by simp [laws_FnRangeFromLast.j1])
          | succ kj9 =>
            have H := HA.out
            clear HA
            simp only [laws_FnRangeFromLast.j1] at H
            by_cases c23 : x52_9 = true
            · subst c23
              have H1 : (some true) = some r := by rw [if_pos rfl] at H; exact H
              clear H
              have H := H1
              clear H1
              obtain rfl := Option.some.inj H
              go_wp2
              go_ret
              exact ⟨by first | rfl | (simp [errW_none, errW_some] <;> rfl) | (simp [*, errW_none, errW_some] <;> rfl), by repeat (first | (with_reducible first | exact HB.out | apply below_alloc | apply pw_below_drewN | apply below_drew1 | refine below_set ?_ GE236.out) | exact HB.out)⟩
            · replace c23 := Bool.eq_false_iff.mpr c23
              subst c23
              have H1 : (laws_FnRangeFromLast.l0 kj9 a1 l2 l3 (wrap64 ((l3.length : Int) - 1)) a0_0 a0_1 a0_2 a0_3 a0_4 a0_5 0 a1 ([] : List (List Int))) = some r := by rw [if_neg (show ¬ (false = true) by decide)] at H; exact H
              clear H
              have H := H1
              clear H1
              have H' := Aside0.mk H
              clear H
              go_wp2_with (first | ((with_reducible refine gate_dst (N := 9) rfl ?_); (try (refine gate_guard (by rfl) ?_; dsimp only)); refine box_event ?hg (N := 9) ?hd (cs := #[.int .u64 0, .int .u64 0, .slice none 0 0]) (t := 40) ?hr ?_; (case hd => rfl); (case hg => rfl); (case hr => first | (go_simp; done) | (go_simp; rfl)); intro gb242 hg w24 hbox hb; have n0_ := Aside0.mk (Kd.V_below (Kd.V_elderB (by (with_reducible repeat (first | apply Kd.V_alloc | apply Kd.V_drewN | apply Kd.V_drew)); exact HO_2.out) gb242 (Nat.le_of_eq hg.symm)) hb); have n1_ := Aside0.mk (Kd.V_below (Kd.V_elderB (by (with_reducible repeat (first | apply Kd.V_alloc | apply Kd.V_drewN | apply Kd.V_drew)); exact HO_3.out) gb242 (Nat.le_of_eq hg.symm)) hb); have n2_ := Aside0.mk (blk_below (g := gb236) (o := .cells #[.int .i64 a0_0, .int .i64 a0_1, .int .i64 a0_2, .int .u64 a0_3, .int .u64 a0_4, .int .u64 a0_5] 37 (0, 0)) (by (with_reducible repeat (first | refine blk_drewN ?_ _ | refine blk_drew ?_ | refine blk_alloc ?_ _)); exact BK236.out) hb); have n3_ := Aside0.mk (below_step (by repeat (first | (with_reducible first | exact HB.out | apply below_alloc | apply pw_below_drewN | apply below_drew1 | refine below_set ?_ GE236.out) | exact HB.out)) hb); have n4_ := Aside0.mk (hbox); have n5_ := Aside0.mk ((by rw [hg]; exact (below_size (by repeat (first | (with_reducible first | exact HB.out | apply below_alloc | apply pw_below_drewN | apply below_drew1 | refine below_set ?_ GE236.out) | exact HB.out))) : w.heap.size ≤ gb242)); have n6_ := Aside0.mk ((by rw [hg]; exact (below_size (by repeat (first | (with_reducible first | exact HB.out | apply below_alloc | apply pw_below_drewN | apply below_drew1 | refine below_set ?_ GE236.out) | exact HB.out))) : w.heap.size ≤ gb242)); have n7_ := Aside0.mk ((by rw [hg]; exact Nat.ne_of_lt (blk_lt (g := gb236) (o := .cells #[.int .i64 a0_0, .int .i64 a0_1, .int .i64 a0_2, .int .u64 a0_3, .int .u64 a0_4, .int .u64 a0_5] 37 (0, 0)) (by (with_reducible repeat (first | refine blk_drewN ?_ _ | refine blk_drew ?_ | refine blk_alloc ?_ _)); exact BK236.out)) : gb236 ≠ gb242)); have n8_ := Aside0.mk ((by rw [hg]; exact Nat.ne_of_gt (blk_lt (g := gb236) (o := .cells #[.int .i64 a0_0, .int .i64 a0_1, .int .i64 a0_2, .int .u64 a0_3, .int .u64 a0_4, .int .u64 a0_5] 37 (0, 0)) (by (with_reducible repeat (first | refine blk_drewN ?_ _ | refine blk_drew ?_ | refine blk_alloc ?_ _)); exact BK236.out)) : gb242 ≠ gb236)); clear HO_2; clear HO_3; clear BK236; clear HB; have HO_2 := n0_; have HO_3 := n1_; have BK236 := n2_; have HB := n3_; have BK242 := n4_; have GW242 := n5_; have GE242 := n6_; have NB236_242 := n7_; have NB242_236 := n8_; clear n0_ n1_ n2_ n3_ n4_ n5_ n6_ n7_ n8_; clear hb hbox hg; have hnb25 := NB242_236.out; have hnc25 := NB236_242.out; have hcz26_0 : w24.cell? ⟨gb242, 0, none⟩ = some (.int .u64 0) := (blk_cell BK242.out 0).trans rfl; have hcz26_1 : w24.cell? ⟨gb242, 1, none⟩ = some (.int .u64 0) := (blk_cell BK242.out 1).trans rfl; have hcz26_2 : w24.cell? ⟨gb242, 2, none⟩ = some (.slice none 0 0) := (blk_cell BK242.out 2).trans rfl; have hfz26_0 := blk_frozen BK242.out 0; have hfz26_1 := blk_frozen BK242.out 1; have hfz26_2 := blk_frozen BK242.out 2))
              try simp only [Act.put, List.setIfInBounds_toArray, List.set_cons_zero, List.set_cons_succ]
              go_loopg [10] kj9 (fun kq v10 w' => ∃ (x10_3 : Int) (x243002_3 : List (List Int)) (u243002 : Value), v10 = .int .i64 x10_3 ∧ Aside0 (laws_FnRangeFromLast.l0 kq a1 l2 l3 x10_3 a0_0 a0_1 a0_2 a0_3 a0_4 a0_5 0 a1 x243002_3 = some r) ∧ Aside0 (kq ≤ kj9) ∧ Aside0 (Kd.V (Kd.int .u8) 5 w' w.heap.size (fun k_ => ((P2_ k_ ∨ P3_ k_) ∨ w.heap.size ≤ k_) ∧ some k_ ≠ (u243002 : Value).ownBlock ∧ k_ ≠ gb236 ∧ k_ ≠ gb242) (.slice A2 l2.length c2) l2) ∧ Aside0 (Kd.V (Kd.slice 5 (Kd.int .u8)) 42 w' w.heap.size (fun k_ => ((P2_ k_ ∨ P3_ k_) ∨ w.heap.size ≤ k_) ∧ some k_ ≠ (u243002 : Value).ownBlock ∧ k_ ≠ gb236 ∧ k_ ≠ gb242) (.slice A3 l3.length c3) l3) ∧ Aside0 (Kd.N (Kd.slice 5 (Kd.int .u8)) 42 w' w.heap.size (fun k_ => ((P2_ k_ ∨ P3_ k_) ∨ w.heap.size ≤ k_) ∧ k_ ≠ gb236 ∧ k_ ≠ gb242) u243002 x243002_3) ∧ Aside0 (w'.heap[gb236]? = some (.cells #[.int .i64 a0_0, .int .i64 a0_1, .int .i64 a0_2, .int .u64 a0_3, .int .u64 a0_4, .int .u64 a0_5] 37 (0, 0))) ∧ Aside0 (w'.heap[gb242]? = some (.cells #[.int .u64 0, .int .u64 a1, u243002] 40 (0, 0))) ∧ Aside0 (Below w.heap.size w w'))
              case atStart => exact ⟨(wrap64 ((l3.length : Int) - 1)), (([] : List (List Int))), (.slice none 0 0), (by first | rfl | (simp; done) | (simp [*]; done)), H', ⟨Nat.le_refl _⟩, ⟨by (with_reducible repeat (first | apply Kd.V_alloc | apply Kd.V_drewN | apply Kd.V_drew)); exact Kd.V_mono (Kd.V_far (p := ⟨gb242, 2, none⟩) (Kd.V_far (p := ⟨gb242, 1, none⟩) (Kd.V_far (p := ⟨gb242, 0, none⟩) (Kd.V_mono HO_2.out (fun k_ hk => (⟨hk, hk.2⟩ : _ ∧ k_ ≠ gb242))) (fun _ hk => hk.2) (.int .u64 0)) (fun _ hk => hk.2) (.int .u64 a1)) (fun _ hk => hk.2) (.slice none 0 0)) (fun _ hk => ⟨hk.1.1.1, ⟨(by simp [Value.ownBlock]), ⟨hk.1.1.2, hk.1.2⟩⟩⟩)⟩, ⟨by (with_reducible repeat (first | apply Kd.V_alloc | apply Kd.V_drewN | apply Kd.V_drew)); exact Kd.V_mono (Kd.V_far (p := ⟨gb242, 2, none⟩) (Kd.V_far (p := ⟨gb242, 1, none⟩) (Kd.V_far (p := ⟨gb242, 0, none⟩) (Kd.V_mono HO_3.out (fun k_ hk => (⟨hk, hk.2⟩ : _ ∧ k_ ≠ gb242))) (fun _ hk => hk.2) (.int .u64 0)) (fun _ hk => hk.2) (.int .u64 a1)) (fun _ hk => hk.2) (.slice none 0 0)) (fun _ hk => ⟨hk.1.1.1, ⟨(by simp [Value.ownBlock]), ⟨hk.1.1.2, hk.1.2⟩⟩⟩)⟩, ⟨by first | exact Kd.S_nil _ _ _ _ _ | exact Kd.N_nil _ _ _ _ _ | exact Kd.V_nil _ _ _ _ _ | exact Kd.Q_nil _ _ _ _ _ | exact Kd.R_nil _ _ _ _ _⟩, ⟨by (with_reducible repeat (first | refine blk_drewN ?_ _ | refine blk_drew ?_ | refine blk_alloc ?_ _)); refine blk_far ?_ NB236_242.out _; (with_reducible repeat (first | refine blk_drewN ?_ _ | refine blk_drew ?_ | refine blk_alloc ?_ _)); refine blk_far ?_ NB236_242.out _; (with_reducible repeat (first | refine blk_drewN ?_ _ | refine blk_drew ?_ | refine blk_alloc ?_ _)); refine blk_far ?_ NB236_242.out _; (with_reducible repeat (first | refine blk_drewN ?_ _ | refine blk_drew ?_ | refine blk_alloc ?_ _)); exact BK236.out⟩, ⟨by (with_reducible repeat (first | refine blk_drewN ?_ _ | refine blk_drew ?_ | refine blk_alloc ?_ _)); refine blk_put (cs := #[.int .u64 0, .int .u64 a1, .slice none 0 0]) ?_ 2 _ rfl; (with_reducible repeat (first | refine blk_drewN ?_ _ | refine blk_drew ?_ | refine blk_alloc ?_ _)); refine blk_put (cs := #[.int .u64 0, .int .u64 0, .slice none 0 0]) ?_ 1 _ rfl; (with_reducible repeat (first | refine blk_drewN ?_ _ | refine blk_drew ?_ | refine blk_alloc ?_ _)); refine blk_put (cs := #[.int .u64 0, .int .u64 0, .slice none 0 0]) ?_ 0 _ rfl; (with_reducible repeat (first | refine blk_drewN ?_ _ | refine blk_drew ?_ | refine blk_alloc ?_ _)); exact BK242.out⟩, ⟨by repeat (first | (with_reducible first | exact HB.out | apply below_alloc | apply pw_below_drewN | apply below_drew1 | refine below_set ?_ GE236.out | refine below_set ?_ GE242.out) | exact HB.out)⟩⟩
              case round =>
                clear H'
                try clear c1
                try clear c2
                try clear p2
                try clear c3
                try clear p6
                try clear c7
                try clear c7b0
                try clear c7b1
                try clear c9
                try clear c11
                try clear c12
                try clear c13
                try clear c13b0
                try clear c13b1
                try clear c14
                try clear c14b0
                try clear c14b1
                try clear c16
                try clear c16b0
                try clear c16b1
                try clear c23
                try clear c25
                try clear hcz15_0
                try clear hcz15_1
                try clear hcz15_2
                try clear hcz15_3
                try clear hcz15_4
                try clear hcz15_5
                try clear hcz17_0
                try clear hcz17_1
                try clear hcz17_2
                try clear hcz17_3
                try clear hcz17_4
                try clear hcz17_5
                try clear hcz19_0
                try clear hcz19_1
                try clear hcz19_2
                try clear hcz19_3
                try clear hcz19_4
                try clear hcz19_5
                try clear hcz22_0
                try clear hcz22_1
                try clear hcz22_2
                try clear hcz22_3
                try clear hcz22_4
                try clear hcz22_5
                try clear hcz26_0
                try clear hcz26_1
                try clear hcz26_2
                try clear hfz15_0
                try clear hfz15_1
                try clear hfz15_2
                try clear hfz15_3
                try clear hfz15_4
                try clear hfz15_5
                try clear hfz17_0
                try clear hfz17_1
                try clear hfz17_2
                try clear hfz17_3
                try clear hfz17_4
                try clear hfz17_5
                try clear hfz19_0
                try clear hfz19_1
                try clear hfz19_2
                try clear hfz19_3
                try clear hfz19_4
                try clear hfz19_5
                try clear hfz22_0
                try clear hfz22_1
                try clear hfz22_2
                try clear hfz22_3
                try clear hfz22_4
                try clear hfz22_5
                try clear hfz26_0
                try clear hfz26_1
                try clear hfz26_2
                try clear p2
                obtain ⟨x10_3, x243002_3, u243002, rfl, HA, HK3, HO_2, HO_3, HO_243002, BK236, BK242, HB⟩ := hrel
                cases gk with
                | zero => exact absurd HA.out (by simp [laws_FnRangeFromLast.l0])
                | succ k3 =>
                  have H := HA.out
                  clear HA
                  simp only [laws_FnRangeFromLast.l0] at H
                  by_cases c27 : x10_3 ≥ 0
                  · rw [if_pos c27] at H
                    have c27b0 : decide (0 ≤ x10_3) = true := decide_eq_true c27
                    clear c27
                    by_cases c28 : 0 ≤ x10_3
                    · rw [if_pos c28] at H
                      have c28b0 : decide (0 ≤ x10_3) = true := decide_eq_true c28
                      clear c28
                      by_cases c29 : x10_3 < (l3.length : Int)
                      · rw [if_pos c29] at H
                        have c29b0 : decide (x10_3 < (l3.length : Int)) = true := decide_eq_true c29
                        clear c29
                        by_cases c30 : x243002_3.length < 5864062014805
                        · rw [if_pos c30] at H
                          have LMc30 := Aside0.mk c30
                          clear c30
                          obtain ⟨y244, hy244⟩ : ∃ y_ : List (List Int), y_ = (x243002_3 ++ [rd_L1 l3 x10_3]) := ⟨_, rfl⟩
                          replace H : (laws_FnRangeFromLast.l0 k3 a1 l2 l3 (wrap64 (x10_3 - 1)) a0_0 a0_1 a0_2 a0_3 a0_4 a0_5 0 a1 y244) = some r := by first | (rw [hy244]; with_reducible exact H) | (have H2_ := (Option.bind_some _ _).symm.trans H; rw [hy244]; with_reducible exact H2_) | (have H2_ := (Option.bind_some _ _).symm.trans H; with_reducible exact H2_) | with_reducible exact H | (rw [hy244]; exact H) | exact H
                          have Ny244 := Aside0.mk hy244
                          clear hy244
                          have H' := Aside0.mk H
                          clear H
                          try go_wp2
                          have n0_ := Aside0.mk (Kd.V_drew HO_2.out)
                          have n1_ := Aside0.mk (Kd.V_drew HO_3.out)
                          have n2_ := Aside0.mk (Kd.N_drew HO_243002.out)
                          have n3_ := Aside0.mk (blk_drew BK236.out)
                          have n4_ := Aside0.mk (blk_drew BK242.out)
                          have n5_ := Aside0.mk (below_drew1 HB.out)
                          clear HO_2
                          clear HO_3
                          clear HO_243002
                          clear BK236
                          clear BK242
                          clear HB
                          have HO_2 := n0_
                          have HO_3 := n1_
                          have HO_243002 := n2_
                          have BK236 := n3_
                          have BK242 := n4_
                          have HB := n5_
                          clear n0_ n1_ n2_ n3_ n4_ n5_
                          have p243 : 0 ≤ (x10_3 : Int) := of_decide_eq_true (by first | (with_reducible assumption) | assumption)
                          have q243 : x10_3 < (l3.length : Int) := of_decide_eq_true (by first | (with_reducible assumption) | assumption)
                          obtain ⟨ad243, A243_0, c243_0, e243, hx243_0, hl243_0, hi243_0⟩ := at_L1 (Kd.V_reads' HO_3.out).2.2 x10_3 p243 q243
                          cases e243
                          obtain ⟨ce243, hce243, hMe243, hcc243⟩ := Kd.V_get HO_3.out [] x10_3 p243 (by first | exact q243 | exact of_decide_eq_true (by first | (with_reducible assumption) | assumption) | (have e_ := (Kd.V_reads' HO_3.out).1; omega))
                          obtain ⟨ua243_0, uc243_0, rfl, ul243_0, ge243_0⟩ := Kd.FK_slice_open hMe243
                          have hv243_0 := hcc243 0 _ rfl
                          rw [Nat.add_zero, show ((Kd.slice 5 (Kd.int .u8))).sz = 1 from rfl, Nat.mul_one] at hv243_0
                          replace hv243_0 := Option.some.inj (hv243_0.symm.trans hx243_0)
                          injection hv243_0 with hva_ hvn_ hvc_
                          rw [hva_] at ge243_0
                          rw [hvc_] at ul243_0
                          have HL243_0 := Aside0.mk (show Kd.V (Kd.int .u8) 5 _ w.heap.size _ _ (rd_L1 l3 x10_3) from Kd.V_mk ul243_0 ge243_0)
                          clear hva_ hvn_ hvc_ ge243_0 ul243_0
                          clear hcc243 hce243
                          have HR243_0 := Aside0.mk hi243_0
                          have HC243_0 := Aside0.mk hl243_0
                          clear hi243_0 hl243_0
                          replace p243 := eq_true p243
                          replace q243 := eq_true q243
                          refine start_ (n := 10) (S := fun w' => w'.cell? ⟨gb242, 0, none⟩ = some (.int .u64 0) ∧ w'.cell? ⟨gb242, 1, none⟩ = some (.int .u64 a1) ∧ w'.cell? ⟨gb242, 2, none⟩ = some (u243002) ∧ w'.cell? (ad243.add (x10_3).toNat) = some (.slice A243_0 (rd_L1 l3 x10_3).length c243_0)) (ds := [7, 9]) #[false, false, false, false, false, false, false, false, false, false] (by kernel_rfl) rfl rfl ⟨(blk_cell BK242.out 0).trans rfl, (blk_cell BK242.out 1).trans rfl, (blk_cell BK242.out 2).trans rfl, hx243_0⟩ (fun hHeld => ?_); refine with_tabW laws_FnRangeFromLast.tab9 laws_FnRangeFromLast.bits9 (fun HT_ HW_ => ?_)
                          generalize wr.drew = w31 at HO_2 HO_3 HO_243002 BK236 BK242 HB HL243_0 HR243_0 hx243_0 hHeld ⊢
                          refine pure_ (i := 0) (N := some 62) (v := ?_) (a' := ?_) #[true, false, false, false, false, false, false, false, false, false] rfl rfl (any_of HT_.out (by kernel_rfl)) (fun _ _ _ h => h) (Or.inl ⟨by rfl, ?_⟩) ?_ ?_
                          rotate_left
                          · intro w'
                            go_simp
                            with_reducible rfl
                          rotate_left
                          · simp only [Act.put, List.setIfInBounds_toArray, List.set_cons_zero, List.set_cons_succ, i64_w, i32_w]
                            rfl
                          refine pure_ (i := 2) (N := some 64) (v := ?_) (a' := ?_) #[true, false, true, false, false, false, false, false, false, false] rfl rfl (any_of HT_.out (by kernel_rfl)) (fun _ _ _ h => h) (Or.inl ⟨by rfl, ?_⟩) ?_ ?_
                          rotate_left
                          · intro w'
                            go_simp
                            with_reducible rfl
                          rotate_left
                          · simp only [Act.put, List.setIfInBounds_toArray, List.set_cons_zero, List.set_cons_succ, i64_w, i32_w]
                            rfl
                          refine pure_ (i := 3) (N := some 65) (v := ?_) (a' := ?_) #[true, false, true, true, false, false, false, false, false, false] rfl rfl (any_of HT_.out (by kernel_rfl)) (fun _ _ _ h => h) (Or.inl ⟨by rfl, ?_⟩) ?_ ?_
                          rotate_left
                          · intro w'
                            go_simp
                            with_reducible rfl
                          rotate_left
                          · simp only [Act.put, List.setIfInBounds_toArray, List.set_cons_zero, List.set_cons_succ, i64_w, i32_w]
                            rfl
                          refine pure_ (i := 4) (N := some 66) (v := ?_) (a' := ?_) #[true, false, true, true, true, false, false, false, false, false] rfl rfl (any_of HT_.out (by kernel_rfl)) (fun _ _ _ h => h) (Or.inl ⟨by rfl, ?_⟩) ?_ ?_
                          rotate_left
                          · intro w'
                            go_simp
                            with_reducible rfl
                          rotate_left
                          · simp only [Act.put, List.setIfInBounds_toArray, List.set_cons_zero, List.set_cons_succ, i64_w, i32_w]
                            rfl
                          refine take_ (i := 1) (N := some 63) (v := ?_) (a' := ?_) #[true, true, true, true, true, false, false, false, false, false] rfl rfl (take_ofW HT_.out HW_.out (by kernel_rfl)) (fun _ _ _ h => h) (Or.inl ⟨by rfl, ?_⟩) hHeld ?_ ?_
                          rotate_left
                          · rintro w' ⟨s0, s1, s2, s3⟩
                            go_simp
                            with_reducible rfl
                          rotate_left
                          · simp only [Act.put, List.setIfInBounds_toArray, List.set_cons_zero, List.set_cons_succ, i64_w, i32_w]
                            rfl
                          refine take_ (i := 5) (N := some 67) (v := ?_) (a' := ?_) #[true, true, true, true, true, true, false, false, false, false] rfl rfl (take_ofW HT_.out HW_.out (by kernel_rfl)) (fun _ _ _ h => h) (Or.inl ⟨by rfl, ?_⟩) hHeld ?_ ?_
                          rotate_left
                          · rintro w' ⟨s0, s1, s2, s3⟩
                            go_simp
                            with_reducible rfl
                          rotate_left
                          · simp only [Act.put, List.setIfInBounds_toArray, List.set_cons_zero, List.set_cons_succ, i64_w, i32_w]
                            rfl
                          refine one_ (i := 6) (N := some 68) #[true, true, true, true, true, true, true, false, false, false] rfl rfl (one_of HT_.out (by kernel_rfl)) (by decide) (fun K hK => ?_)
                          refine value_ (w1 := ?_) (v := ?_) (by rfl) rfl ?_ ?_
                          rotate_left 2
                          · go_simp
                            constructor
                            · rfl
                            · rfl
                          refine hK.out _ _ ⟨(blk_cell (blk_alloc BK242.out _) 0).trans rfl, (blk_cell (blk_alloc BK242.out _) 1).trans rfl, (blk_cell (blk_alloc BK242.out _) 2).trans rfl, (World.cell?_alloc_lt _ _ _ (World.block_lt_of_cell? _ _ (hHeld.2.2.2))).trans (hHeld.2.2.2)⟩ (fun hHeld => ?_)
                          clear hK K
                          refine norm_ (a' := ?_) ?_ ?_
                          rotate_left
                          · show Act.put _ (some 68) _ = _
                            simp only [Act.put, List.setIfInBounds_toArray, List.set_cons_zero, List.set_cons_succ, i64_w, i32_w]
                            rfl
                          refine last_ (i := 7) (N := some 69) #[true, true, true, true, true, true, true, true, false, false] rfl rfl (one_of HT_.out (by kernel_rfl)) (by decide) (fun K hK => ?_)
                          refine Kd.N_append_step (Kd.slice 5 (Kd.int .u8)) (w0 := w) w.heap.size (by rfl) (.tmp 63) (.tmp 68) 38 42 (.slice none 0 0) 24 rfl Tryd.underlying38 info42 rfl (by decide) (by omega) u243002 x243002_3 (rd_L1 l3 x10_3) [.slice A243_0 (rd_L1 l3 x10_3).length c243_0] (fun k_ => ((P2_ k_ ∨ P3_ k_) ∨ w.heap.size ≤ k_) ∧ k_ ≠ gb236 ∧ k_ ≠ gb242) (fun k_ => ((fun k_ => ((P2_ k_ ∨ P3_ k_) ∨ w.heap.size ≤ k_) ∧ k_ ≠ gb236 ∧ k_ ≠ gb242)) k_ ∧ some k_ ≠ (u243002 : Value).ownBlock) rfl rfl ?aP (fun _ hk => hk) ?aF ?aO ?aB ?aS ?aL ?_
                          (case aP => exact (Kd.FK_slice_mk (Kd.V_reads' (Kd.V_mono (ok' := (fun k_ => ((fun k_ => ((P2_ k_ ∨ P3_ k_) ∨ w.heap.size ≤ k_) ∧ k_ ≠ gb236 ∧ k_ ≠ gb242)) k_ ∧ some k_ ≠ (u243002 : Value).ownBlock)) (HL243_0.out) (fun k_ hk => ⟨⟨hk.1, ⟨hk.2.2.1, hk.2.2.2⟩⟩, hk.2.1⟩))).2.1 (Kd.V_F (Kd.V_mono (ok' := (fun k_ => ((fun k_ => ((P2_ k_ ∨ P3_ k_) ∨ w.heap.size ≤ k_) ∧ k_ ≠ gb236 ∧ k_ ≠ gb242)) k_ ∧ some k_ ≠ (u243002 : Value).ownBlock)) (HL243_0.out) (fun k_ hk => ⟨⟨hk.1, ⟨hk.2.2.1, hk.2.2.2⟩⟩, hk.2.1⟩)))))
                          (case aB => exact (by repeat (first | (with_reducible first | exact HB.out | apply below_alloc | apply pw_below_drewN | apply below_drew1 | refine below_set ?_ GE236.out | refine below_set ?_ GE242.out) | exact HB.out)))
                          (case aF => exact (fun k_ hk => ⟨(.inr (Nat.le_trans (below_size (by repeat (first | (with_reducible first | exact HB.out | apply below_alloc | apply pw_below_drewN | apply below_drew1 | refine below_set ?_ GE236.out | refine below_set ?_ GE242.out) | exact HB.out))) hk)), Kd.freshB (g := gb236) (o := .cells #[.int .i64 a0_0, .int .i64 a0_1, .int .i64 a0_2, .int .u64 a0_3, .int .u64 a0_4, .int .u64 a0_5] 37 (0, 0)) (by (with_reducible repeat (first | refine blk_drewN ?_ _ | refine blk_drew ?_ | refine blk_alloc ?_ _)); exact BK236.out) k_ hk, Kd.freshB (g := gb242) (o := .cells #[.int .u64 0, .int .u64 a1, u243002] 40 (0, 0)) (by (with_reducible repeat (first | refine blk_drewN ?_ _ | refine blk_drew ?_ | refine blk_alloc ?_ _)); exact BK242.out) k_ hk⟩))
                          (case aO => exact (by (with_reducible repeat (first | apply Kd.N_alloc | apply Kd.N_drewN | apply Kd.N_drew)); exact HO_243002.out))
                          (case aS => exact (below_size (by repeat (first | (with_reducible first | exact HB.out | apply below_alloc | apply pw_below_drewN | apply below_drew1 | refine below_set ?_ GE236.out | refine below_set ?_ GE242.out) | exact HB.out))))
                          (case aL => have := LMc30.out; omega)
                          intro v245 w32 ho hb hg hat
                          rw [← Ny244.out] at ho
                          have n0_ := Aside0.mk (Kd.V_afterv (ok := (fun k_ => ((P2_ k_ ∨ P3_ k_) ∨ w.heap.size ≤ k_) ∧ k_ ≠ gb236 ∧ k_ ≠ gb242)) (by (with_reducible repeat (first | apply Kd.V_alloc | apply Kd.V_drewN | apply Kd.V_drew)); exact Kd.V_mono HO_2.out (fun _ hk => ⟨⟨hk.1, ⟨hk.2.2.1, hk.2.2.2⟩⟩, hk.2.1⟩)) hg hat)
                          have n1_ := Aside0.mk (Kd.V_afterv (ok := (fun k_ => ((P2_ k_ ∨ P3_ k_) ∨ w.heap.size ≤ k_) ∧ k_ ≠ gb236 ∧ k_ ≠ gb242)) (by (with_reducible repeat (first | apply Kd.V_alloc | apply Kd.V_drewN | apply Kd.V_drew)); exact Kd.V_mono HO_3.out (fun _ hk => ⟨⟨hk.1, ⟨hk.2.2.1, hk.2.2.2⟩⟩, hk.2.1⟩)) hg hat)
                          have n2_ := Aside0.mk (blk_grown (g := gb236) (o := .cells #[.int .i64 a0_0, .int .i64 a0_1, .int .i64 a0_2, .int .u64 a0_3, .int .u64 a0_4, .int .u64 a0_5] 37 (0, 0)) (by (with_reducible repeat (first | refine blk_drewN ?_ _ | refine blk_drew ?_ | refine blk_alloc ?_ _)); exact BK236.out) hg (Kd.N_ne HO_243002.out BK236.out (by decide)))
                          have n3_ := Aside0.mk (blk_grown (g := gb242) (o := .cells #[.int .u64 0, .int .u64 a1, u243002] 40 (0, 0)) (by (with_reducible repeat (first | refine blk_drewN ?_ _ | refine blk_drew ?_ | refine blk_alloc ?_ _)); exact BK242.out) hg (Kd.N_ne HO_243002.out BK242.out (by decide)))
                          have n4_ := Aside0.mk (Kd.V_afterv (ok := (fun k_ => ((P2_ k_ ∨ P3_ k_) ∨ w.heap.size ≤ k_) ∧ k_ ≠ gb236 ∧ k_ ≠ gb242)) (by (with_reducible repeat (first | apply Kd.V_alloc | apply Kd.V_drewN | apply Kd.V_drew)); exact Kd.V_mono HL243_0.out (fun _ hk => ⟨⟨hk.1, ⟨hk.2.2.1, hk.2.2.2⟩⟩, hk.2.1⟩)) hg hat)
                          have n5_ := Aside0.mk (hb)
                          have n6_ := Aside0.mk (ho)
                          clear HO_2
                          clear HO_3
                          clear BK236
                          clear BK242
                          clear HL243_0
                          clear HB
                          clear HO_243002
                          have HO_2 := n0_
                          have HO_3 := n1_
                          have BK236 := n2_
                          have BK242 := n3_
                          have HL243_0 := n4_
                          have HB := n5_
                          have HO246 := n6_
                          clear n0_ n1_ n2_ n3_ n4_ n5_ n6_
                          clear ho hb hg hat
                          obtain ⟨Ao33, co33, eo33⟩ := Kd.N_slice HO246.out
                          (first | subst eo33 | (injection eo33 with f1_ f2_ f3_; have f4_ := f1_.symm; have f5_ := f3_.symm; clear f1_ f2_ f3_; subst f4_; subst f5_))
                          refine hK.out _ _ ?_
                          clear hK K
                          refine norm_ (a' := ?_) ?_ ?_
                          rotate_left
                          · show Act.put _ (some 69) _ = _
                            simp only [Act.put, List.setIfInBounds_toArray, List.set_cons_zero, List.set_cons_succ, i64_w, i32_w]
                            rfl
                          refine pure_ (i := 8) (N := some 70) (v := ?_) (a' := ?_) #[true, true, true, true, true, true, true, true, true, false] rfl rfl (any_of HT_.out (by kernel_rfl)) (fun _ _ _ h => h) (Or.inl ⟨by rfl, ?_⟩) ?_ ?_
                          rotate_left
                          · intro w'
                            go_simp
                            with_reducible rfl
                          rotate_left
                          · simp only [Act.put, List.setIfInBounds_toArray, List.set_cons_zero, List.set_cons_succ, i64_w, i32_w]
                            rfl
                          refine last_ (i := 9) (N := none) #[true, true, true, true, true, true, true, true, true, true] rfl rfl (one_of HT_.out (by kernel_rfl)) (by decide) (fun K hK => ?_)
                          have hs34 : w32.cell? ⟨gb242, 2, none⟩ = some (u243002) := (blk_cell BK242.out 2).trans rfl
                          have hfs34 := blk_frozen BK242.out 2
                          have hns34_0 := NB236_242.out
                          have hms34_0 := NB242_236.out
                          refine skip_ (w1 := ?_) (by rfl) rfl ?_ ?_
                          rotate_left
                          · go_simp
                            rfl
                          refine hK.out _ _ ?_
                          clear hK K
                          refine done_ (done_of HT_.out (by kernel_rfl)) ?_
                          try go_wp2
                          go_roundg k3
                          case measure => have := HJ4.out; have := HJ9.out; have := HK3.out; omega
                          case rel => exact ⟨(wrap64 (x10_3 - 1)), (y244), (.slice Ao33 y244.length co33), (by first | rfl | (simp; done) | (simp [*]; done)), H', ⟨by have := HJ4.out; have := HJ9.out; have := HK3.out; omega⟩, ⟨by (with_reducible repeat (first | apply Kd.V_alloc | apply Kd.V_drewN | apply Kd.V_drew)); exact Kd.V_mono (Kd.V_far (p := ⟨gb242, 2, none⟩) (Kd.V_mono HO_2.out (fun k_ hk => (⟨hk, hk.1.2.2⟩ : _ ∧ k_ ≠ gb242))) (fun _ hk => hk.2) (.slice Ao33 y244.length co33)) (fun _ hk => ⟨hk.1.1.1, ⟨hk.1.2, ⟨hk.1.1.2.1, hk.1.1.2.2⟩⟩⟩)⟩, ⟨by (with_reducible repeat (first | apply Kd.V_alloc | apply Kd.V_drewN | apply Kd.V_drew)); exact Kd.V_mono (Kd.V_far (p := ⟨gb242, 2, none⟩) (Kd.V_mono HO_3.out (fun k_ hk => (⟨hk, hk.1.2.2⟩ : _ ∧ k_ ≠ gb242))) (fun _ hk => hk.2) (.slice Ao33 y244.length co33)) (fun _ hk => ⟨hk.1.1.1, ⟨hk.1.2, ⟨hk.1.1.2.1, hk.1.1.2.2⟩⟩⟩)⟩, ⟨by (with_reducible repeat (first | apply Kd.N_alloc | apply Kd.N_drewN | apply Kd.N_drew)); exact Kd.N_mono (Kd.N_far (p := ⟨gb242, 2, none⟩) (Kd.N_mono HO246.out (fun k_ hk => (⟨hk, hk.2.2⟩ : _ ∧ k_ ≠ gb242))) (fun _ hk => hk.2) (.slice Ao33 y244.length co33)) (fun _ hk => ⟨hk.1.1, ⟨hk.1.2.1, hk.1.2.2⟩⟩)⟩, ⟨by (with_reducible repeat (first | refine blk_drewN ?_ _ | refine blk_drew ?_ | refine blk_alloc ?_ _)); refine blk_far ?_ NB236_242.out _; (with_reducible repeat (first | refine blk_drewN ?_ _ | refine blk_drew ?_ | refine blk_alloc ?_ _)); exact BK236.out⟩, ⟨by (with_reducible repeat (first | refine blk_drewN ?_ _ | refine blk_drew ?_ | refine blk_alloc ?_ _)); refine blk_put (cs := #[.int .u64 0, .int .u64 a1, u243002]) ?_ 2 _ rfl; (with_reducible repeat (first | refine blk_drewN ?_ _ | refine blk_drew ?_ | refine blk_alloc ?_ _)); exact BK242.out⟩, ⟨by repeat (first | (with_reducible first | exact HB.out | apply below_alloc | apply pw_below_drewN | apply below_drew1 | refine below_set ?_ GE236.out | refine below_set ?_ GE242.out) | exact HB.out)⟩⟩
                        · rw [if_neg c30] at H
                          exact absurd H (by simp)
                      · rw [if_neg c29] at H
                        exact absurd H (by simp)
                    · rw [if_neg c28] at H
                      exact absurd H (by simp)
                  · rw [if_neg c27] at H
                    have c27b0 : decide (0 ≤ x10_3) = false := decide_eq_false c27
                    clear c27
                    replace H := Option.bind_eq_some_iff.mp H
                    obtain ⟨⟨t247, t250⟩, A350, H⟩ := H
                    replace H : ((laws_growthLeaf.f a1 l2).bind fun bt251 => ((laws_growthRoot.f k3 a0_0 a0_1 a0_2 a0_3 a0_4 a0_5 (([(⟨0, a1, x243002_3⟩ : S40), (⟨bt251.1, bt251.2.1, bt251.2.2⟩ : S40)] : List (S40)))).bind fun bt259 => (if t250 = true then (if bt259.2 = true then ((impl_NewRange.f k3 0 a1 x243002_3).bind fun t263 => (if t263 = true then ((spec_SameText.f t247 bt259.1).bind fun t264 => (some t264)) else (none))) else (none)) else (none)))) = some r := H
                    have A35 := Aside0.mk A350
                    clear A350
                    replace H := Option.bind_eq_some_iff.mp H
                    obtain ⟨⟨t251, t252, t253⟩, A360, H⟩ := H
                    replace H : ((laws_growthRoot.f k3 a0_0 a0_1 a0_2 a0_3 a0_4 a0_5 (([(⟨0, a1, x243002_3⟩ : S40), (⟨t251, t252, t253⟩ : S40)] : List (S40)))).bind fun bt259 => (if t250 = true then (if bt259.2 = true then ((impl_NewRange.f k3 0 a1 x243002_3).bind fun t263 => (if t263 = true then ((spec_SameText.f t247 bt259.1).bind fun t264 => (some t264)) else (none))) else (none)) else (none))) = some r := H
                    have A36 := Aside0.mk A360
                    clear A360
                    obtain ⟨y256, hy256⟩ : ∃ y_ : List (S40), y_ = (([(⟨0, a1, x243002_3⟩ : S40), (⟨t251, t252, t253⟩ : S40)] : List (S40))) := ⟨_, rfl⟩
                    replace H : ((laws_growthRoot.f k3 a0_0 a0_1 a0_2 a0_3 a0_4 a0_5 y256).bind fun bt259 => (if t250 = true then (if bt259.2 = true then ((impl_NewRange.f k3 0 a1 x243002_3).bind fun t263 => (if t263 = true then ((spec_SameText.f t247 bt259.1).bind fun t264 => (some t264)) else (none))) else (none)) else (none))) = some r := by first | (rw [hy256]; with_reducible exact H) | (have H2_ := (Option.bind_some _ _).symm.trans H; rw [hy256]; with_reducible exact H2_) | (have H2_ := (Option.bind_some _ _).symm.trans H; with_reducible exact H2_) | with_reducible exact H | (rw [hy256]; exact H) | exact H
                    have Ny256 := Aside0.mk hy256
                    clear hy256
                    replace H := Option.bind_eq_some_iff.mp H
                    obtain ⟨⟨t259, t262⟩, A370, H⟩ := H
                    replace H : (if t250 = true then (if t262 = true then ((impl_NewRange.f k3 0 a1 x243002_3).bind fun t263 => (if t263 = true then ((spec_SameText.f t247 t259).bind fun t264 => (some t264)) else (none))) else (none)) else (none)) = some r := H
                    have A37 := Aside0.mk A370
                    clear A370
                    by_cases c38 : t250 = true
                    · subst c38
                      have H1 : (if t262 = true then ((impl_NewRange.f k3 0 a1 x243002_3).bind fun t263 => (if t263 = true then ((spec_SameText.f t247 t259).bind fun t264 => (some t264)) else (none))) else (none)) = some r := by rw [if_pos rfl] at H; exact H
                      clear H
                      have H := H1
                      clear H1
                      by_cases c39 : t262 = true
                      · subst c39
                        have H1 : ((impl_NewRange.f k3 0 a1 x243002_3).bind fun t263 => (if t263 = true then ((spec_SameText.f t247 t259).bind fun t264 => (some t264)) else (none))) = some r := by rw [if_pos rfl] at H; exact H
                        clear H
                        have H := H1
                        clear H1
                        replace H := Option.bind_eq_some_iff.mp H
                        obtain ⟨t263, A400, H⟩ := H
                        replace H : (if t263 = true then ((spec_SameText.f t247 t259).bind fun t264 => (some t264)) else (none)) = some r := H
                        have A40 := Aside0.mk A400
                        clear A400
                        by_cases c41 : t263 = true
                        · subst c41
                          have H1 : ((spec_SameText.f t247 t259).bind fun t264 => (some t264)) = some r := by rw [if_pos rfl] at H; exact H
                          clear H
                          have H := H1
                          clear H1
                          replace H := Option.bind_eq_some_iff.mp H
                          obtain ⟨t264, A420, H⟩ := H
                          replace H : (some t264) = some r := H
                          have A42 := Aside0.mk A420
                          clear A420
                          obtain rfl := Option.some.inj H
                          have hnb43 := NB236_242.out
                          have hnc43 := NB242_236.out
                          have hcz44_0 : wr.cell? ⟨gb236, 0, none⟩ = some (.int .i64 a0_0) := (blk_cell BK236.out 0).trans rfl
                          have hcz44_1 : wr.cell? ⟨gb236, 1, none⟩ = some (.int .i64 a0_1) := (blk_cell BK236.out 1).trans rfl
                          have hcz44_2 : wr.cell? ⟨gb236, 2, none⟩ = some (.int .i64 a0_2) := (blk_cell BK236.out 2).trans rfl
                          have hcz44_3 : wr.cell? ⟨gb236, 3, none⟩ = some (.int .u64 a0_3) := (blk_cell BK236.out 3).trans rfl
                          have hcz44_4 : wr.cell? ⟨gb236, 4, none⟩ = some (.int .u64 a0_4) := (blk_cell BK236.out 4).trans rfl
                          have hcz44_5 : wr.cell? ⟨gb236, 5, none⟩ = some (.int .u64 a0_5) := (blk_cell BK236.out 5).trans rfl
                          have hfz44_0 := blk_frozen BK236.out 0
                          have hfz44_1 := blk_frozen BK236.out 1
                          have hfz44_2 := blk_frozen BK236.out 2
                          have hfz44_3 := blk_frozen BK236.out 3
                          have hfz44_4 := blk_frozen BK236.out 4
                          have hfz44_5 := blk_frozen BK236.out 5
                          try go_wp2_with (first | ((with_reducible refine gate_callee (f := 50) rfl ?_); refine goesL_ (some 78) rfl rfl Tryd.func50 (by kernel_rfl) rfl #[.agg #[.int .i64 a0_0, .int .i64 a0_1, .int .i64 a0_2, .int .u64 a0_3, .int .u64 a0_4, .int .u64 a0_5], .int .u64 a1, .int .u64 (IntKind.u64.wrap (a1 + 1)), .slice A2 l2.length c2, .slice A3 l3.length c3] rfl (by (try simp only [List.map_toArray, List.map_cons, List.map_nil]); first | done | rfl | (simp only [List.length_drop, List.length_take]; rfl)) ?_; (with_reducible refine (impl_RootOfInclusion.calls k3 a0_0 a0_1 a0_2 a0_3 a0_4 a0_5 a1 (IntKind.u64.wrap (a1 + 1)) _ _ l2 _ _ l3 t247 true _ ?side1 ?side2 ?side3 ?side4 A35.out).mono ?_); (case side1 => repeat (first | exact (Kd.V_reads' HO_2.out).2.2 | (with_reducible refine Kd.C_alloc ?_ _) | (with_reducible refine Kd.C_drewN ?_ _) | (with_reducible refine Kd.C_drew ?_))); (case side2 => exact (Kd.V_reads' HO_2.out).2.1); (case side3 => repeat (first | exact (Kd.V_reads' HO_3.out).2.2 | (with_reducible refine Kd.C_alloc ?_ _) | (with_reducible refine Kd.C_drewN ?_ _) | (with_reducible refine Kd.C_drew ?_))); (case side4 => exact (Kd.V_reads' HO_3.out).2.1); rintro e w45 ⟨v248, rfl, ho0, hb⟩; refine ⟨_, rfl, ?_⟩; have n0_ := Aside0.mk (Kd.V_below (by (with_reducible repeat (first | apply Kd.V_alloc | apply Kd.V_drewN | apply Kd.V_drew)); exact HO_2.out) hb); have n1_ := Aside0.mk (Kd.V_below (by (with_reducible repeat (first | apply Kd.V_alloc | apply Kd.V_drewN | apply Kd.V_drew)); exact HO_3.out) hb); have n2_ := Aside0.mk (Kd.N_below (by (with_reducible repeat (first | apply Kd.N_alloc | apply Kd.N_drewN | apply Kd.N_drew)); exact HO_243002.out) hb); have n3_ := Aside0.mk (Kd.V_lower (Kd.V_mono (ok' := fun k_ => ((P2_ k_ ∨ P3_ k_) ∨ w.heap.size ≤ k_) ∧ some k_ ≠ (u243002 : Value).ownBlock ∧ k_ ≠ gb236 ∧ k_ ≠ gb242) ho0 (fun k_ hk_ => ⟨(.inr (Nat.le_trans (below_size (by repeat (first | (with_reducible first | exact HB.out | apply below_alloc | apply pw_below_drewN | apply below_drew1 | refine below_set ?_ GE236.out | refine below_set ?_ GE242.out) | exact HB.out))) hk_)), (Kd.fresh' (Kd.N_lt (by (with_reducible repeat (first | apply Kd.N_alloc | apply Kd.N_drewN | apply Kd.N_drew)); exact HO_243002.out)) k_ hk_), (Kd.freshB (g := gb236) (o := .cells #[.int .i64 a0_0, .int .i64 a0_1, .int .i64 a0_2, .int .u64 a0_3, .int .u64 a0_4, .int .u64 a0_5] 37 (0, 0)) (by (with_reducible repeat (first | refine blk_drewN ?_ _ | refine blk_drew ?_ | refine blk_alloc ?_ _)); exact BK236.out) k_ hk_), (Kd.freshB (g := gb242) (o := .cells #[.int .u64 0, .int .u64 a1, u243002] 40 (0, 0)) (by (with_reducible repeat (first | refine blk_drewN ?_ _ | refine blk_drew ?_ | refine blk_alloc ?_ _)); exact BK242.out) k_ hk_)⟩)) (below_size (by repeat (first | (with_reducible first | exact HB.out | apply below_alloc | apply pw_below_drewN | apply below_drew1 | refine below_set ?_ GE236.out | refine below_set ?_ GE242.out) | exact HB.out)))); have n4_ := Aside0.mk (blk_below (g := gb236) (o := .cells #[.int .i64 a0_0, .int .i64 a0_1, .int .i64 a0_2, .int .u64 a0_3, .int .u64 a0_4, .int .u64 a0_5] 37 (0, 0)) (by (with_reducible repeat (first | refine blk_drewN ?_ _ | refine blk_drew ?_ | refine blk_alloc ?_ _)); exact BK236.out) hb); have n5_ := Aside0.mk (blk_below (g := gb242) (o := .cells #[.int .u64 0, .int .u64 a1, u243002] 40 (0, 0)) (by (with_reducible repeat (first | refine blk_drewN ?_ _ | refine blk_drew ?_ | refine blk_alloc ?_ _)); exact BK242.out) hb); have n6_ := Aside0.mk (below_step (by repeat (first | (with_reducible first | exact HB.out | apply below_alloc | apply pw_below_drewN | apply below_drew1 | refine below_set ?_ GE236.out | refine below_set ?_ GE242.out) | exact HB.out)) hb); clear HO_2; clear HO_3; clear HO_243002; clear BK236; clear BK242; clear HB; have HO_2 := n0_; have HO_3 := n1_; have HO_243002 := n2_; have HO249 := n3_; have BK236 := n4_; have BK242 := n5_; have HB := n6_; clear n0_ n1_ n2_ n3_ n4_ n5_ n6_; (try clear hb); (try clear hb2); (try clear hk); (try clear hi); (try clear ho0)))
                          have n0_ := Aside0.mk (Kd.V_drew HO_2.out)
                          have n1_ := Aside0.mk (Kd.V_drew HO_3.out)
                          have n2_ := Aside0.mk (Kd.N_drew HO_243002.out)
                          have n3_ := Aside0.mk (Kd.V_drew HO249.out)
                          have n4_ := Aside0.mk (blk_drew BK236.out)
                          have n5_ := Aside0.mk (blk_drew BK242.out)
                          have n6_ := Aside0.mk (below_drew1 HB.out)
                          clear HO_2
                          clear HO_3
                          clear HO_243002
                          clear HO249
                          clear BK236
                          clear BK242
                          clear HB
                          have HO_2 := n0_
                          have HO_3 := n1_
                          have HO_243002 := n2_
                          have HO249 := n3_
                          have BK236 := n4_
                          have BK242 := n5_
                          have HB := n6_
                          clear n0_ n1_ n2_ n3_ n4_ n5_ n6_
                          refine start_ (n := 12) (S := fun w' => w'.cell? ⟨gb236, 0, none⟩ = some (.int .i64 a0_0) ∧ w'.cell? ⟨gb236, 1, none⟩ = some (.int .i64 a0_1) ∧ w'.cell? ⟨gb236, 2, none⟩ = some (.int .i64 a0_2) ∧ w'.cell? ⟨gb236, 3, none⟩ = some (.int .u64 a0_3) ∧ w'.cell? ⟨gb236, 4, none⟩ = some (.int .u64 a0_4) ∧ w'.cell? ⟨gb236, 5, none⟩ = some (.int .u64 a0_5) ∧ w'.cell? ⟨gb242, 0, none⟩ = some (.int .u64 0) ∧ w'.cell? ⟨gb242, 1, none⟩ = some (.int .u64 a1) ∧ w'.cell? ⟨gb242, 2, none⟩ = some (u243002)) (ds := []) #[false, false, false, false, false, false, false, false, false, false, false, false] (by kernel_rfl) rfl rfl ⟨(blk_cell BK236.out 0).trans rfl, (blk_cell BK236.out 1).trans rfl, (blk_cell BK236.out 2).trans rfl, (blk_cell BK236.out 3).trans rfl, (blk_cell BK236.out 4).trans rfl, (blk_cell BK236.out 5).trans rfl, (blk_cell BK242.out 0).trans rfl, (blk_cell BK242.out 1).trans rfl, (blk_cell BK242.out 2).trans rfl⟩ (fun hHeld => ?_); refine with_tabW laws_FnRangeFromLast.tab11 laws_FnRangeFromLast.bits11 (fun HT_ HW_ => ?_)
                          generalize w45.drew = w46 at HO_2 HO_3 HO_243002 HO249 BK236 BK242 HB hHeld ⊢
                          refine pure_ (i := 2) (N := some 84) (v := ?_) (a' := ?_) #[false, false, true, false, false, false, false, false, false, false, false, false] rfl rfl (any_of HT_.out (by kernel_rfl)) (fun _ _ _ h => h) (Or.inl ⟨by rfl, ?_⟩) ?_ ?_
                          rotate_left
                          · intro w'
                            go_simp
                            with_reducible rfl
                          rotate_left
                          · simp only [Act.put, List.setIfInBounds_toArray, List.set_cons_zero, List.set_cons_succ, i64_w, i32_w]
                            rfl
                          refine pure_ (i := 3) (N := some 85) (v := ?_) (a' := ?_) #[false, false, true, true, false, false, false, false, false, false, false, false] rfl rfl (any_of HT_.out (by kernel_rfl)) (fun _ _ _ h => h) (Or.inl ⟨by rfl, ?_⟩) ?_ ?_
                          rotate_left
                          · intro w'
                            go_simp
                            with_reducible rfl
                          rotate_left
                          · simp only [Act.put, List.setIfInBounds_toArray, List.set_cons_zero, List.set_cons_succ, i64_w, i32_w]
                            rfl
                          refine take_ (i := 0) (N := some 82) (v := ?_) (a' := ?_) #[true, false, true, true, false, false, false, false, false, false, false, false] rfl rfl (take_ofW HT_.out HW_.out (by kernel_rfl)) (fun _ _ _ h => h) (Or.inl ⟨by rfl, ?_⟩) hHeld ?_ ?_
                          rotate_left
                          · rintro w' ⟨s0, s1, s2, s3, s4, s5, s6, s7, s8⟩
                            go_simp
                            with_reducible rfl
                          rotate_left
                          · simp only [Act.put, List.setIfInBounds_toArray, List.set_cons_zero, List.set_cons_succ, i64_w, i32_w]
                            rfl
                          refine take_ (i := 1) (N := some 83) (v := ?_) (a' := ?_) #[true, true, true, true, false, false, false, false, false, false, false, false] rfl rfl (take_ofW HT_.out HW_.out (by kernel_rfl)) (fun _ _ _ h => h) (Or.inl ⟨by rfl, ?_⟩) hHeld ?_ ?_
                          rotate_left
                          · rintro w' ⟨s0, s1, s2, s3, s4, s5, s6, s7, s8⟩
                            go_simp
                            with_reducible rfl
                          rotate_left
                          · simp only [Act.put, List.setIfInBounds_toArray, List.set_cons_zero, List.set_cons_succ, i64_w, i32_w]
                            rfl
                          refine one_ (i := 4) (N := some 86) #[true, true, true, true, true, false, false, false, false, false, false, false] rfl rfl (one_of HT_.out (by kernel_rfl)) (by decide) (fun K hK => ?_)
                          refine goes_ Tryd.func52 (by kernel_rfl) rfl #[.int .u64 a1, .slice A2 l2.length c2] (by rfl) rfl rfl (by (try simp only [List.map_toArray, List.map_cons, List.map_nil]); first | done | rfl | (simp only [List.length_drop, List.length_take]; rfl)) ?_
                          with_reducible refine (laws_growthLeaf.calls a1 (fun k_ => (((P2_ k_ ∨ P3_ k_) ∨ w.heap.size ≤ k_) ∧ (some k_ ≠ (u243002 : Value).ownBlock ∧ (k_ ≠ gb236 ∧ k_ ≠ gb242)))) _ _ l2 t251 t252 t253 _ ?side1 A36.out).mono ?_
                          (case side1 => first | exact HO_2.out | exact Kd.V_mono HO_2.out (fun k_ hk_ => ⟨⟨hk_.1, hk_.2.1⟩, hk_.2.2⟩))
                          rintro e w47 ⟨v254, rfl, ho0, hb⟩
                          refine ⟨_, rfl, ?_⟩
                          have n0_ := Aside0.mk (Kd.V_elder' (by (with_reducible repeat (first | apply Kd.V_alloc | apply Kd.V_drewN | apply Kd.V_drew)); exact HO_2.out) (Kd.N_base ho0) hb)
                          have n1_ := Aside0.mk (Kd.V_elder' (by (with_reducible repeat (first | apply Kd.V_alloc | apply Kd.V_drewN | apply Kd.V_drew)); exact HO_3.out) (Kd.N_base ho0) hb)
                          have n2_ := Aside0.mk (Kd.N_elder' (by (with_reducible repeat (first | apply Kd.N_alloc | apply Kd.N_drewN | apply Kd.N_drew)); exact HO_243002.out) (Kd.N_base ho0) hb)
                          have n3_ := Aside0.mk (Kd.V_elder' (by (with_reducible repeat (first | apply Kd.V_alloc | apply Kd.V_drewN | apply Kd.V_drew)); exact HO249.out) (Kd.N_base ho0) hb)
                          have n4_ := Aside0.mk (Kd.N_lower (Kd.N_mono (ok' := fun k_ => ((P2_ k_ ∨ P3_ k_) ∨ w.heap.size ≤ k_) ∧ some k_ ≠ (u243002 : Value).ownBlock ∧ k_ ≠ gb236 ∧ k_ ≠ gb242) ho0 (fun k_ hk_ => ⟨Or.elim hk_ (fun hs_ => hs_.1) (fun hn_ => (.inr (Nat.le_trans (below_size (by repeat (first | (with_reducible first | exact HB.out | apply below_alloc | apply pw_below_drewN | apply below_drew1 | refine below_set ?_ GE236.out | refine below_set ?_ GE242.out) | exact HB.out))) hn_))), Or.elim hk_ (fun hs_ => hs_.2.1) (fun hn_ => (Kd.fresh' (Kd.N_lt (by (with_reducible repeat (first | apply Kd.N_alloc | apply Kd.N_drewN | apply Kd.N_drew)); exact HO_243002.out)) k_ hn_)), Or.elim hk_ (fun hs_ => hs_.2.2.1) (fun hn_ => (Kd.freshB (g := gb236) (o := .cells #[.int .i64 a0_0, .int .i64 a0_1, .int .i64 a0_2, .int .u64 a0_3, .int .u64 a0_4, .int .u64 a0_5] 37 (0, 0)) (by (with_reducible repeat (first | refine blk_drewN ?_ _ | refine blk_drew ?_ | refine blk_alloc ?_ _)); exact BK236.out) k_ hn_)), Or.elim hk_ (fun hs_ => hs_.2.2.2) (fun hn_ => (Kd.freshB (g := gb242) (o := .cells #[.int .u64 0, .int .u64 a1, u243002] 40 (0, 0)) (by (with_reducible repeat (first | refine blk_drewN ?_ _ | refine blk_drew ?_ | refine blk_alloc ?_ _)); exact BK242.out) k_ hn_))⟩)) (below_size (by repeat (first | (with_reducible first | exact HB.out | apply below_alloc | apply pw_below_drewN | apply below_drew1 | refine below_set ?_ GE236.out | refine below_set ?_ GE242.out) | exact HB.out))))
                          have n5_ := Aside0.mk (blk_below (g := gb236) (o := .cells #[.int .i64 a0_0, .int .i64 a0_1, .int .i64 a0_2, .int .u64 a0_3, .int .u64 a0_4, .int .u64 a0_5] 37 (0, 0)) (by (with_reducible repeat (first | refine blk_drewN ?_ _ | refine blk_drew ?_ | refine blk_alloc ?_ _)); exact BK236.out) hb)
                          have n6_ := Aside0.mk (blk_below (g := gb242) (o := .cells #[.int .u64 0, .int .u64 a1, u243002] 40 (0, 0)) (by (with_reducible repeat (first | refine blk_drewN ?_ _ | refine blk_drew ?_ | refine blk_alloc ?_ _)); exact BK242.out) hb)
                          have n7_ := Aside0.mk (below_step (by repeat (first | (with_reducible first | exact HB.out | apply below_alloc | apply pw_below_drewN | apply below_drew1 | refine below_set ?_ GE236.out | refine below_set ?_ GE242.out) | exact HB.out)) hb)
                          clear HO_2
                          clear HO_3
                          clear HO_243002
                          clear HO249
                          clear BK236
                          clear BK242
                          clear HB
                          have HO_2 := n0_
                          have HO_3 := n1_
                          have HO_243002 := n2_
                          have HO249 := n3_
                          have HO255 := n4_
                          have BK236 := n5_
                          have BK242 := n6_
                          have HB := n7_
                          clear n0_ n1_ n2_ n3_ n4_ n5_ n6_ n7_
                          (try clear hb)
                          (try clear hb2)
                          (try clear hk)
                          (try clear hi)
                          (try clear ho0)
                          obtain ⟨Ao48, co48, eo48⟩ := Kd.N_slice HO_243002.out
                          (first | subst eo48 | (injection eo48 with f1_ f2_ f3_; have f4_ := f1_.symm; have f5_ := f3_.symm; clear f1_ f2_ f3_; subst f4_; subst f5_))
                          obtain ⟨Ao49, co49, eo49⟩ := Kd.N_slice HO255.out
                          (first | subst eo49 | (injection eo49 with f1_ f2_ f3_; have f4_ := f1_.symm; have f5_ := f3_.symm; clear f1_ f2_ f3_; subst f4_; subst f5_))
                          refine hK.out _ _ ⟨(blk_cell BK236.out 0).trans rfl, (blk_cell BK236.out 1).trans rfl, (blk_cell BK236.out 2).trans rfl, (blk_cell BK236.out 3).trans rfl, (blk_cell BK236.out 4).trans rfl, (blk_cell BK236.out 5).trans rfl, (blk_cell BK242.out 0).trans rfl, (blk_cell BK242.out 1).trans rfl, (blk_cell BK242.out 2).trans rfl⟩ (fun hHeld => ?_)
                          clear hK K
                          refine norm_ (a' := ?_) ?_ ?_
                          rotate_left
                          · show Act.put _ (some 86) _ = _
                            simp only [Act.put, List.setIfInBounds_toArray, List.set_cons_zero, List.set_cons_succ, i64_w, i32_w]
                            rfl
                          refine one_ (i := 5) (N := some 87) #[true, true, true, true, true, true, false, false, false, false, false, false] rfl rfl (one_of HT_.out (by kernel_rfl)) (by decide) (fun K hK => ?_)
                          refine Kd.N_lit_step k40 _ 40 ?hg (N' := 87) ?hd (xs := ([(⟨0, a1, x243002_3⟩ : S40), (⟨t251, t252, t253⟩ : S40)] : List (S40))) (inner := [.int .u64 0, .int .u64 a1, .slice Ao48 x243002_3.length co48, .int .u64 t251, .int .u64 t252, .slice Ao49 t253.length co49]) (ok := (fun k_ => ((P2_ k_ ∨ P3_ k_) ∨ w.heap.size ≤ k_) ∧ k_ ≠ gb236 ∧ k_ ≠ gb242)) (okp := (fun k_ => ((P2_ k_ ∨ P3_ k_) ∨ w.heap.size ≤ k_) ∧ k_ ≠ gb236 ∧ k_ ≠ gb242)) ?hr ?hp (fun _ hk => hk) ((show ∀ k_, w47.heap.size ≤ k_ → (fun k_ => ((P2_ k_ ∨ P3_ k_) ∨ w.heap.size ≤ k_) ∧ k_ ≠ gb236 ∧ k_ ≠ gb242) k_ from fun k_ hk => ⟨(.inr (Nat.le_trans (below_size (by repeat (first | (with_reducible first | exact HB.out | apply below_alloc | apply pw_below_drewN | apply below_drew1 | refine below_set ?_ GE236.out | refine below_set ?_ GE242.out) | exact HB.out))) hk)), Kd.freshB (g := gb236) (o := .cells #[.int .i64 a0_0, .int .i64 a0_1, .int .i64 a0_2, .int .u64 a0_3, .int .u64 a0_4, .int .u64 a0_5] 37 (0, 0)) (by (with_reducible repeat (first | refine blk_drewN ?_ _ | refine blk_drew ?_ | refine blk_alloc ?_ _)); exact BK236.out) k_ hk, Kd.freshB (g := gb242) (o := .cells #[.int .u64 0, .int .u64 a1, .slice Ao48 x243002_3.length co48] 40 (0, 0)) (by (with_reducible repeat (first | refine blk_drewN ?_ _ | refine blk_drew ?_ | refine blk_alloc ?_ _)); exact BK242.out) k_ hk⟩) _ (Nat.le_refl _)) (Below.refl _ _) (Nat.le_refl _) (by simp) ?_; (case hd => rfl); (case hg => rfl); (case hr => first | (go_simp; done) | (go_simp; rfl)); (case hp => exact (Reps.c3 (show Kd.FK k40 _ _ (⟨0, a1, x243002_3⟩ : S40) [.int .u64 0, .int .u64 a1, .slice Ao48 x243002_3.length co48] from (k40_mkF _ _ (⟨0, a1, x243002_3⟩ : S40) (Kd.N_reads' (Kd.N_mono (ok' := (fun k_ => ((P2_ k_ ∨ P3_ k_) ∨ w.heap.size ≤ k_) ∧ k_ ≠ gb236 ∧ k_ ≠ gb242)) (HO_243002.out) (fun k_ hk => ⟨hk.1.1, ⟨hk.1.2.1, hk.1.2.2⟩⟩))).2.1 (Kd.N_F (Kd.N_mono (ok' := (fun k_ => ((P2_ k_ ∨ P3_ k_) ∨ w.heap.size ≤ k_) ∧ k_ ≠ gb236 ∧ k_ ≠ gb242)) (HO_243002.out) (fun k_ hk => ⟨hk.1.1, ⟨hk.1.2.1, hk.1.2.2⟩⟩))))) (Reps.c3 (show Kd.FK k40 _ _ (⟨t251, t252, t253⟩ : S40) [.int .u64 t251, .int .u64 t252, .slice Ao49 t253.length co49] from (k40_mkF _ _ (⟨t251, t252, t253⟩ : S40) (Kd.N_reads' (Kd.N_mono (ok' := (fun k_ => ((P2_ k_ ∨ P3_ k_) ∨ w.heap.size ≤ k_) ∧ k_ ≠ gb236 ∧ k_ ≠ gb242)) (HO255.out) (fun k_ hk => ⟨hk.1, ⟨hk.2.2.1, hk.2.2.2⟩⟩))).2.1 (Kd.N_F (Kd.N_mono (ok' := (fun k_ => ((P2_ k_ ∨ P3_ k_) ∨ w.heap.size ≤ k_) ∧ k_ ≠ gb236 ∧ k_ ≠ gb242)) (HO255.out) (fun k_ hk => ⟨hk.1, ⟨hk.2.2.1, hk.2.2.2⟩⟩))))) (Reps.none _ _))))
                          intro v257 w50 ho51 hb hg_ hnew_
                          clear hg_ hnew_
                          (first | rw [← Ny256.out] at ho51 | (simp only [Int.reduceToNat] at ho51; rw [← Ny256.out] at ho51))
                          have n0_ := Aside0.mk (Kd.V_elder' (by (with_reducible repeat (first | apply Kd.V_alloc | apply Kd.V_drewN | apply Kd.V_drew)); exact HO_2.out) (Kd.N_base ho51) hb)
                          have n1_ := Aside0.mk (Kd.V_elder' (by (with_reducible repeat (first | apply Kd.V_alloc | apply Kd.V_drewN | apply Kd.V_drew)); exact HO_3.out) (Kd.N_base ho51) hb)
                          have n2_ := Aside0.mk (Kd.V_elder' (by (with_reducible repeat (first | apply Kd.V_alloc | apply Kd.V_drewN | apply Kd.V_drew)); exact HO249.out) (Kd.N_base ho51) hb)
                          have n3_ := Aside0.mk (Kd.N_lower ho51 (below_size (by repeat (first | (with_reducible first | exact HB.out | apply below_alloc | apply pw_below_drewN | apply below_drew1 | refine below_set ?_ GE236.out | refine below_set ?_ GE242.out) | exact HB.out))))
                          have n4_ := Aside0.mk (blk_below (g := gb236) (o := .cells #[.int .i64 a0_0, .int .i64 a0_1, .int .i64 a0_2, .int .u64 a0_3, .int .u64 a0_4, .int .u64 a0_5] 37 (0, 0)) (by (with_reducible repeat (first | refine blk_drewN ?_ _ | refine blk_drew ?_ | refine blk_alloc ?_ _)); exact BK236.out) hb)
                          have n5_ := Aside0.mk (blk_below (g := gb242) (o := .cells #[.int .u64 0, .int .u64 a1, .slice Ao48 x243002_3.length co48] 40 (0, 0)) (by (with_reducible repeat (first | refine blk_drewN ?_ _ | refine blk_drew ?_ | refine blk_alloc ?_ _)); exact BK242.out) hb)
                          have n6_ := Aside0.mk (below_step (by repeat (first | (with_reducible first | exact HB.out | apply below_alloc | apply pw_below_drewN | apply below_drew1 | refine below_set ?_ GE236.out | refine below_set ?_ GE242.out) | exact HB.out)) hb)
                          clear HO_2
                          clear HO_3
                          clear HO249
                          clear BK236
                          clear BK242
                          clear HB
                          clear HO255
                          have HOCL := Aside0.mk (Kd.N_reads' HO_243002.out).2.1
                          have HOC := Aside0.mk (Kd.C_below (Kd.N_reads' HO_243002.out).2.2 hb)
                          clear HO_243002
                          have HO_2 := n0_
                          have HO_3 := n1_
                          have HO249 := n2_
                          have HO258 := n3_
                          have BK236 := n4_
                          have BK242 := n5_
                          have HB := n6_
                          clear n0_ n1_ n2_ n3_ n4_ n5_ n6_
                          clear hb ho51
                          obtain ⟨Ao52, co52, eo52⟩ := Kd.N_slice HO258.out
                          (first | subst eo52 | (injection eo52 with f1_ f2_ f3_; have f4_ := f1_.symm; have f5_ := f3_.symm; clear f1_ f2_ f3_; subst f4_; subst f5_))
                          refine hK.out _ _ ⟨(blk_cell BK236.out 0).trans rfl, (blk_cell BK236.out 1).trans rfl, (blk_cell BK236.out 2).trans rfl, (blk_cell BK236.out 3).trans rfl, (blk_cell BK236.out 4).trans rfl, (blk_cell BK236.out 5).trans rfl, (blk_cell BK242.out 0).trans rfl, (blk_cell BK242.out 1).trans rfl, (blk_cell BK242.out 2).trans rfl⟩ (fun hHeld => ?_)
                          clear hK K
                          refine norm_ (a' := ?_) ?_ ?_
                          rotate_left
                          · show Act.put _ (some 87) _ = _
                            simp only [Act.put, List.setIfInBounds_toArray, List.set_cons_zero, List.set_cons_succ, i64_w, i32_w]
                            rfl
                          refine one_ (i := 6) (N := some 88) #[true, true, true, true, true, true, true, false, false, false, false, false] rfl rfl (one_of HT_.out (by kernel_rfl)) (by decide) (fun K hK => ?_)
                          refine goes_ Tryd.func51 (by kernel_rfl) rfl #[.agg #[.int .i64 a0_0, .int .i64 a0_1, .int .i64 a0_2, .int .u64 a0_3, .int .u64 a0_4, .int .u64 a0_5], .slice Ao52 y256.length co52] (by rfl) rfl rfl (by (try simp only [List.map_toArray, List.map_cons, List.map_nil]); first | done | rfl | (simp only [List.length_drop, List.length_take]; rfl)) ?_
                          with_reducible refine (laws_growthRoot.calls k3 a0_0 a0_1 a0_2 a0_3 a0_4 a0_5 _ _ y256 t259 true _ ?side3 ?side1 ?side2 A37.out).mono ?_
                          (case side1 => repeat (first | exact (Kd.N_reads' HO258.out).2.2 | (with_reducible refine Kd.C_alloc ?_ _) | (with_reducible refine Kd.C_drewN ?_ _) | (with_reducible refine Kd.C_drew ?_)))
                          (case side2 => exact (Kd.N_reads' HO258.out).2.1)
                          (case side3 => exact GlobT.below hGT (by repeat (first | (with_reducible first | exact HB.out | apply below_alloc | apply pw_below_drewN | apply below_drew1 | refine below_set ?_ GE236.out | refine below_set ?_ GE242.out) | exact HB.out)))
                          rintro e w53 ⟨v260, rfl, ho0, hb⟩
                          refine ⟨_, rfl, ?_⟩
                          have n0_ := Aside0.mk (Kd.V_elder' (by (with_reducible repeat (first | apply Kd.V_alloc | apply Kd.V_drewN | apply Kd.V_drew)); exact HO_2.out) (Kd.R_base ho0) hb)
                          have n1_ := Aside0.mk (Kd.V_elder' (by (with_reducible repeat (first | apply Kd.V_alloc | apply Kd.V_drewN | apply Kd.V_drew)); exact HO_3.out) (Kd.R_base ho0) hb)
                          have n2_ := Aside0.mk (Kd.V_elder' (by (with_reducible repeat (first | apply Kd.V_alloc | apply Kd.V_drewN | apply Kd.V_drew)); exact HO249.out) (Kd.R_base ho0) hb)
                          have n3_ := Aside0.mk (Kd.N_elder' (by (with_reducible repeat (first | apply Kd.N_alloc | apply Kd.N_drewN | apply Kd.N_drew)); exact HO258.out) (Kd.R_base ho0) hb)
                          have n4_ := Aside0.mk (Kd.R_lower (Kd.R_newM (M := fun k_ => (w.heap.size ≤ k_)) ho0 (below_size (by repeat (first | (with_reducible first | exact HB.out | apply below_alloc | apply pw_below_drewN | apply below_drew1 | refine below_set ?_ GE236.out | refine below_set ?_ GE242.out) | exact HB.out))) (fun k_ h_ => h_)) (below_size (by repeat (first | (with_reducible first | exact HB.out | apply below_alloc | apply pw_below_drewN | apply below_drew1 | refine below_set ?_ GE236.out | refine below_set ?_ GE242.out) | exact HB.out))))
                          have n5_ := Aside0.mk (blk_below (g := gb236) (o := .cells #[.int .i64 a0_0, .int .i64 a0_1, .int .i64 a0_2, .int .u64 a0_3, .int .u64 a0_4, .int .u64 a0_5] 37 (0, 0)) (by (with_reducible repeat (first | refine blk_drewN ?_ _ | refine blk_drew ?_ | refine blk_alloc ?_ _)); exact BK236.out) hb)
                          have n6_ := Aside0.mk (blk_below (g := gb242) (o := .cells #[.int .u64 0, .int .u64 a1, .slice Ao48 x243002_3.length co48] 40 (0, 0)) (by (with_reducible repeat (first | refine blk_drewN ?_ _ | refine blk_drew ?_ | refine blk_alloc ?_ _)); exact BK242.out) hb)
                          have n7_ := Aside0.mk (below_step (by repeat (first | (with_reducible first | exact HB.out | apply below_alloc | apply pw_below_drewN | apply below_drew1 | refine below_set ?_ GE236.out | refine below_set ?_ GE242.out) | exact HB.out)) hb)
                          clear HO_2
                          clear HO_3
                          clear HO249
                          clear HO258
                          clear BK236
                          clear BK242
                          clear HB
                          have HO_2 := n0_
                          have HO_3 := n1_
                          have HO249 := n2_
                          have HO258 := n3_
                          have HO261 := n4_
                          have BK236 := n5_
                          have BK242 := n6_
                          have HB := n7_
                          clear n0_ n1_ n2_ n3_ n4_ n5_ n6_ n7_
                          have HOC1 := Aside0.mk (Kd.C_below HOC.out hb)
                          clear HOC
                          have HOC := HOC1
                          clear HOC1
                          (try clear hb)
                          (try clear hb2)
                          (try clear hk)
                          (try clear hi)
                          (try clear ho0)
                          refine hK.out _ _ ⟨(blk_cell BK236.out 0).trans rfl, (blk_cell BK236.out 1).trans rfl, (blk_cell BK236.out 2).trans rfl, (blk_cell BK236.out 3).trans rfl, (blk_cell BK236.out 4).trans rfl, (blk_cell BK236.out 5).trans rfl, (blk_cell BK242.out 0).trans rfl, (blk_cell BK242.out 1).trans rfl, (blk_cell BK242.out 2).trans rfl⟩ (fun hHeld => ?_)
                          clear hK K
                          refine norm_ (a' := ?_) ?_ ?_
                          rotate_left
                          · show Act.put _ (some 88) _ = _
                            simp only [Act.put, List.setIfInBounds_toArray, List.set_cons_zero, List.set_cons_succ, i64_w, i32_w]
                            rfl
                          refine pure_ (i := 7) (N := some 81) (v := ?_) (a' := ?_) #[true, true, true, true, true, true, true, true, false, false, false, false] rfl rfl (any_of HT_.out (by kernel_rfl)) (fun _ _ _ h => h) (Or.inl ⟨by rfl, ?_⟩) ?_ ?_
                          rotate_left
                          · intro w'
                            go_simp
                            with_reducible rfl
                          rotate_left
                          · simp only [Act.put, List.setIfInBounds_toArray, List.set_cons_zero, List.set_cons_succ, i64_w, i32_w]
                            rfl
                          refine pure_ (i := 8) (N := some 89) (v := ?_) (a' := ?_) #[true, true, true, true, true, true, true, true, true, false, false, false] rfl rfl (any_of HT_.out (by kernel_rfl)) (fun _ _ _ h => h) (Or.inl ⟨by rfl, ?_⟩) ?_ ?_
                          rotate_left
                          · intro w'
                            go_simp
                            with_reducible rfl
                          rotate_left
                          · simp only [Act.put, List.setIfInBounds_toArray, List.set_cons_zero, List.set_cons_succ, i64_w, i32_w]
                            rfl
                          refine pure_ (i := 9) (N := some 90) (v := ?_) (a' := ?_) #[true, true, true, true, true, true, true, true, true, true, false, false] rfl rfl (any_of HT_.out (by kernel_rfl)) (fun _ _ _ h => h) (Or.inl ⟨by rfl, ?_⟩) ?_ ?_
                          rotate_left
                          · intro w'
                            go_simp
                            with_reducible rfl
                          rotate_left
                          · simp only [Act.put, List.setIfInBounds_toArray, List.set_cons_zero, List.set_cons_succ, i64_w, i32_w]
                            rfl
                          refine pure_ (i := 10) (N := some 13) (v := ?_) (a' := ?_) #[true, true, true, true, true, true, true, true, true, true, true, false] rfl rfl (any_of HT_.out (by kernel_rfl)) (fun _ _ _ h => h) (Or.inl ⟨by rfl, ?_⟩) ?_ ?_
                          rotate_left
                          · intro w'
                            go_simp
                            with_reducible rfl
                          rotate_left
                          · simp only [Act.put, List.setIfInBounds_toArray, List.set_cons_zero, List.set_cons_succ, i64_w, i32_w]
                            rfl
                          refine pure_ (i := 11) (N := some 14) (v := ?_) (a' := ?_) #[true, true, true, true, true, true, true, true, true, true, true, true] rfl rfl (any_of HT_.out (by kernel_rfl)) (fun _ _ _ h => h) (Or.inl ⟨by rfl, ?_⟩) ?_ ?_
                          rotate_left
                          · intro w'
                            go_simp
                            with_reducible rfl
                          rotate_left
                          · simp only [Act.put, List.setIfInBounds_toArray, List.set_cons_zero, List.set_cons_succ, i64_w, i32_w]
                            rfl
                          refine done_ (done_of HT_.out (by kernel_rfl)) ?_
                          have hcz54_0 : w53.cell? ⟨gb242, 0, none⟩ = some (.int .u64 0) := (blk_cell BK242.out 0).trans rfl
                          have hcz54_1 : w53.cell? ⟨gb242, 1, none⟩ = some (.int .u64 a1) := (blk_cell BK242.out 1).trans rfl
                          have hcz54_2 : w53.cell? ⟨gb242, 2, none⟩ = some (.slice Ao48 x243002_3.length co48) := (blk_cell BK242.out 2).trans rfl
                          have hfz54_0 := blk_frozen BK242.out 0
                          have hfz54_1 := blk_frozen BK242.out 1
                          have hfz54_2 := blk_frozen BK242.out 2
                          try go_wp2_with (first | (go_at_call 53; (with_reducible refine (impl_NewRange.calls k3 0 a1 _ _ x243002_3 true _ ?side1 ?side2 A40.out).mono ?_); (case side1 => repeat (first | exact HOC.out | (with_reducible refine Kd.C_alloc ?_ _) | (with_reducible refine Kd.C_drewN ?_ _) | (with_reducible refine Kd.C_drew ?_))); (case side2 => exact HOCL.out); rintro e w55 ⟨rfl, hb⟩; have n0_ := Aside0.mk (Kd.V_below (by (with_reducible repeat (first | apply Kd.V_alloc | apply Kd.V_drewN | apply Kd.V_drew)); exact HO_2.out) hb); have n1_ := Aside0.mk (Kd.V_below (by (with_reducible repeat (first | apply Kd.V_alloc | apply Kd.V_drewN | apply Kd.V_drew)); exact HO_3.out) hb); have n2_ := Aside0.mk (Kd.V_below (by (with_reducible repeat (first | apply Kd.V_alloc | apply Kd.V_drewN | apply Kd.V_drew)); exact HO249.out) hb); have n3_ := Aside0.mk (Kd.N_below (by (with_reducible repeat (first | apply Kd.N_alloc | apply Kd.N_drewN | apply Kd.N_drew)); exact HO258.out) hb); have n4_ := Aside0.mk (Kd.R_below (by (with_reducible repeat (first | apply Kd.R_alloc | apply Kd.R_drewN | apply Kd.R_drew)); exact HO261.out) hb); have n5_ := Aside0.mk (blk_below (g := gb236) (o := .cells #[.int .i64 a0_0, .int .i64 a0_1, .int .i64 a0_2, .int .u64 a0_3, .int .u64 a0_4, .int .u64 a0_5] 37 (0, 0)) (by (with_reducible repeat (first | refine blk_drewN ?_ _ | refine blk_drew ?_ | refine blk_alloc ?_ _)); exact BK236.out) hb); have n6_ := Aside0.mk (blk_below (g := gb242) (o := .cells #[.int .u64 0, .int .u64 a1, .slice Ao48 x243002_3.length co48] 40 (0, 0)) (by (with_reducible repeat (first | refine blk_drewN ?_ _ | refine blk_drew ?_ | refine blk_alloc ?_ _)); exact BK242.out) hb); have n7_ := Aside0.mk (below_step (by repeat (first | (with_reducible first | exact HB.out | apply below_alloc | apply pw_below_drewN | apply below_drew1 | refine below_set ?_ GE236.out | refine below_set ?_ GE242.out) | exact HB.out)) hb); clear HO_2; clear HO_3; clear HO249; clear HO258; clear HO261; clear BK236; clear BK242; clear HB; have HO_2 := n0_; have HO_3 := n1_; have HO249 := n2_; have HO258 := n3_; have HO261 := n4_; have BK236 := n5_; have BK242 := n6_; have HB := n7_; clear n0_ n1_ n2_ n3_ n4_ n5_ n6_ n7_; (try clear hb); (try clear hb2); (try clear hk); (try clear hi); obtain ⟨Ao56, co56, eo56⟩ := Kd.V_slice HO249.out; subst eo56; obtain ⟨Ao57, co57, eo57⟩ := Kd.R_slice HO261.out; subst eo57) | (go_at_call 25; (with_reducible refine (spec_SameText.calls _ _ t247 _ _ t259 t264 _ ?side1 ?side2 ?side3 ?side4 A42.out).mono ?_); (case side1 => repeat (first | exact (Kd.V_reads' HO249.out).2.2 | (with_reducible refine Kd.C_alloc ?_ _) | (with_reducible refine Kd.C_drewN ?_ _) | (with_reducible refine Kd.C_drew ?_))); (case side2 => exact (Kd.V_reads' HO249.out).2.1); (case side3 => repeat (first | exact (Kd.R_reads' HO261.out).2.2 | (with_reducible refine Kd.C_alloc ?_ _) | (with_reducible refine Kd.C_drewN ?_ _) | (with_reducible refine Kd.C_drew ?_))); (case side4 => exact (Kd.R_reads' HO261.out).2.1); rintro e w' ⟨rfl, ⟨nd, rfl⟩⟩))
                          go_ret
                          exact ⟨by first | rfl | (simp [errW_none, errW_some] <;> rfl) | (simp [*, errW_none, errW_some] <;> rfl), by repeat (first | (with_reducible first | exact HB.out | apply below_alloc | apply pw_below_drewN | apply below_drew1 | refine below_set ?_ GE236.out | refine below_set ?_ GE242.out) | exact HB.out)⟩
                        · replace c41 := Bool.eq_false_iff.mpr c41
                          subst c41
                          have H1 : (none) = some r := by rw [if_neg (show ¬ (false = true) by decide)] at H; exact H
                          clear H
                          have H := H1
                          clear H1
                          exact absurd H (by simp)
                      · replace c39 := Bool.eq_false_iff.mpr c39
                        subst c39
                        have H1 : (none) = some r := by rw [if_neg (show ¬ (false = true) by decide)] at H; exact H
                        clear H
                        have H := H1
                        clear H1
                        exact absurd H (by simp)
                    · replace c38 := Bool.eq_false_iff.mpr c38
                      subst c38
                      have H1 : (none) = some r := by rw [if_neg (show ¬ (false = true) by decide)] at H; exact H
                      clear H
                      have H := H1
                      clear H1
                      exact absurd H (by simp)
end Go.Proofs.YtijldedhcjkhiaaDoor.T
